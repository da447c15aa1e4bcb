import JvmDerived
import JvmDerived.Pilot.@@N@@Statement
import JvmDerived.Pilot.@@N@@Code
set_option linter.unusedVariables false
set_option linter.unusedSimpArgs false
@@BLOCK:NumsL.lean.txt@@
@@BLOCK:Masks.lean.txt@@
namespace Jvm.Own
open Sem ClassFile Op Lib Jvm.Stand Jvm.Free Jvm.LawKit Jvm.RoadKit
/-! ## A program logic over an abstract heap: references count from the start's heap size. -/
def cv (k : Nat) : Value → Value
  | .ref i => .ref (k + i)
  | v => v
def cs (k : Nat) : Slot → Slot
  | .val v => .val (cv k v)
  | .unset => .unset
  | .second => .second
theorem cv_cat (k : Nat) (v : Value) : (cv k v).category = v.category := by cases v <;> rfl
theorem cv_isRef (k : Nat) (v : Value) : (cv k v).isRef = v.isRef := by cases v <;> rfl
theorem cv_fits (k : Nat) (t : FieldType) (v : Value) : fits t (cv k v) = fits t v := by cases v <;> cases t <;> rfl
theorem cv_narrow (k : Nat) (t : FieldType) (v : Value) : narrow t (cv k v) = cv k (narrow t v) := by cases v <;> cases t <;> rfl
theorem cv_default (k : Nat) (t : FieldType) : cv k (defaultValue t) = defaultValue t := by cases t <;> rfl
theorem cat_map (k : Nat) (S : List Value) : ((S.map (cv k)).map fun v => v.category) = S.map fun v => v.category := by
  rw [List.map_map]; exact List.map_congr_left fun v _ => cv_cat k v
/-- an object: the number of its class, its fields' values; or an array: its kind, its values -/
abbrev ACell := (Nat × List Value) ⊕ (FieldType × List Value)
abbrev AHeap := List ACell
/-- the classes: name, slots, fields (declaring class, name, descriptor, type) -/
abbrev KTab := List (String × Nat × List (String × String × String × FieldType))
/-- a method: name, bytes, max_locals, return type -/
abbrev Mth := MethodName × ByteArray × Nat × Option FieldType
def CellOk (Z : State) (K : KTab) (h : Heap) (a : Addr) : ACell → Prop
  | .inl (c, vs) => ∃ (C : String) (n : Nat) (fs : List (String × String × String × FieldType)), K[c]? = some (C, n, fs) ∧ vs.length = fs.length ∧ Exa Z h a C ∧ ∀ (j : Nat) (f : String × String × String × FieldType) (v : Value), fs[j]? = some f → vs[j]? = some v → Fld Z h a f.1 f.2.1 f.2.2.1 (cv Z.heap.size v)
  | .inr (ty, vs) => ∃ cell : Cell, Arr Z h a cell ty ∧ cell.slots = (vs.map (cv Z.heap.size)).toArray ∧ ∀ v ∈ vs, fits ty v = true
def Rel (Z : State) (K : KTab) (h : Heap) (H : AHeap) : Prop :=
  h.size = Z.heap.size + H.length ∧ ∀ (i : Nat) (c : ACell), H[i]? = some c → CellOk Z K h (Z.heap.size + i) c
def FOk (tb : List Cond) (C : String) (f : String × String × String × FieldType) : Prop :=
  (Cond.lays C f.1 f.2.1 f.2.2.1 ∈ tb ∨ Cond.laysFinal C f.1 f.2.1 f.2.2.1 ∈ tb) ∧ parseFieldDescriptor f.2.2.1 = some f.2.2.2
def KOk (tb : List Cond) (K : KTab) : Prop :=
  ∀ q ∈ K, Cond.instantiable q.1 q.2.1 ∈ tb ∧ (∀ f ∈ q.2.2, FOk tb q.1 f) ∧ (q.2.2.map fun f => f.2.1).Nodup
theorem KOk.nil {tb : List Cond} : KOk tb [] := fun _ h => nomatch h
theorem KOk.cons {tb : List Cond} {K : KTab} {q : String × Nat × List (String × String × String × FieldType)} (h1 : Cond.instantiable q.1 q.2.1 ∈ tb) (h2 : ∀ f ∈ q.2.2, FOk tb q.1 f) (h3 : (q.2.2.map fun f => f.2.1).Nodup) (h : KOk tb K) : KOk tb (q :: K) := fun x hx => by
  rcases List.mem_cons.mp hx with rfl | hx
  · exact ⟨h1, h2, h3⟩
  · exact h x hx
theorem fok0 {tb : List Cond} {C : String} : ∀ f ∈ ([] : List (String × String × String × FieldType)), FOk tb C f := fun _ h => nomatch h
theorem fokS {tb : List Cond} {C : String} {g : String × String × String × FieldType} {L : List (String × String × String × FieldType)} (h1 : FOk tb C g) (h2 : ∀ f ∈ L, FOk tb C f) : ∀ f ∈ g :: L, FOk tb C f := fun f hf => by
  rcases List.mem_cons.mp hf with rfl | hf
  · exact h1
  · exact h2 f hf
/-- where a walk stands -/
def Here (tb : List Cond) (K : KTab) (μ : Mth) (rm : Room) (H : AHeap) (Z : State) (a0 : Array Value) (p : Program) (l : Launch) (e : Env) (R : Room) (s : State) (m : MethodId) (args : Array Value) (below : List Frame) (meth : Method) (c : Code)
    (T : State) (locs : List Loc) (cells slots : Nat) : Prop :=
  Stand p l e R s m args below meth c T locs cells slots ∧ p.tables.exec = Jvm.exec ∧ Z.Warmed39 s.vm ∧ (∀ d ∈ tb, d.before a0 Z = true) ∧ c.code = μ.2.1 ∧ c.maxLocals = μ.2.2.1 ∧ meth.sig.returnType = μ.2.2.2 ∧ meth.name = μ.1.name ∧ meth.locks = false ∧
    s.vm.findClass μ.1.cls = some m.cls ∧ Rel Z K T.heap H ∧ Fr Z.heap.size locs ∧ rm.frames ≤ R.frames ∧ cells + rm.cells ≤ R.cells ∧ slots + rm.slots ≤ R.slots ∧ rm.locals ≤ R.locals
/-- how it ends -/
def Ends (K : KTab) (Q : Option Value → AHeap → Prop) (Z : State) (p : Program) (e : Env) (R : Room) (s : State) (below : List Frame) (T0 : State) : Prop :=
  ∃ (v : Option Value) (H' : AHeap) (T : State) (locs : List Loc) (fs : List Frame), Q v H' ∧ Steps p.tables e below T0 (T.setFrames fs) ∧ (T.setFrames fs).status = .running ∧ Ended (T.setFrames fs) below (.returned (v.map (cv Z.heap.size))) ∧
    s.WarmedH (T.setFrames fs).vm ∧ s.sameButNew ({ T.setFrames fs with vm := s.vm } : State) locs R.cells R.slots ∧ Fr Z.heap.size locs ∧ Rel Z K T.heap H'
/-- from the frame (pc, L, S) over the heap H the body returns, and Q -/
def W (tb : List Cond) (K : KTab) (μ : Mth) (rm : Room) (pc : Nat) (L : List Slot) (S : List Value) (H : AHeap) (Q : Option Value → AHeap → Prop) : Prop :=
  L.length = μ.2.2.1 → ∀ (Z : State) (a0 : Array Value) (p : Program) (l : Launch) (e : Env) (R : Room) (s : State) (m : MethodId) (args : Array Value) (below : List Frame) (meth : Method) (c : Code) (T : State) (locs : List Loc) (cells slots : Nat),
    Here tb K μ rm H Z a0 p l e R s m args below meth c T locs cells slots → Ends K Q Z p e R s below (T.setTop (mkF m pc (L.map (cs Z.heap.size)).toArray (S.map (cv Z.heap.size))))
/-- a call of μ comes back, and Q -/
def M (tb : List Cond) (K : KTab) (μ : Mth) (rm : Room) (as : List Value) (H : AHeap) (Q : Option Value → AHeap → Prop) : Prop :=
  ∀ (Z : State) (a0 : Array Value), (∀ d ∈ tb, d.before a0 Z = true) → ∀ (l : Launch) (h : Heap) (ws : List Cond), Rel Z K h H →
    MetFree l μ.1 (head1 (Cond.code μ.1 μ.2.1 μ.2.2.1 μ.2.2.2 :: ws) rm) (fun a U => a = (as.map (cv Z.heap.size)).toArray ∧ Z.Warmed39 U.vm ∧ U.heap = h) (fun _ _ _ _ _ => True)
      (fun _ U o U' => ∃ v L, o = .returned v ∧ (∃ v' H', v = v'.map (cv Z.heap.size) ∧ Rel Z K U'.heap H' ∧ Q v' H' ∧ Fr Z.heap.size L) ∧ FrameEnd U o U' L rm.cells rm.slots)
section Logic
variable {tb : List Cond} {K : KTab} {μ : Mth} {rm : Room} {pc : Nat} {L : List Slot} {S : List Value} {H : AHeap} {Q Q' : Option Value → AHeap → Prop}
theorem Ends.mono {Z : State} {p : Program} {e : Env} {R : Room} {s : State} {below : List Frame} {T0 : State} (h : Ends K Q Z p e R s below T0) (hq : ∀ v H, Q v H → Q' v H) : Ends K Q' Z p e R s below T0 := by
  obtain ⟨v, H', T, locs, fs, h1, r⟩ := h; exact ⟨v, H', T, locs, fs, hq _ _ h1, r⟩
theorem W.mono (h : W tb K μ rm pc L S H Q) (hq : ∀ v H, Q v H → Q' v H) : W tb K μ rm pc L S H Q' := fun hl Z a0 p l e R s m args below meth c T locs cells slots X => (h hl Z a0 p l e R s m args below meth c T locs cells slots X).mono hq
theorem M.mono {as : List Value} (h : M tb K μ rm as H Q) (hq : ∀ v H, Q v H → Q' v H) : M tb K μ rm as H Q' := fun Z a0 hw l h0 ws hr p e ha hc hk s m args below hf happ hP hK => by
  obtain ⟨n, o, h1, h2, h3, v, L, h4, ⟨v', H', h5, h6, h7, h8⟩, h9⟩ := h Z a0 hw l h0 ws hr p e ha hc hk s m args below hf happ hP hK
  exact ⟨n, o, h1, h2, h3, v, L, h4, ⟨v', H', h5, h6, hq _ _ h7, h8⟩, h9⟩
theorem Ends.steps {Z : State} {p : Program} {e : Env} {R : Room} {s : State} {below : List Frame} {T0 T1 : State} (st : ∀ target, Steps p.tables e below T1 target → Steps p.tables e below T0 target) (h : Ends K Q Z p e R s below T1) : Ends K Q Z p e R s below T0 := by
  obtain ⟨v, H', T, locs, fs, h1, h2, r⟩ := h; exact ⟨v, H', T, locs, fs, h1, st _ h2, r⟩
/-- a step that moves the frame alone -/
theorem W.pure {pc' : Nat} {L' : List Slot} {S' : List Value} (hl : L'.length = L.length)
    (st : ∀ (k : Nat) (p : Program) (e : Env) (m : MethodId) (below : List Frame) (c : Code) (T : State), At T m c below → p.tables.exec = Jvm.exec → c.code = μ.2.1 → ∀ target, Steps p.tables e below (T.setTop (mkF m pc' (L'.map (cs k)).toArray (S'.map (cv k)))) target → Steps p.tables e below (T.setTop (mkF m pc (L.map (cs k)).toArray (S.map (cv k)))) target)
    (h : W tb K μ rm pc' L' S' H Q) : W tb K μ rm pc L S H Q := fun hL Z a0 p l e R s m args below meth c T locs cells slots X =>
  (h (hl.trans hL) Z a0 p l e R s m args below meth c T locs cells slots X).steps (st _ p e m below c T X.1.here X.2.1 X.2.2.2.2.1)
theorem get_conc {k : Nat} {i : Nat} {v : Value} (h : L[i]? = some (.val v)) : (L.map (cs k)).toArray[i]? = some (.val (cv k v)) := by
  simp [h, cs]
theorem W.iload_n {i : Fin 4} {x : Int32} (hd : decode μ.2.1 pc = .ok (.iload_n i, 1)) (hl : L[i.val]? = some (.val (.int x))) (h : W tb K μ rm (pc + 1) L (.int x :: S) H Q) : W tb K μ rm pc L S H Q :=
  W.pure rfl (fun k p e m below c T hA hx hb' t ht => XS.iloadN hA hx rfl (hb hb' hd) (get_conc hl) ht) h
theorem W.iload {i : Nat} {x : Int32} (hd : decode μ.2.1 pc = .ok (.iload i, 2)) (hl : L[i]? = some (.val (.int x))) (h : W tb K μ rm (pc + 2) L (.int x :: S) H Q) : W tb K μ rm pc L S H Q :=
  W.pure rfl (fun k p e m below c T hA hx hb' t ht => XS.iload hA hx rfl (hb hb' hd) (get_conc hl) ht) h
theorem W.lload_n {i : Fin 4} {x : Int64} (hd : decode μ.2.1 pc = .ok (.lload_n i, 1)) (hl : L[i.val]? = some (.val (.long x))) (h : W tb K μ rm (pc + 1) L (.long x :: S) H Q) : W tb K μ rm pc L S H Q :=
  W.pure rfl (fun k p e m below c T hA hx hb' t ht => XS.lloadN hA hx rfl (hb hb' hd) (get_conc hl) ht) h
theorem W.lload {i : Nat} {x : Int64} (hd : decode μ.2.1 pc = .ok (.lload i, 2)) (hl : L[i]? = some (.val (.long x))) (h : W tb K μ rm (pc + 2) L (.long x :: S) H Q) : W tb K μ rm pc L S H Q :=
  W.pure rfl (fun k p e m below c T hA hx hb' t ht => XS.lload hA hx rfl (hb hb' hd) (get_conc hl) ht) h
theorem W.aload_n {i : Fin 4} {v : Value} (hd : decode μ.2.1 pc = .ok (.aload_n i, 1)) (hl : L[i.val]? = some (.val v)) (hv : v.isRef = true) (h : W tb K μ rm (pc + 1) L (v :: S) H Q) : W tb K μ rm pc L S H Q :=
  W.pure rfl (fun k p e m below c T hA hx hb' t ht => XS.aloadN hA hx rfl (hb hb' hd) (get_conc hl) (by rw [cv_isRef]; exact hv) ht) h
theorem W.aload {i : Nat} {v : Value} (hd : decode μ.2.1 pc = .ok (.aload i, 2)) (hl : L[i]? = some (.val v)) (hv : v.isRef = true) (h : W tb K μ rm (pc + 2) L (v :: S) H Q) : W tb K μ rm pc L S H Q :=
  W.pure rfl (fun k p e m below c T hA hx hb' t ht => XS.aload hA hx rfl (hb hb' hd) (get_conc hl) (by rw [cv_isRef]; exact hv) ht) h
theorem W.iadd {x y : Int32} (hd : decode μ.2.1 pc = .ok (.iadd, 1)) (h : W tb K μ rm (pc + 1) L (.int (x + y) :: S) H Q) : W tb K μ rm pc L (.int y :: .int x :: S) H Q :=
  W.pure rfl (fun k p e m below c T hA hx hb' t ht => XS.iadd hA hx rfl (hb hb' hd) rfl ht) h
theorem W.isub {x y : Int32} (hd : decode μ.2.1 pc = .ok (.isub, 1)) (h : W tb K μ rm (pc + 1) L (.int (x - y) :: S) H Q) : W tb K μ rm pc L (.int y :: .int x :: S) H Q :=
  W.pure rfl (fun k p e m below c T hA hx hb' t ht => XS.isub hA hx rfl (hb hb' hd) rfl ht) h
theorem W.imul {x y : Int32} (hd : decode μ.2.1 pc = .ok (.imul, 1)) (h : W tb K μ rm (pc + 1) L (.int (x * y) :: S) H Q) : W tb K μ rm pc L (.int y :: .int x :: S) H Q :=
  W.pure rfl (fun k p e m below c T hA hx hb' t ht => XS.imul hA hx rfl (hb hb' hd) rfl ht) h
theorem W.idiv {x y : Int32} (hd : decode μ.2.1 pc = .ok (.idiv, 1)) (hy : y ≠ 0) (h : W tb K μ rm (pc + 1) L (.int (x / y) :: S) H Q) : W tb K μ rm pc L (.int y :: .int x :: S) H Q :=
  W.pure rfl (fun k p e m below c T hA hx hb' t ht => XS.idiv hA hx rfl (hb hb' hd) rfl hy ht) h
theorem W.irem {x y : Int32} (hd : decode μ.2.1 pc = .ok (.irem, 1)) (hy : y ≠ 0) (h : W tb K μ rm (pc + 1) L (.int (x % y) :: S) H Q) : W tb K μ rm pc L (.int y :: .int x :: S) H Q :=
  W.pure rfl (fun k p e m below c T hA hx hb' t ht => XS.irem hA hx rfl (hb hb' hd) rfl hy (by rw [irem_eq_mod x y]; exact ht)) h
theorem W.ineg {x : Int32} (hd : decode μ.2.1 pc = .ok (.ineg, 1)) (h : W tb K μ rm (pc + 1) L (.int (-x) :: S) H Q) : W tb K μ rm pc L (.int x :: S) H Q :=
  W.pure rfl (fun k p e m below c T hA hx hb' t ht => XS.ineg hA hx rfl (hb hb' hd) rfl ht) h
theorem W.iand {x y : Int32} (hd : decode μ.2.1 pc = .ok (.iand, 1)) (h : W tb K μ rm (pc + 1) L (.int (x &&& y) :: S) H Q) : W tb K μ rm pc L (.int y :: .int x :: S) H Q :=
  W.pure rfl (fun k p e m below c T hA hx hb' t ht => XS.iand hA hx rfl (hb hb' hd) rfl ht) h
theorem W.ior {x y : Int32} (hd : decode μ.2.1 pc = .ok (.ior, 1)) (h : W tb K μ rm (pc + 1) L (.int (x ||| y) :: S) H Q) : W tb K μ rm pc L (.int y :: .int x :: S) H Q :=
  W.pure rfl (fun k p e m below c T hA hx hb' t ht => XT.ior hA hx rfl (hb hb' hd) rfl ht) h
theorem W.ixor {x y : Int32} (hd : decode μ.2.1 pc = .ok (.ixor, 1)) (h : W tb K μ rm (pc + 1) L (.int (x ^^^ y) :: S) H Q) : W tb K μ rm pc L (.int y :: .int x :: S) H Q :=
  W.pure rfl (fun k p e m below c T hA hx hb' t ht => XT.ixor hA hx rfl (hb hb' hd) rfl ht) h
theorem W.ishl {x y : Int32} (hd : decode μ.2.1 pc = .ok (.ishl, 1)) (h : W tb K μ rm (pc + 1) L (.int (x <<< (y &&& 31)) :: S) H Q) : W tb K μ rm pc L (.int y :: .int x :: S) H Q :=
  W.pure rfl (fun k p e m below c T hA hx hb' t ht => XT.ishl hA hx rfl (hb hb' hd) rfl ht) h
theorem W.ishr {x y : Int32} (hd : decode μ.2.1 pc = .ok (.ishr, 1)) (h : W tb K μ rm (pc + 1) L (.int (x >>> (y &&& 31)) :: S) H Q) : W tb K μ rm pc L (.int y :: .int x :: S) H Q :=
  W.pure rfl (fun k p e m below c T hA hx hb' t ht => XT.ishr hA hx rfl (hb hb' hd) rfl ht) h
theorem W.iushr {x y : Int32} (hd : decode μ.2.1 pc = .ok (.iushr, 1)) (h : W tb K μ rm (pc + 1) L (.int (XT.ushr x y) :: S) H Q) : W tb K μ rm pc L (.int y :: .int x :: S) H Q :=
  W.pure rfl (fun k p e m below c T hA hx hb' t ht => XT.iushr hA hx rfl (hb hb' hd) rfl ht) h
theorem W.ladd {x y : Int64} (hd : decode μ.2.1 pc = .ok (.ladd, 1)) (h : W tb K μ rm (pc + 1) L (.long (x + y) :: S) H Q) : W tb K μ rm pc L (.long y :: .long x :: S) H Q :=
  W.pure rfl (fun k p e m below c T hA hx hb' t ht => XT.ladd hA hx rfl (hb hb' hd) rfl ht) h
theorem W.lsub {x y : Int64} (hd : decode μ.2.1 pc = .ok (.lsub, 1)) (h : W tb K μ rm (pc + 1) L (.long (x - y) :: S) H Q) : W tb K μ rm pc L (.long y :: .long x :: S) H Q :=
  W.pure rfl (fun k p e m below c T hA hx hb' t ht => XT.lsub hA hx rfl (hb hb' hd) rfl ht) h
theorem W.lmul {x y : Int64} (hd : decode μ.2.1 pc = .ok (.lmul, 1)) (h : W tb K μ rm (pc + 1) L (.long (x * y) :: S) H Q) : W tb K μ rm pc L (.long y :: .long x :: S) H Q :=
  W.pure rfl (fun k p e m below c T hA hx hb' t ht => XT.lmul hA hx rfl (hb hb' hd) rfl ht) h
theorem W.ldiv {x y : Int64} (hd : decode μ.2.1 pc = .ok (.ldiv, 1)) (hy : y ≠ 0) (h : W tb K μ rm (pc + 1) L (.long (x / y) :: S) H Q) : W tb K μ rm pc L (.long y :: .long x :: S) H Q :=
  W.pure rfl (fun k p e m below c T hA hx hb' t ht => XT.ldiv hA hx rfl (hb hb' hd) rfl hy ht) h
theorem W.land {x y : Int64} (hd : decode μ.2.1 pc = .ok (.land, 1)) (h : W tb K μ rm (pc + 1) L (.long (x &&& y) :: S) H Q) : W tb K μ rm pc L (.long y :: .long x :: S) H Q :=
  W.pure rfl (fun k p e m below c T hA hx hb' t ht => XT.land hA hx rfl (hb hb' hd) rfl ht) h
theorem W.lor {x y : Int64} (hd : decode μ.2.1 pc = .ok (.lor, 1)) (h : W tb K μ rm (pc + 1) L (.long (x ||| y) :: S) H Q) : W tb K μ rm pc L (.long y :: .long x :: S) H Q :=
  W.pure rfl (fun k p e m below c T hA hx hb' t ht => XT.lor hA hx rfl (hb hb' hd) rfl ht) h
theorem W.lxor {x y : Int64} (hd : decode μ.2.1 pc = .ok (.lxor, 1)) (h : W tb K μ rm (pc + 1) L (.long (x ^^^ y) :: S) H Q) : W tb K μ rm pc L (.long y :: .long x :: S) H Q :=
  W.pure rfl (fun k p e m below c T hA hx hb' t ht => XT.lxor hA hx rfl (hb hb' hd) rfl ht) h
theorem W.lshl {x : Int64} {y : Int32} (hd : decode μ.2.1 pc = .ok (.lshl, 1)) (h : W tb K μ rm (pc + 1) L (.long (x <<< (y.toInt64 &&& 63)) :: S) H Q) : W tb K μ rm pc L (.int y :: .long x :: S) H Q :=
  W.pure rfl (fun k p e m below c T hA hx hb' t ht => XT.lshl hA hx rfl (hb hb' hd) rfl ht) h
theorem W.lushr {x : Int64} {y : Int32} (hd : decode μ.2.1 pc = .ok (.lushr, 1)) (h : W tb K μ rm (pc + 1) L (.long (XT.ushrL x y) :: S) H Q) : W tb K μ rm pc L (.int y :: .long x :: S) H Q :=
  W.pure rfl (fun k p e m below c T hA hx hb' t ht => XT.lushr hA hx rfl (hb hb' hd) rfl ht) h
theorem W.lcmp {x y : Int64} (hd : decode μ.2.1 pc = .ok (.lcmp, 1)) (h : W tb K μ rm (pc + 1) L (.int (XT.cmpL x y) :: S) H Q) : W tb K μ rm pc L (.long y :: .long x :: S) H Q :=
  W.pure rfl (fun k p e m below c T hA hx hb' t ht => XT.lcmp hA hx rfl (hb hb' hd) rfl ht) h
theorem W.i2l {x : Int32} (hd : decode μ.2.1 pc = .ok (.i2l, 1)) (h : W tb K μ rm (pc + 1) L (.long x.toInt64 :: S) H Q) : W tb K μ rm pc L (.int x :: S) H Q :=
  W.pure rfl (fun k p e m below c T hA hx hb' t ht => XT.i2l hA hx rfl (hb hb' hd) rfl ht) h
theorem W.l2i {x : Int64} (hd : decode μ.2.1 pc = .ok (.l2i, 1)) (h : W tb K μ rm (pc + 1) L (.int x.toInt32 :: S) H Q) : W tb K μ rm pc L (.long x :: S) H Q :=
  W.pure rfl (fun k p e m below c T hA hx hb' t ht => XT.l2i hA hx rfl (hb hb' hd) rfl ht) h
theorem W.i2b {x : Int32} (hd : decode μ.2.1 pc = .ok (.i2b, 1)) (h : W tb K μ rm (pc + 1) L (.int x.toInt8.toInt32 :: S) H Q) : W tb K μ rm pc L (.int x :: S) H Q :=
  W.pure rfl (fun k p e m below c T hA hx hb' t ht => XT.i2b hA hx rfl (hb hb' hd) rfl ht) h
theorem W.i2c {x : Int32} (hd : decode μ.2.1 pc = .ok (.i2c, 1)) (h : W tb K μ rm (pc + 1) L (.int x.toUInt32.toUInt16.toUInt32.toInt32 :: S) H Q) : W tb K μ rm pc L (.int x :: S) H Q :=
  W.pure rfl (fun k p e m below c T hA hx hb' t ht => XT.i2c hA hx rfl (hb hb' hd) rfl ht) h
theorem W.iconst {i : Int} (hd : decode μ.2.1 pc = .ok (.iconst i, 1)) (h : W tb K μ rm (pc + 1) L (.int (Int32.ofInt i) :: S) H Q) : W tb K μ rm pc L (S) H Q :=
  W.pure rfl (fun k p e m below c T hA hx hb' t ht => XS.iconst hA hx rfl (hb hb' hd) ht) h
theorem W.bipush {i : Int} (hd : decode μ.2.1 pc = .ok (.bipush i, 2)) (h : W tb K μ rm (pc + 2) L (.int (Int8.ofInt i).toInt32 :: S) H Q) : W tb K μ rm pc L (S) H Q :=
  W.pure rfl (fun k p e m below c T hA hx hb' t ht => XS.bipush hA hx rfl (hb hb' hd) ht) h
theorem W.sipush {i : Int} (hd : decode μ.2.1 pc = .ok (.sipush i, 3)) (h : W tb K μ rm (pc + 3) L (.int (Int16.ofInt i).toInt32 :: S) H Q) : W tb K μ rm pc L (S) H Q :=
  W.pure rfl (fun k p e m below c T hA hx hb' t ht => XS.sipush hA hx rfl (hb hb' hd) ht) h
theorem W.lconst {i : Fin 2} (hd : decode μ.2.1 pc = .ok (.lconst i, 1)) (h : W tb K μ rm (pc + 1) L (.long (Int64.ofNat i) :: S) H Q) : W tb K μ rm pc L (S) H Q :=
  W.pure rfl (fun k p e m below c T hA hx hb' t ht => XT.lconst hA hx rfl (hb hb' hd) ht) h
theorem W.aconst_null  (hd : decode μ.2.1 pc = .ok (.aconst_null, 1)) (h : W tb K μ rm (pc + 1) L (.null :: S) H Q) : W tb K μ rm pc L (S) H Q :=
  W.pure rfl (fun k p e m below c T hA hx hb' t ht => XS.aconstNull hA hx rfl (hb hb' hd) ht) h
theorem W.dup {v : Value} (hd : decode μ.2.1 pc = .ok (.dup, 1)) (hc : v.category = 1) (h : W tb K μ rm (pc + 1) L (v :: v :: S) H Q) : W tb K μ rm pc L (v :: S) H Q :=
  W.pure rfl (fun k p e m below c T hA hx hb' t ht => XS.dup hA hx rfl (hb hb' hd) rfl (by rw [cv_cat]; exact hc) ht) h
theorem W.pop {v : Value} (hd : decode μ.2.1 pc = .ok (.pop, 1)) (hc : v.category = 1) (h : W tb K μ rm (pc + 1) L (S) H Q) : W tb K μ rm pc L (v :: S) H Q :=
  W.pure rfl (fun k p e m below c T hA hx hb' t ht => XT.pop hA hx rfl (hb hb' hd) rfl (by rw [cv_cat]; exact hc) ht) h
theorem W.dup_x1 {v w : Value} (hd : decode μ.2.1 pc = .ok (.dup_x1, 1)) (hc : v.category = 1) (hc' : w.category = 1) (h : W tb K μ rm (pc + 1) L (v :: w :: v :: S) H Q) : W tb K μ rm pc L (v :: w :: S) H Q :=
  W.pure rfl (fun k p e m below c T hA hx hb' t ht => XT.dupX1 hA hx rfl (hb hb' hd) rfl (by rw [cv_cat]; exact hc) (by rw [cv_cat]; exact hc') ht) h
theorem W.iconst' {i : Int} {x : Int32} (hd : decode μ.2.1 pc = .ok (.iconst i, 1)) (hx : Int32.ofInt i = x) (h : W tb K μ rm (pc + 1) L (.int x :: S) H Q) : W tb K μ rm pc L S H Q := W.iconst hd (by rw [hx]; exact h)
theorem W.bipush' {i : Int} {x : Int32} (hd : decode μ.2.1 pc = .ok (.bipush i, 2)) (hx : (Int8.ofInt i).toInt32 = x) (h : W tb K μ rm (pc + 2) L (.int x :: S) H Q) : W tb K μ rm pc L S H Q := W.bipush hd (by rw [hx]; exact h)
theorem W.sipush' {i : Int} {x : Int32} (hd : decode μ.2.1 pc = .ok (.sipush i, 3)) (hx : (Int16.ofInt i).toInt32 = x) (h : W tb K μ rm (pc + 3) L (.int x :: S) H Q) : W tb K μ rm pc L S H Q := W.sipush hd (by rw [hx]; exact h)
theorem W.lconst' {i : Fin 2} {x : Int64} (hd : decode μ.2.1 pc = .ok (.lconst i, 1)) (hx : Int64.ofNat i = x) (h : W tb K μ rm (pc + 1) L (.long x :: S) H Q) : W tb K μ rm pc L S H Q := W.lconst hd (by rw [hx]; exact h)
/-- a local of one word -/
def one : Slot → Bool
  | .unset => true
  | .val v => v.category == 1
  | .second => false
theorem cs_one {k : Nat} {o : Slot} (h : one o = true) : cs k o = .unset ∨ ∃ w, cs k o = .val w ∧ w.category = 1 := by
  cases o with
  | unset => exact Or.inl rfl
  | second => cases h
  | val v => exact Or.inr ⟨cv k v, rfl, by rw [cv_cat]; simpa [one] using h⟩
theorem set_conc {k i : Nat} {x : Slot} : (L.map (cs k)).toArray.setIfInBounds i (cs k x) = ((L.set i x).map (cs k)).toArray := by
  simp [List.map_set]
theorem sto1 {k i : Nat} {o : Slot} {v : Value} (hl : L[i]? = some o) (ho : one o = true) (hv : v.category = 1) : storeLocals (L.map (cs k)).toArray i (cv k v) = some ((L.set i (.val v)).map (cs k)).toArray := by
  rw [XS.store1 (o := cs k o) (by simp [hl]) (cs_one ho) (by rw [cv_cat]; exact hv)]
  exact congrArg some (set_conc (x := .val v))
/-- over the first half of a long -/
theorem sto1w {k i : Nat} {w v : Value} (hl : L[i]? = some (.val w)) (ho : w.category = 2) (hi : i + 1 < L.length) (hv : v.category = 1) : storeLocals (L.map (cs k)).toArray i (cv k v) = some (((L.set (i + 1) .unset).set i (.val v)).map (cs k)).toArray := by
  have h0 : i < L.length := by omega
  have e : L[i] = .val w := by rw [List.getElem?_eq_getElem h0] at hl; exact Option.some.inj hl
  simp [storeLocals, storeSelf, setAt, h0, e, cs, cv_cat, ho, hi, hv, List.map_set]
/-- over the second half of a long -/
theorem sto1s {k i : Nat} {v : Value} (hl : L[i]? = some .second) (hi : 0 < i) (hv : v.category = 1) : storeLocals (L.map (cs k)).toArray i (cv k v) = some (((L.set (i - 1) .unset).set i (.val v)).map (cs k)).toArray := by
  have h0 : i < L.length := (List.getElem?_eq_some_iff.mp hl).1
  have e : L[i] = .second := by rw [List.getElem?_eq_getElem h0] at hl; exact Option.some.inj hl
  have h1 : i - 1 < L.length := by omega
  simp [storeLocals, storeSelf, setAt, h0, h1, e, cs, cv_cat, hv, List.map_set]
/-- what a long may be stored over -/
def two : Slot → Slot → Bool
  | .second, _ => false
  | _, .val w => w.category == 1
  | _, _ => true
theorem sto2 {k i : Nat} {o o' : Slot} {x : Int64} (hl : L[i]? = some o) (hl' : L[i + 1]? = some o') (ho : two o o' = true) : storeLocals (L.map (cs k)).toArray i (.long x) = some (((L.set i (.val (.long x))).set (i + 1) .second).map (cs k)).toArray := by
  have h0 : i < L.length := (List.getElem?_eq_some_iff.mp hl).1
  have h1 : i + 1 < L.length := (List.getElem?_eq_some_iff.mp hl').1
  have e : L[i] = o := by rw [List.getElem?_eq_getElem h0] at hl; exact Option.some.inj hl
  have e' : L[i + 1] = o' := by rw [List.getElem?_eq_getElem h1] at hl'; exact Option.some.inj hl'
  have ne : ¬ (i = i + 1) := by omega
  have c2 : (Value.long x).category = 2 := rfl
  have cl : cv k (.long x) = .long x := rfl
  have sw : ∀ (l : List Slot) (u v w : Slot), ((l.set (i + 1) u).set i v).set (i + 1) w = (l.set i v).set (i + 1) w := fun l u v w => by
    rw [List.set_comm _ _ (by omega : i + 1 ≠ i), List.set_set]
  cases o with
  | second => cases ho
  | unset =>
    cases o' with
    | unset => simp [storeLocals, storeSelf, setAt, h0, h1, e, e', cs, c2, cl, List.map_set]
    | second => simp [storeLocals, storeSelf, setAt, h0, h1, e, e', cs, c2, cl, List.map_set]
    | val w' =>
      have hc : w'.category = 1 := by simpa [two] using ho
      simp [storeLocals, storeSelf, setAt, h0, h1, e, e', cs, cv_cat, hc, c2, cl, List.map_set]
  | val w =>
    by_cases hw : w.category = 2
    · simp [storeLocals, storeSelf, setAt, h0, h1, e, cs, cv_cat, hw, c2, cl, List.map_set, sw]
    · cases o' with
      | unset => simp [storeLocals, storeSelf, setAt, h0, h1, e, e', cs, cv_cat, hw, c2, cl, List.map_set]
      | second => simp [storeLocals, storeSelf, setAt, h0, h1, e, e', cs, cv_cat, hw, c2, cl, List.map_set]
      | val w' =>
        have hc : w'.category = 1 := by simpa [two] using ho
        simp [storeLocals, storeSelf, setAt, h0, h1, e, e', cs, cv_cat, hw, hc, c2, cl, List.map_set]
theorem W.istore_n {i : Fin 4} {o : Slot} {x : Int32} (hd : decode μ.2.1 pc = .ok (.istore_n i, 1)) (hl : L[i.val]? = some o) (ho : one o = true) (h : W tb K μ rm (pc + 1) (L.set i.val (.val (.int x))) S H Q) : W tb K μ rm pc L (.int x :: S) H Q :=
  W.pure (by simp) (fun k p e m below c T hA hx hb' t ht => XS.istoreN hA hx rfl (hb hb' hd) rfl (sto1 (v := .int x) hl ho rfl) ht) h
theorem W.istore_nW {i : Fin 4} {w : Value} {x : Int32} (hd : decode μ.2.1 pc = .ok (.istore_n i, 1)) (hl : L[i.val]? = some (.val w)) (ho : w.category = 2) (hi : i.val + 1 < L.length) (h : W tb K μ rm (pc + 1) ((L.set (i.val + 1) .unset).set i.val (.val (.int x))) S H Q) : W tb K μ rm pc L (.int x :: S) H Q :=
  W.pure (by simp) (fun k p e m below c T hA hx hb' t ht => XS.istoreN hA hx rfl (hb hb' hd) rfl (sto1w (v := .int x) hl ho hi rfl) ht) h
theorem W.istore_nS {i : Fin 4} {x : Int32} (hd : decode μ.2.1 pc = .ok (.istore_n i, 1)) (hl : L[i.val]? = some .second) (hi : 0 < i.val) (h : W tb K μ rm (pc + 1) ((L.set (i.val - 1) .unset).set i.val (.val (.int x))) S H Q) : W tb K μ rm pc L (.int x :: S) H Q :=
  W.pure (by simp) (fun k p e m below c T hA hx hb' t ht => XS.istoreN hA hx rfl (hb hb' hd) rfl (sto1s (v := .int x) hl hi rfl) ht) h
theorem W.istore {i : Nat} {o : Slot} {x : Int32} (hd : decode μ.2.1 pc = .ok (.istore i, 2)) (hl : L[i]? = some o) (ho : one o = true) (h : W tb K μ rm (pc + 2) (L.set i (.val (.int x))) S H Q) : W tb K μ rm pc L (.int x :: S) H Q :=
  W.pure (by simp) (fun k p e m below c T hA hx hb' t ht => XS.istore hA hx rfl (hb hb' hd) rfl (sto1 (v := .int x) hl ho rfl) ht) h
theorem W.istoreW {i : Nat} {w : Value} {x : Int32} (hd : decode μ.2.1 pc = .ok (.istore i, 2)) (hl : L[i]? = some (.val w)) (ho : w.category = 2) (hi : i + 1 < L.length) (h : W tb K μ rm (pc + 2) ((L.set (i + 1) .unset).set i (.val (.int x))) S H Q) : W tb K μ rm pc L (.int x :: S) H Q :=
  W.pure (by simp) (fun k p e m below c T hA hx hb' t ht => XS.istore hA hx rfl (hb hb' hd) rfl (sto1w (v := .int x) hl ho hi rfl) ht) h
theorem W.istoreS {i : Nat} {x : Int32} (hd : decode μ.2.1 pc = .ok (.istore i, 2)) (hl : L[i]? = some .second) (hi : 0 < i) (h : W tb K μ rm (pc + 2) ((L.set (i - 1) .unset).set i (.val (.int x))) S H Q) : W tb K μ rm pc L (.int x :: S) H Q :=
  W.pure (by simp) (fun k p e m below c T hA hx hb' t ht => XS.istore hA hx rfl (hb hb' hd) rfl (sto1s (v := .int x) hl hi rfl) ht) h
theorem W.astore_n {i : Fin 4} {o : Slot} {v : Value} (hd : decode μ.2.1 pc = .ok (.astore_n i, 1)) (hl : L[i.val]? = some o) (ho : one o = true) (hv : v.isRef = true) (h : W tb K μ rm (pc + 1) (L.set i.val (.val v)) S H Q) : W tb K μ rm pc L (v :: S) H Q :=
  W.pure (by simp) (fun k p e m below c T hA hx hb' t ht => XS.astoreN hA hx rfl (hb hb' hd) rfl (by rw [cv_isRef]; exact hv) (sto1 (v := v) hl ho (by cases v <;> first | rfl | cases hv)) ht) h
theorem W.astore {i : Nat} {o : Slot} {v : Value} (hd : decode μ.2.1 pc = .ok (.astore i, 2)) (hl : L[i]? = some o) (ho : one o = true) (hv : v.isRef = true) (h : W tb K μ rm (pc + 2) (L.set i (.val v)) S H Q) : W tb K μ rm pc L (v :: S) H Q :=
  W.pure (by simp) (fun k p e m below c T hA hx hb' t ht => XS.astore hA hx rfl (hb hb' hd) rfl (by rw [cv_isRef]; exact hv) (sto1 (v := v) hl ho (by cases v <;> first | rfl | cases hv)) ht) h
theorem W.lstore_n {i : Fin 4} {o o' : Slot} {x : Int64} (hd : decode μ.2.1 pc = .ok (.lstore_n i, 1)) (hl : L[i.val]? = some o) (hl' : L[i.val + 1]? = some o') (ho : two o o' = true) (h : W tb K μ rm (pc + 1) ((L.set i.val (.val (.long x))).set (i.val + 1) .second) S H Q) : W tb K μ rm pc L (.long x :: S) H Q :=
  W.pure (by simp) (fun k p e m below c T hA hx hb' t ht => XT.lstoreN hA hx rfl (hb hb' hd) rfl (sto2 hl hl' ho) ht) h
theorem W.lstore {i : Nat} {o o' : Slot} {x : Int64} (hd : decode μ.2.1 pc = .ok (.lstore i, 2)) (hl : L[i]? = some o) (hl' : L[i + 1]? = some o') (ho : two o o' = true) (h : W tb K μ rm (pc + 2) ((L.set i (.val (.long x))).set (i + 1) .second) S H Q) : W tb K μ rm pc L (.long x :: S) H Q :=
  W.pure (by simp) (fun k p e m below c T hA hx hb' t ht => XT.lstore hA hx rfl (hb hb' hd) rfl (sto2 hl hl' ho) ht) h
theorem W.iinc {i : Nat} {n : Int} {x y : Int32} (hd : decode μ.2.1 pc = .ok (.iinc i n, 3)) (hy : Int32.ofInt n = y) (hl : L[i]? = some (.val (.int x))) (h : W tb K μ rm (pc + 3) (L.set i (.val (.int (x + y)))) S H Q) : W tb K μ rm pc L S H Q := by
  subst hy
  exact W.pure (by simp) (fun k p e m below c T hA hx hb' t ht => XS.iinc hA hx rfl (hb hb' hd) (get_conc hl) (sto1 (v := .int (x + Int32.ofInt n)) hl rfl rfl) ht) h
theorem W.goto {o : Int} {pc' : Nat} (hd : decode μ.2.1 pc = .ok (.goto o, 3)) (ho : 0 ≤ (pc : Int) + o) (hp : ((pc : Int) + o).toNat = pc') (h : W tb K μ rm pc' L S H Q) : W tb K μ rm pc L S H Q :=
  W.pure rfl (fun k p e m below c T hA hx hb' t ht => XS.goto hA hx rfl rfl (hb hb' hd) ho hp ht) h
/-- what a comparison asks -/
def cnd : ClassFile.Cond → Int32 → Int32 → Prop
  | .eq, x, y => x = y
  | .ne, x, y => ¬ x = y
  | .lt, x, y => x < y
  | .ge, x, y => ¬ x < y
  | .gt, x, y => y < x
  | .le, x, y => ¬ y < x
def cndN : ClassFile.Cond → Int32 → Int32 → Prop
  | .eq, x, y => ¬ x = y
  | .ne, x, y => x = y
  | .lt, x, y => ¬ x < y
  | .ge, x, y => x < y
  | .gt, x, y => ¬ y < x
  | .le, x, y => y < x
theorem cndN_of (cd : ClassFile.Cond) (x y : Int32) (h : ¬ cnd cd x y) : cndN cd x y := by
  cases cd <;> first | exact h | exact Classical.not_not.mp h
theorem cnd_iff (cd : ClassFile.Cond) (x y : Int32) : if_icmp.holds cd x y = true ↔ cnd cd x y := by
  cases cd <;> simp [if_icmp.holds, cnd, Int32.not_lt]
theorem cnd_not (cd : ClassFile.Cond) (x y : Int32) : if_icmp.holds cd x y = false ↔ ¬ cnd cd x y := by
  rw [← cnd_iff]; cases if_icmp.holds cd x y <;> simp
theorem W.icmp {cd : ClassFile.Cond} {x y : Int32} {o : Int} {pc' : Nat} (hd : decode μ.2.1 pc = .ok (.if_icmp cd o, 3)) (ho : 0 ≤ (pc : Int) + o) (hp : ((pc : Int) + o).toNat = pc') (h1 : cnd cd x y → W tb K μ rm pc' L S H Q) (h2 : cndN cd x y → W tb K μ rm (pc + 3) L S H Q) : W tb K μ rm pc L (.int y :: .int x :: S) H Q := by
  cases hc : if_icmp.holds cd x y
  · exact W.pure rfl (fun k p e m below c T hA hx hb' t ht => XS.icmpNo hA hx rfl (hb hb' hd) rfl hc ht) (h2 (cndN_of cd x y ((cnd_not cd x y).mp hc)))
  · exact W.pure rfl (fun k p e m below c T hA hx hb' t ht => XS.icmpYes hA hx rfl rfl (hb hb' hd) rfl hc ho hp ht) (h1 ((cnd_iff cd x y).mp hc))
theorem W.ifc {cd : ClassFile.Cond} {x : Int32} {o : Int} {pc' : Nat} (hd : decode μ.2.1 pc = .ok (.ifCond cd o, 3)) (ho : 0 ≤ (pc : Int) + o) (hp : ((pc : Int) + o).toNat = pc') (h1 : cnd cd x 0 → W tb K μ rm pc' L S H Q) (h2 : cndN cd x 0 → W tb K μ rm (pc + 3) L S H Q) : W tb K μ rm pc L (.int x :: S) H Q := by
  cases hc : ifCond.holds cd x
  · exact W.pure rfl (fun k p e m below c T hA hx hb' t ht => XS.ifNo hA hx rfl (hb hb' hd) rfl hc ht) (h2 (cndN_of cd x 0 ((cnd_not cd x 0).mp (by rw [← if0]; exact hc))))
  · exact W.pure rfl (fun k p e m below c T hA hx hb' t ht => XS.ifYes hA hx rfl rfl (hb hb' hd) rfl hc ho hp ht) (h1 ((cnd_iff cd x 0).mp (by rw [← if0]; exact hc)))
def cndL : ClassFile.Cond → Int64 → Int64 → Prop
  | .eq, x, y => x = y
  | .ne, x, y => ¬ x = y
  | .lt, x, y => x < y
  | .ge, x, y => ¬ x < y
  | .gt, x, y => y < x
  | .le, x, y => ¬ y < x
def cndLN : ClassFile.Cond → Int64 → Int64 → Prop
  | .eq, x, y => ¬ x = y
  | .ne, x, y => x = y
  | .lt, x, y => ¬ x < y
  | .ge, x, y => x < y
  | .gt, x, y => ¬ y < x
  | .le, x, y => y < x
theorem cndLN_iff (cd : ClassFile.Cond) (x y : Int64) : cndLN cd x y ↔ ¬ cndL cd x y := by
  cases cd <;> first | exact Iff.rfl | exact Classical.not_not.symm
theorem cndN_iff (cd : ClassFile.Cond) (x y : Int32) : cndN cd x y ↔ ¬ cnd cd x y := by
  cases cd <;> first | exact Iff.rfl | exact Classical.not_not.symm
theorem cmpL_iff (cd : ClassFile.Cond) (x y : Int64) : cnd cd (XT.cmpL x y) 0 ↔ cndL cd x y := by
  have e : XT.cmpL x y = lcmpW x y := by simp [XT.cmpL, lcmpW]
  rw [e]
  cases cd
  · exact lw_eq x y
  · exact not_congr (lw_eq x y)
  · exact lw_lt x y
  · exact not_congr (lw_lt x y)
  · exact lw_gt x y
  · exact not_congr (lw_gt x y)
/-- lcmp and the branch behind it -/
theorem W.lcif {cd : ClassFile.Cond} {x y : Int64} {o : Int} {pc1 pc' : Nat} (hd1 : decode μ.2.1 pc = .ok (.lcmp, 1)) (hp1 : pc + 1 = pc1) (hd : decode μ.2.1 pc1 = .ok (.ifCond cd o, 3)) (ho : 0 ≤ (pc1 : Int) + o) (hp : ((pc1 : Int) + o).toNat = pc') (h1 : cndL cd x y → W tb K μ rm pc' L S H Q) (h2 : cndLN cd x y → W tb K μ rm (pc1 + 3) L S H Q) : W tb K μ rm pc L (.long y :: .long x :: S) H Q := by
  subst hp1
  exact W.lcmp hd1 (W.ifc hd ho hp (fun h => h1 ((cmpL_iff cd x y).mp h)) (fun h => h2 ((cndLN_iff cd x y).mpr fun q => (cndN_iff cd _ 0).mp h ((cmpL_iff cd x y).mpr q))))
theorem W.ifnullR {i : Nat} {o : Int} (hd : decode μ.2.1 pc = .ok (.ifnull o, 3)) (h : W tb K μ rm (pc + 3) L S H Q) : W tb K μ rm pc L (.ref i :: S) H Q :=
  W.pure rfl (fun k p e m below c T hA hx hb' t ht => XS.ifnullNo hA hx rfl (hb hb' hd) rfl ht) h
theorem W.ifnonnullR {i : Nat} {o : Int} {pc' : Nat} (hd : decode μ.2.1 pc = .ok (.ifnonnull o, 3)) (ho : 0 ≤ (pc : Int) + o) (hp : ((pc : Int) + o).toNat = pc') (h : W tb K μ rm pc' L S H Q) : W tb K μ rm pc L (.ref i :: S) H Q :=
  W.pure rfl (fun k p e m below c T hA hx hb' t ht => XT.ifnonnullYes hA hx rfl rfl (hb hb' hd) rfl ho hp ht) h
theorem W.lsw {d : Int} {ps : Array (Int × Int)} {len : Nat} {x : Int32} {o : Int} {pc' : Nat} (hd : decode μ.2.1 pc = .ok (.lookupswitch d ps, len)) (hs : (ps.toList.zip (ps.toList.drop 1)).all (fun (a, next) => a.1 < next.1) = true) (ho : lookupswitch.offset ps.toList d x.toInt = o) (h0 : 0 ≤ (pc : Int) + o) (hp : ((pc : Int) + o).toNat = pc')
    (h : W tb K μ rm pc' L S H Q) : W tb K μ rm pc L (.int x :: S) H Q := by
  subst hp
  refine W.pure rfl (fun k p e m below c T hA hx hb' t ht => ?_) h
  have hd' := hb hb' hd
  show Steps p.tables e below (T.setTop (mkF m pc (L.map (cs k)).toArray (.int x :: S.map (cv k)))) _
  jvm_step hA [hA.top, hx, hd', lookupswitch.wp_chain, ho, h0]
  refine ⟨?_, ht⟩
  simpa using hs
end Logic
end Jvm.Own
namespace Jvm.Own
open Sem ClassFile Op Lib Jvm.Stand Jvm.Free Jvm.LawKit Jvm.RoadKit
section Heap
variable {Z : State} {K : KTab} {h h' : Heap} {H : AHeap} {a b : Addr} {tb : List Cond} {a0 : Array Value}
theorem CellOk.ext {c : ACell} (E : Ext h h') (F : CellOk Z K h a c) : CellOk Z K h' a c := by
  cases c with
  | inl q =>
    obtain ⟨C, n, fs, h1, h2, h3, h4⟩ := F
    exact ⟨C, n, fs, h1, h2, h3.ext E, fun j f v hf hv => (h4 j f v hf hv).ext E⟩
  | inr q =>
    obtain ⟨cell, h1, h2⟩ := F
    exact ⟨cell, h1.ext E, h2⟩
theorem CellOk.other {c : ACell} {sl : Nat} {v : Value} (W : Wr h h' b sl v) (F : CellOk Z K h a c) (ne : a ≠ b) : CellOk Z K h' a c := by
  cases c with
  | inl q =>
    obtain ⟨C, n, fs, h1, h2, h3, h4⟩ := F
    exact ⟨C, n, fs, h1, h2, h3.wr W, fun j f v hf hv => (h4 j f v hf hv).other W (Or.inl ne)⟩
  | inr q =>
    obtain ⟨cell, h1, h2⟩ := F
    exact ⟨cell, h1.other W ne, h2⟩
theorem Rel.start (Z : State) (K : KTab) : Rel Z K Z.heap [] := ⟨rfl, fun i c q => by simp at q⟩
theorem Rel.push {c : ACell} {cell : Cell} (R : Rel Z K h H) (F : CellOk Z K (h.push cell) (Z.heap.size + H.length) c) : Rel Z K (h.push cell) (H ++ [c]) := by
  have E : Ext h (h.push cell) := ⟨by simp, fun x c q => by rw [Array.getElem?_push_lt (Array.getElem?_eq_some_iff.mp q).1]; exact (Array.getElem?_eq_getElem _).symm.trans q⟩
  refine ⟨by simp [R.1]; omega, fun i c' q => ?_⟩
  rcases Nat.lt_trichotomy i H.length with hi | hi | hi
  · rw [List.getElem?_append_left hi] at q
    exact (R.2 i c' q).ext E
  · subst hi
    rw [List.getElem?_append_right (Nat.le_refl _)] at q
    simp at q
    subst q
    exact F
  · rw [List.getElem?_append_right (Nat.le_of_lt hi)] at q
    rw [List.getElem?_eq_none (show 1 ≤ i - H.length from Nat.sub_pos_of_lt hi)] at q
    cases q
theorem Rel.set {c : ACell} {i sl : Nat} {v : Value} (R : Rel Z K h H) (W : Wr h h' (Z.heap.size + i) sl v) (F : CellOk Z K h' (Z.heap.size + i) c) : Rel Z K h' (H.set i c) := by
  refine ⟨by rw [W.size, List.length_set]; exact R.1, fun j c' q => ?_⟩
  by_cases e : j = i
  · subst e
    obtain ⟨hl, -⟩ := List.getElem?_eq_some_iff.mp q
    rw [List.getElem?_set_self (by simpa using hl)] at q
    cases q
    exact F
  · rw [List.getElem?_set_ne (Ne.symm e)] at q
    exact (R.2 j c' q).other W (fun q' => e (Nat.add_left_cancel q'))
theorem mem_of_get {q : String × Nat × List (String × String × String × FieldType)} {c : Nat} (hK : K[c]? = some q) : q ∈ K := List.mem_of_getElem? hK
theorem FOk.laid {C : String} {f : String × String × String × FieldType} (F : FOk tb C f) (hw : ∀ d ∈ tb, d.before a0 Z = true) : Laid Z a0 C f.1 f.2.1 f.2.2.1 := F.1.imp (hw _) (hw _)
theorem CellOk.put {c i j : Nat} {vs : List Value} {C : String} {n : Nat} {fs : List (String × String × String × FieldType)} {f : String × String × String × FieldType} {v : Value} (hKO : KOk tb K) (hw : ∀ d ∈ tb, d.before a0 Z = true) (hK : K[c]? = some (C, n, fs)) (hf : fs[j]? = some f)
    (W : Wr h h' a (RoadKit.slotOf Z f.1 f.2.1 f.2.2.1) (cv Z.heap.size v)) (F : CellOk Z K h a (.inl (c, vs))) : CellOk Z K h' a (.inl (c, vs.set j v)) := by
  obtain ⟨C', n', fs', h1, h2, h3, h4⟩ := F
  cases hK.symm.trans h1
  obtain ⟨k1, k2, k3⟩ := hKO _ (mem_of_get hK)
  refine ⟨C, n, fs, hK, by simpa using h2, h3.wr W, fun j' f' v' hf' hv' => ?_⟩
  by_cases e : j' = j
  · subst e
    cases hf.symm.trans hf'
    have hl : j' < vs.length := by rw [h2]; exact (List.getElem?_eq_some_iff.mp hf).1
    rw [List.getElem?_set_self hl] at hv'
    cases hv'
    obtain ⟨w, hw'⟩ : ∃ w, vs[j']? = some w := ⟨vs[j'], List.getElem?_eq_getElem hl⟩
    exact (h4 j' f w hf hw').same W
  · rw [List.getElem?_set_ne (Ne.symm e)] at hv'
    have m1 : f ∈ fs := List.mem_of_getElem? hf
    have m2 : f' ∈ fs := List.mem_of_getElem? hf'
    have hn : f'.2.1 ≠ f.2.1 := fun q => by
      have g1 : (fs.map fun f => f.2.1)[j']? = some f'.2.1 := by simp [hf']
      have g2 : (fs.map fun f => f.2.1)[j]? = some f.2.1 := by simp [hf]
      rw [q] at g1
      obtain ⟨l1, e1⟩ := List.getElem?_eq_some_iff.mp g1
      obtain ⟨l2, e2⟩ := List.getElem?_eq_some_iff.mp g2
      rcases Nat.lt_or_gt_of_ne e with lt | lt
      · exact (List.pairwise_iff_getElem.mp k3) j' j l1 l2 lt (e1.trans e2.symm)
      · exact (List.pairwise_iff_getElem.mp k3) j j' l2 l1 lt (e2.trans e1.symm)
    exact (h4 j' f' v' hf' hv').other W (Or.inr (slot_ne ((k2 f' m2).laid hw) ((k2 f m1).laid hw) hn (k2 f' m2).2 (k2 f m1).2))
theorem CellOk.sto {ty : FieldType} {vs : List Value} {j : Nat} {v : Value} (W : Wr h h' a j (cv Z.heap.size v)) (F : CellOk Z K h a (.inr (ty, vs))) (hv : fits ty v = true) : CellOk Z K h' a (.inr (ty, vs.set j v)) := by
  obtain ⟨cell, h1, h2, h3⟩ := F
  refine ⟨_, h1.same W, ?_, fun w hw => ?_⟩
  · simp [Cell.setSlot, h2, List.map_set]
  · rcases List.mem_or_eq_of_mem_set hw with q | q
    · exact h3 w q
    · exact q ▸ hv
end Heap
section Logic
variable {tb : List Cond} {K : KTab} {μ : Mth} {rm : Room} {pc : Nat} {L : List Slot} {S : List Value} {H : AHeap} {Q Q' : Option Value → AHeap → Prop}
theorem via_of {Z : State} {a0 : Array Value} (hw : ∀ d ∈ tb, d.before a0 Z = true) {R0 O n d : String} (via : R0 = O ∨ Cond.sameField R0 O n d ∈ tb) : Via Z R0 O n d := by
  rcases via with rfl | q
  · exact Via.refl
  · exact Via.of (hw _ q)
theorem W.getF {idx i j c n : Nat} {C R0 host : String} {fs : List (String × String × String × FieldType)} {vs : List Value} {f : String × String × String × FieldType} {v : Value} (hd : decode μ.2.1 pc = .ok (.getfield idx, 3))
    (w : Cond.fieldLink μ.1.cls idx R0 f.2.1 f.2.2.1 ∈ tb ∨ Cond.fieldLinkNest μ.1.cls idx R0 f.2.1 f.2.2.1 host ∈ tb) (via : R0 = f.1 ∨ Cond.sameField R0 f.1 f.2.1 f.2.2.1 ∈ tb) (hK : K[c]? = some (C, n, fs)) (hf : fs[j]? = some f) (hH : H[i]? = some (.inl (c, vs))) (hv : vs[j]? = some v)
    (h : W tb K μ rm (pc + 3) L (v :: S) H Q) : W tb K μ rm pc L (.ref i :: S) H Q := by
  intro hL Z a0 p l e R s m args below meth c' T locs cells slots X
  obtain ⟨X0, hx, hZ, hw, hby, hml, hrt, hnm, hlk, hown, hR, hr⟩ := X
  obtain ⟨C', n', fs', k1, k2, k3, k4⟩ := hR.2 _ _ hH
  cases hK.symm.trans k1
  have F := k4 j f v hf hv
  obtain ⟨T1, X1, e1, st⟩ := RoadKit.getF X0 hx hZ hown (w.imp (hw _) (hw _)) (via_of hw via) rfl F (g := mkF m pc (L.map (cs Z.heap.size)).toArray ((Value.ref i :: S).map (cv Z.heap.size))) rfl rfl (hb hby hd)
  exact (h hL Z a0 p l e R s m args below meth c' T1 locs cells slots ⟨X1, hx, hZ, hw, hby, hml, hrt, hnm, hlk, hown, e1 ▸ hR, hr⟩).steps st
theorem W.putF {idx i j c n : Nat} {C R0 host : String} {fs : List (String × String × String × FieldType)} {vs : List Value} {f : String × String × String × FieldType} {v : Value} (hKO : KOk tb K) (hd : decode μ.2.1 pc = .ok (.putfield idx, 3))
    (w : Cond.fieldLink μ.1.cls idx R0 f.2.1 f.2.2.1 ∈ tb ∨ Cond.fieldLinkNest μ.1.cls idx R0 f.2.1 f.2.2.1 host ∈ tb) (via : R0 = f.1 ∨ Cond.sameField R0 f.1 f.2.1 f.2.2.1 ∈ tb) (hK : K[c]? = some (C, n, fs)) (hf : fs[j]? = some f)
    (la : Cond.lays C f.1 f.2.1 f.2.2.1 ∈ tb ∨ (Cond.laysFinal C f.1 f.2.1 f.2.2.1 ∈ tb ∧ μ.1.cls = f.1 ∧ μ.1.name = "<init>")) (hn : narrow f.2.2.2 v = v) (hfi : fits f.2.2.2 v = true) (hH : H[i]? = some (.inl (c, vs)))
    (h : W tb K μ rm (pc + 3) L S (H.set i (.inl (c, vs.set j v))) Q) : W tb K μ rm pc L (v :: .ref i :: S) H Q := by
  intro hL Z a0 p l e R s m args below meth c' T locs cells slots X
  obtain ⟨X0, hx, hZ, hw, hby, hml, hrt, hnm, hlk, hown, hR, hFr, hr⟩ := X
  have CO := hR.2 _ _ hH
  obtain ⟨C', n', fs', k1, k2, k3, k4⟩ := CO
  cases hK.symm.trans k1
  have hl : j < vs.length := by rw [k2]; exact (List.getElem?_eq_some_iff.mp hf).1
  have F := k4 j f vs[j] hf (List.getElem?_eq_getElem hl)
  obtain ⟨o1, o2, o3⟩ := hKO _ (mem_of_get hK)
  obtain ⟨T1, h1, X1, e1, W1, st⟩ := RoadKit.putF X0 hx hZ hown (w.imp (hw _) (hw _)) (via_of hw via) rfl F k3 (la.imp (hw _) fun q => ⟨hw _ q.1, q.2.1, hnm.trans q.2.2⟩) (hw _ o1) (o2 f (List.mem_of_getElem? hf)).2 (v := cv Z.heap.size v) (by rw [cv_narrow, hn]) (by rw [cv_fits]; exact hfi) (g := mkF m pc (L.map (cs Z.heap.size)).toArray ((v :: Value.ref i :: S).map (cv Z.heap.size))) rfl rfl (hb hby hd)
  exact (h hL Z a0 p l e R s m args below meth c' T1 _ cells slots ⟨X1, hx, hZ, hw, hby, hml, hrt, hnm, hlk, hown, e1 ▸ hR.set W1 (CellOk.put (i := i) hKO hw hK hf W1 (hR.2 _ _ hH)), Fr.snoc X1 hFr (Nat.le_add_right _ _), hr⟩).steps st
/-- a field of a boolean, byte, char or short -/
theorem W.putFN {idx i j c n : Nat} {C R0 : String} {fs : List (String × String × String × FieldType)} {vs : List Value} {f : String × String × String × FieldType} {v v' : Value} (hKO : KOk tb K) (hd : decode μ.2.1 pc = .ok (.putfield idx, 3))
    (w : Cond.fieldLink μ.1.cls idx R0 f.2.1 f.2.2.1 ∈ tb) (via : R0 = f.1 ∨ Cond.sameField R0 f.1 f.2.1 f.2.2.1 ∈ tb) (hK : K[c]? = some (C, n, fs)) (hf : fs[j]? = some f)
    (la : Cond.lays C f.1 f.2.1 f.2.2.1 ∈ tb ∨ (Cond.laysFinal C f.1 f.2.1 f.2.2.1 ∈ tb ∧ μ.1.cls = f.1 ∧ μ.1.name = "<init>")) (hn : narrow f.2.2.2 v = v') (hfi : fits f.2.2.2 v' = true) (hH : H[i]? = some (.inl (c, vs)))
    (h : W tb K μ rm (pc + 3) L S (H.set i (.inl (c, vs.set j v'))) Q) : W tb K μ rm pc L (v :: .ref i :: S) H Q := by
  intro hL Z a0 p l e R s m args below meth c' T locs cells slots X
  obtain ⟨X0, hx, hZ, hw, hby, hml, hrt, hnm, hlk, hown, hR, hFr, hr⟩ := X
  have CO := hR.2 _ _ hH
  obtain ⟨C', n', fs', k1, k2, k3, k4⟩ := CO
  cases hK.symm.trans k1
  have hl : j < vs.length := by rw [k2]; exact (List.getElem?_eq_some_iff.mp hf).1
  have F := k4 j f vs[j] hf (List.getElem?_eq_getElem hl)
  obtain ⟨o1, o2, o3⟩ := hKO _ (mem_of_get hK)
  obtain ⟨T1, h1, X1, e1, W1, st⟩ := RoadKit.putFN X0 hx hZ hown (hw _ w) (via_of hw via) rfl F k3 (la.imp (hw _) fun q => ⟨hw _ q.1, q.2.1, hnm.trans q.2.2⟩) (hw _ o1) (o2 f (List.mem_of_getElem? hf)).2 (v := cv Z.heap.size v) (v' := cv Z.heap.size v') (by rw [cv_narrow, hn]) (by rw [cv_fits]; exact hfi) (g := mkF m pc (L.map (cs Z.heap.size)).toArray ((v :: Value.ref i :: S).map (cv Z.heap.size))) rfl rfl (hb hby hd)
  exact (h hL Z a0 p l e R s m args below meth c' T1 _ cells slots ⟨X1, hx, hZ, hw, hby, hml, hrt, hnm, hlk, hown, e1 ▸ hR.set W1 (CellOk.put (i := i) hKO hw hK hf W1 (hR.2 _ _ hH)), Fr.snoc X1 hFr (Nat.le_add_right _ _), hr⟩).steps st
/-- the index j is the natural N -/
abbrev ix (j : Int32) (N : Nat) : Prop := ¬ j < 0 ∧ j.toNatClampNeg = N
theorem ix_ofNat {N : Nat} (h : N < 2 ^ 31) : ix (Int32.ofNat N) N := by
  have e : (Int32.ofNat N).toInt = N := Int32.toInt_ofNat_of_lt h
  refine ⟨?_, ?_⟩
  · rw [Int32.lt_iff_toInt_lt, e]; simp
  · rw [Int32.toNatClampNeg, e]; rfl
theorem inb {cell : Cell} {j : Int32} {N : Nat} {vs : List Value} {k : Nat} (k2 : cell.slots = (vs.map (cv k)).toArray) (hj : ¬ j < 0) (hN : j.toNatClampNeg = N) (hl : N < vs.length) : ¬ (j < 0 ∨ cell.slots.size ≤ j.toNatClampNeg) := by
  rw [k2, hN]; simp; exact ⟨by simpa using hj, hl⟩
/-- room for an object of n slots -/
def nok (rm : Room) (n : Nat) : Bool := Nat.ble 1 rm.cells && (Nat.ble n rm.slots && Nat.ble n 67108864)
theorem nok_spec {rm : Room} {n : Nat} (h : nok rm n = true) : 1 ≤ rm.cells ∧ n ≤ rm.slots ∧ n * 8 ≤ 536870912 := by
  simp only [nok, Bool.and_eq_true, Nat.ble_eq] at h
  omega
theorem W.new {idx c n i : Nat} {C : String} {fs : List (String × String × String × FieldType)} (hKO : KOk tb K) (hd : decode μ.2.1 pc = .ok (.new idx, 3)) (w : Cond.classLink μ.1.cls idx C ∈ tb) (wz : Cond.initialized C ∈ tb) (hK : K[c]? = some (C, n, fs)) (hi : H.length = i) (hr : nok rm n = true)
    (h : W tb K μ ⟨rm.frames, rm.cells - 1, rm.slots - n, rm.locals⟩ (pc + 3) L (.ref i :: S) (H ++ [.inl (c, fs.map fun f => defaultValue f.2.2.2)]) Q) : W tb K μ rm pc L S H Q := by
  intro hL Z a0 p l e R s m args below meth c' T locs cells slots X
  obtain ⟨X0, hx, hZ, hw, hby, hml, hrt, hnm, hlk, hown, hR, hFr, hr1, hr2, hr3, hr4⟩ := X
  obtain ⟨hc, hs, hb'⟩ := nok_spec hr
  obtain ⟨o1, o2, o3⟩ := hKO _ (mem_of_get hK)
  obtain ⟨vm', cC, kC, h1, h2, h3, h4, X', st⟩ := X0.newCold hx hown (mv hZ (hw _ w)) (mv hZ (hw _ (show Cond.instantiable C n ∈ tb from o1))) (mv hZ (hw _ wz)) (g := mkF m pc (L.map (cs Z.heap.size)).toArray (S.map (cv Z.heap.size))) rfl (hb hby hd) (by omega) (by omega)
  rw [hZ.alike.findClass] at h1
  obtain ⟨kZ, z1, -⟩ := Vm.findClass_spec h1
  obtain ⟨k', z2, z3⟩ := hZ.alike.2.2 _ _ z1
  cases h2.symm.trans z2
  have ei : kC.instanceTypes = kZ.instanceTypes := by rw [z3]
  have hN : (T.heap.push { cls := cC, slots := kC.instanceTypes.map defaultValue, vm := .none })[T.heap.size]? = some { cls := cC, slots := kC.instanceTypes.map defaultValue, vm := .none } := by simp
  have ea : Z.heap.size + i = T.heap.size := by rw [hR.1, hi]
  have CO : CellOk Z K (T.heap.push { cls := cC, slots := kC.instanceTypes.map defaultValue, vm := .none }) (Z.heap.size + H.length) (.inl (c, fs.map fun f => defaultValue f.2.2.2)) := by
    refine ⟨C, n, fs, hK, by simp, ⟨_, kZ, by rw [← hR.1]; exact hN, h1, z1, rfl, fun _ => by simp [ei]⟩, fun j f v hf hv => ?_⟩
    have hv' : v = defaultValue f.2.2.2 := by simpa [hf] using hv.symm
    subst hv'
    obtain ⟨f1, f2⟩ := o2 f (List.mem_of_getElem? hf)
    obtain ⟨c1, k1, cf, kf, i1, ff, b1, b2, b3, b4, b5, b6, -⟩ := (FOk.laid ⟨f1, f2⟩ hw).spec
    cases h1.symm.trans b1
    cases z1.symm.trans b2
    rw [cv_default]
    exact ⟨_, cf, kf, i1, ff, by rw [← hR.1]; exact hN, b3, b4, by simp, rfl, b5, by simp [ei, b6, (State.fieldFound?_type b3 f2).2]⟩
  have := h hL Z a0 p l e R s m args below meth c' _ locs (cells + 1) (slots + n) ⟨X', hx, hZ, hw, hby, hml, hrt, hnm, hlk, hown, hR.push CO, hFr, hr1, by show cells + 1 + (rm.cells - 1) ≤ _; omega, by show slots + n + (rm.slots - n) ≤ _; omega, hr4⟩
  refine this.steps fun t ht => st t ?_
  rw [← ea]; exact ht
theorem W.newarray {aty : ArrayType} {ty : FieldType} {N i : Nat} {n : Int32} {d : Value} (hd : decode μ.2.1 pc = .ok (.newarray aty, 2)) (hty : newarray.typeOf aty = ty) (w : Cond.arrayClass ty ∈ tb) (hdv : defaultValue ty = d) (hn : ix n N) (hi : H.length = i) (hr : nok rm N = true)
    (h : W tb K μ ⟨rm.frames, rm.cells - 1, rm.slots - N, rm.locals⟩ (pc + 2) L (.ref i :: S) (H ++ [.inr (ty, List.replicate N d)]) Q) : W tb K μ rm pc L (.int n :: S) H Q := by
  intro hL Z a0 p l e R s m args below meth c' T locs cells slots X
  obtain ⟨X0, hx, hZ, hw, hby, hml, hrt, hnm, hlk, hown, hR, hFr, hr1, hr2, hr3, hr4⟩ := X
  obtain ⟨hn, hN⟩ := hn
  subst hty hdv hN
  obtain ⟨hc, hs, hb'⟩ := nok_spec hr
  have hcb : componentBytes (newarray.typeOf aty) ≤ 8 := by cases aty <;> decide
  obtain ⟨cA, kA, comp, h1, h2, h3, X', st⟩ := X0.newarrayPrim hx (mvA hZ (hw _ w)) (g := mkF m pc (L.map (cs Z.heap.size)).toArray ((Value.int n :: S).map (cv Z.heap.size))) rfl (hb hby hd) (n := n) rfl hn (Nat.le_trans (Nat.mul_le_mul (Nat.le_refl _) hcb) hb') (by omega) (by omega)
  rw [hZ.alike.findClass] at h1
  obtain ⟨kZ, z1, -⟩ := Vm.findClass_spec h1
  obtain ⟨k', z2, z3⟩ := hZ.alike.2.2 _ _ z1
  cases h2.symm.trans z2
  have hN : (T.heap.push { cls := cA, slots := Array.replicate n.toNatClampNeg (defaultValue (newarray.typeOf aty)), vm := .none })[T.heap.size]? = some { cls := cA, slots := Array.replicate n.toNatClampNeg (defaultValue (newarray.typeOf aty)), vm := .none } := by simp
  have ea : Z.heap.size + i = T.heap.size := by rw [hR.1, hi]
  have CO : CellOk Z K (T.heap.push { cls := cA, slots := Array.replicate n.toNatClampNeg (defaultValue (newarray.typeOf aty)), vm := .none }) (Z.heap.size + H.length) (.inr (newarray.typeOf aty, List.replicate n.toNatClampNeg (defaultValue (newarray.typeOf aty)))) := by
    refine ⟨_, ⟨by rw [← hR.1]; exact hN, ⟨by simp, kZ, z1, comp, by rw [← h3, z3]⟩, by simp⟩, by simp [cv_default], fun v hv => ?_⟩
    rw [(List.mem_replicate.mp hv).2]
    cases aty <;> rfl
  have := h hL Z a0 p l e R s m args below meth c' _ locs (cells + 1) (slots + n.toNatClampNeg) ⟨X', hx, hZ, hw, hby, hml, hrt, hnm, hlk, hown, hR.push CO, hFr, hr1, by show cells + 1 + (rm.cells - 1) ≤ _; omega, by show slots + n.toNatClampNeg + (rm.slots - n.toNatClampNeg) ≤ _; omega, hr4⟩
  refine this.steps fun t ht => st t ?_
  rw [← ea]; exact ht
theorem W.arraylength {i : Nat} {ty : FieldType} {vs : List Value} (hd : decode μ.2.1 pc = .ok (.arraylength, 1)) (hH : H[i]? = some (.inr (ty, vs))) (h : W tb K μ rm (pc + 1) L (.int (Int32.ofNat vs.length) :: S) H Q) : W tb K μ rm pc L (.ref i :: S) H Q := by
  intro hL Z a0 p l e R s m args below meth c' T locs cells slots X
  have X' := X
  obtain ⟨X0, hx, hZ, hw, hby, hml, hrt, hnm, hlk, hown, hR, hr⟩ := X
  obtain ⟨cell, A, k2, k3⟩ := hR.2 _ _ hH
  refine (h hL Z a0 p l e R s m args below meth c' T locs cells slots X').steps fun t ht => ?_
  refine X0.arraylength hx A.1 (State.isArrayOf_alike hZ.alike A.2.1) (g := mkF m pc (L.map (cs Z.heap.size)).toArray ((Value.ref i :: S).map (cv Z.heap.size))) rfl rfl (hb hby hd) t ?_
  have e : cell.slots.size.toInt32 = Int32.ofNat vs.length := by rw [k2]; simp
  rw [e]; exact ht
theorem W.xaload {ins : Instr} {ty : FieldType} (hk : (ins = .iaload ∧ ty = .int) ∨ (ins = .laload ∧ ty = .long) ∨ (ins = .baload ∧ (ty = .byte ∨ ty = .boolean))) {i N : Nat} {j : Int32} {vs : List Value} {v : Value} (hd : decode μ.2.1 pc = .ok (ins, 1)) (hH : H[i]? = some (.inr (ty, vs))) (hj : ix j N) (hv : vs[N]? = some v)
    (h : W tb K μ rm (pc + 1) L (v :: S) H Q) : W tb K μ rm pc L (.int j :: .ref i :: S) H Q := by
  intro hL Z a0 p l e R s m args below meth c' T locs cells slots X
  have X' := X
  obtain ⟨X0, hx, hZ, hw, hby, hml, hrt, hnm, hlk, hown, hR, hr⟩ := X
  obtain ⟨cell, A, k2, k3⟩ := hR.2 _ _ hH
  have hN := hj.2
  have hin := inb k2 hj.1 hN (List.getElem?_eq_some_iff.mp hv).1
  have hv' : cell.slots[j.toNatClampNeg]? = some (cv Z.heap.size v) := by rw [k2, hN]; simp [hv]
  refine (h hL Z a0 p l e R s m args below meth c' T locs cells slots X').steps fun t ht => ?_
  rcases hk with ⟨rfl, rfl⟩ | ⟨rfl, rfl⟩ | ⟨rfl, rfl | rfl⟩
  · exact X0.iaload hx A.1 (State.isArrayOf_alike hZ.alike A.2.1) A.2.2 hin hv' (g := mkF m pc (L.map (cs Z.heap.size)).toArray ((Value.int j :: Value.ref i :: S).map (cv Z.heap.size))) rfl rfl (hb hby hd) t ht
  · exact X0.laload hx A.1 (State.isArrayOf_alike hZ.alike A.2.1) A.2.2 hin hv' (g := mkF m pc (L.map (cs Z.heap.size)).toArray ((Value.int j :: Value.ref i :: S).map (cv Z.heap.size))) rfl rfl (hb hby hd) t ht
  · exact X0.baloadBytes hx A.1 (State.isArrayOf_alike hZ.alike A.2.1) A.2.2 hin hv' (g := mkF m pc (L.map (cs Z.heap.size)).toArray ((Value.int j :: Value.ref i :: S).map (cv Z.heap.size))) rfl rfl (hb hby hd) t ht
  · exact X0.baloadBooleans hx A.1 (State.isArrayOf_alike hZ.alike A.2.1) A.2.2 hin hv' (g := mkF m pc (L.map (cs Z.heap.size)).toArray ((Value.int j :: Value.ref i :: S).map (cv Z.heap.size))) rfl rfl (hb hby hd) t ht
theorem W.iastore {i N : Nat} {j x : Int32} {vs : List Value} (hd : decode μ.2.1 pc = .ok (.iastore, 1)) (hH : H[i]? = some (.inr (.int, vs))) (hj : ix j N) (hl : Nat.blt N vs.length = true)
    (h : W tb K μ rm (pc + 1) L S (H.set i (.inr (.int, vs.set N (.int x)))) Q) : W tb K μ rm pc L (.int x :: .int j :: .ref i :: S) H Q := by
  intro hL Z a0 p l e R s m args below meth c' T locs cells slots X
  obtain ⟨X0, hx, hZ, hw, hby, hml, hrt, hnm, hlk, hown, hR, hFr, hr⟩ := X
  have CO := hR.2 _ _ hH
  obtain ⟨cell, A, k2, k3⟩ := CO
  obtain ⟨T1, h1, X1, e1, W1, st⟩ := stI X0 hx hZ rfl A (inb k2 hj.1 hj.2 (Nat.blt_eq.mp hl)) (g := mkF m pc (L.map (cs Z.heap.size)).toArray ((Value.int x :: Value.int j :: Value.ref i :: S).map (cv Z.heap.size))) rfl rfl (hb hby hd)
  rw [hj.2] at W1
  exact (h hL Z a0 p l e R s m args below meth c' T1 _ cells slots ⟨X1, hx, hZ, hw, hby, hml, hrt, hnm, hlk, hown, e1 ▸ hR.set W1 (CellOk.sto (v := .int x) W1 (hR.2 _ _ hH) rfl), Fr.snoc X1 hFr (Nat.le_add_right _ _), hr⟩).steps st
theorem W.lastore {i N : Nat} {j : Int32} {x : Int64} {vs : List Value} (hd : decode μ.2.1 pc = .ok (.lastore, 1)) (hH : H[i]? = some (.inr (.long, vs))) (hj : ix j N) (hl : Nat.blt N vs.length = true)
    (h : W tb K μ rm (pc + 1) L S (H.set i (.inr (.long, vs.set N (.long x)))) Q) : W tb K μ rm pc L (.long x :: .int j :: .ref i :: S) H Q := by
  intro hL Z a0 p l e R s m args below meth c' T locs cells slots X
  obtain ⟨X0, hx, hZ, hw, hby, hml, hrt, hnm, hlk, hown, hR, hFr, hr⟩ := X
  have CO := hR.2 _ _ hH
  obtain ⟨cell, A, k2, k3⟩ := CO
  obtain ⟨T1, h1, X1, e1, W1, st⟩ := stJ X0 hx hZ rfl A (inb k2 hj.1 hj.2 (Nat.blt_eq.mp hl)) (g := mkF m pc (L.map (cs Z.heap.size)).toArray ((Value.long x :: Value.int j :: Value.ref i :: S).map (cv Z.heap.size))) rfl rfl (hb hby hd)
  rw [hj.2] at W1
  exact (h hL Z a0 p l e R s m args below meth c' T1 _ cells slots ⟨X1, hx, hZ, hw, hby, hml, hrt, hnm, hlk, hown, e1 ▸ hR.set W1 (CellOk.sto (v := .long x) W1 (hR.2 _ _ hH) rfl), Fr.snoc X1 hFr (Nat.le_add_right _ _), hr⟩).steps st
theorem W.bastore {i N : Nat} {j x : Int32} {vs : List Value} (hd : decode μ.2.1 pc = .ok (.bastore, 1)) (hH : H[i]? = some (.inr (.byte, vs))) (hj : ix j N) (hl : Nat.blt N vs.length = true)
    (h : W tb K μ rm (pc + 1) L S (H.set i (.inr (.byte, vs.set N (.int x.toInt8.toInt32)))) Q) : W tb K μ rm pc L (.int x :: .int j :: .ref i :: S) H Q := by
  intro hL Z a0 p l e R s m args below meth c' T locs cells slots X
  obtain ⟨X0, hx, hZ, hw, hby, hml, hrt, hnm, hlk, hown, hR, hFr, hr⟩ := X
  have CO := hR.2 _ _ hH
  obtain ⟨cell, A, k2, k3⟩ := CO
  obtain ⟨T1, h1, X1, e1, W1, st⟩ := stB X0 hx hZ rfl A (inb k2 hj.1 hj.2 (Nat.blt_eq.mp hl)) (g := mkF m pc (L.map (cs Z.heap.size)).toArray ((Value.int x :: Value.int j :: Value.ref i :: S).map (cv Z.heap.size))) rfl rfl (hb hby hd)
  rw [hj.2] at W1
  exact (h hL Z a0 p l e R s m args below meth c' T1 _ cells slots ⟨X1, hx, hZ, hw, hby, hml, hrt, hnm, hlk, hown, e1 ▸ hR.set W1 (CellOk.sto (v := .int x.toInt8.toInt32) W1 (hR.2 _ _ hH) (fits_nar_byte x)), Fr.snoc X1 hFr (Nat.le_add_right _ _), hr⟩).steps st
theorem W.bastoreZ {i N : Nat} {j x : Int32} {vs : List Value} (hd : decode μ.2.1 pc = .ok (.bastore, 1)) (hH : H[i]? = some (.inr (.boolean, vs))) (hj : ix j N) (hl : Nat.blt N vs.length = true)
    (h : W tb K μ rm (pc + 1) L S (H.set i (.inr (.boolean, vs.set N (.int (x &&& 1))))) Q) : W tb K μ rm pc L (.int x :: .int j :: .ref i :: S) H Q := by
  intro hL Z a0 p l e R s m args below meth c' T locs cells slots X
  obtain ⟨X0, hx, hZ, hw, hby, hml, hrt, hnm, hlk, hown, hR, hFr, hr⟩ := X
  have CO := hR.2 _ _ hH
  obtain ⟨cell, A, k2, k3⟩ := CO
  obtain ⟨T1, h1, X1, e1, W1, st⟩ := stZ X0 hx hZ rfl A (inb k2 hj.1 hj.2 (Nat.blt_eq.mp hl)) (g := mkF m pc (L.map (cs Z.heap.size)).toArray ((Value.int x :: Value.int j :: Value.ref i :: S).map (cv Z.heap.size))) rfl rfl (hb hby hd)
  rw [hj.2] at W1
  exact (h hL Z a0 p l e R s m args below meth c' T1 _ cells slots ⟨X1, hx, hZ, hw, hby, hml, hrt, hnm, hlk, hown, e1 ▸ hR.set W1 (CellOk.sto (v := .int (x &&& 1)) W1 (hR.2 _ _ hH) (fits_nar_bool x)), Fr.snoc X1 hFr (Nat.le_add_right _ _), hr⟩).steps st
theorem W.ldcInt {idx : Nat} {x : Int32} (hd : decode μ.2.1 pc = .ok (.ldc idx, 2)) (w : Cond.constant μ.1.cls idx x ∈ tb) (h : W tb K μ rm (pc + 2) L (.int x :: S) H Q) : W tb K μ rm pc L S H Q := by
  intro hL Z a0 p l e R s m args below meth c' T locs cells slots X
  have X' := X
  obtain ⟨X0, hx, hZ, hw, hby, hml, hrt, hnm, hlk, hown, hR, hr⟩ := X
  exact (h hL Z a0 p l e R s m args below meth c' T locs cells slots X').steps (X0.ldcInt hx hown (mvT hZ (hw _ w)) (g := mkF m pc (L.map (cs Z.heap.size)).toArray (S.map (cv Z.heap.size))) rfl (hb hby hd))
theorem W.ldcLong {idx : Nat} {x : Int64} (hd : decode μ.2.1 pc = .ok (.ldc2_w idx, 3)) (w : Cond.constantLong μ.1.cls idx x ∈ tb) (h : W tb K μ rm (pc + 3) L (.long x :: S) H Q) : W tb K μ rm pc L S H Q := by
  intro hL Z a0 p l e R s m args below meth c' T locs cells slots X
  have X' := X
  obtain ⟨X0, hx, hZ, hw, hby, hml, hrt, hnm, hlk, hown, hR, hr⟩ := X
  exact (h hL Z a0 p l e R s m args below meth c' T locs cells slots X').steps (X0.ldc2Long hx hown (mvT hZ (hw _ w)) (g := mkF m pc (L.map (cs Z.heap.size)).toArray (S.map (cv Z.heap.size))) rfl (hb hby hd))
end Logic
end Jvm.Own
namespace Jvm.Own
open Sem ClassFile Op Lib Jvm.Stand Jvm.Free Jvm.LawKit Jvm.RoadKit
section Logic
variable {tb : List Cond} {K : KTab} {μ μ' : Mth} {rm rm' : Room} {pc : Nat} {L : List Slot} {S : List Value} {H : AHeap} {Q Q' : Option Value → AHeap → Prop}
theorem W.ret_ (hd : decode μ.2.1 pc = .ok (.return_, 1)) (hr0 : μ.2.2.2 = none) (hQ : Q none H) : W tb K μ rm pc L [] H Q := by
  intro hL Z a0 p l e R s m args below meth c' T locs cells slots X
  obtain ⟨X0, hx, hZ, hw, hby, hml, hrt, hnm, hlk, hown, hR, hFr, hr1, hr2, hr3, hr4⟩ := X
  obtain ⟨fs, hr, hrun, hended, hW, hsame⟩ := X0.leave (v := none) (fun _ => rfl) hlk
  exact ⟨none, H, T, locs, fs, hQ, X0.returnOut hx (hrt.trans hr0) (hb hby hd) hr, hrun, hended, hW, hsame.mono (by omega) (by omega), hFr, hR⟩
theorem W.ireturn {x : Int32} (hd : decode μ.2.1 pc = .ok (.ireturn, 1)) (hr0 : μ.2.2.2 = some .int) (hQ : Q (some (.int x)) H) : W tb K μ rm pc L (.int x :: S) H Q := by
  intro hL Z a0 p l e R s m args below meth c' T locs cells slots X
  obtain ⟨X0, hx, hZ, hw, hby, hml, hrt, hnm, hlk, hown, hR, hFr, hr1, hr2, hr3, hr4⟩ := X
  obtain ⟨fs, hr, hrun, hended, hW, hsame⟩ := X0.leave (v := some (.int x)) (fun h => by rw [hrt, hr0] at h; cases h) hlk
  exact ⟨some (.int x), H, T, locs, fs, hQ, retOut X0 hx (hrt.trans hr0) rfl (Or.inl ⟨rfl, Or.inl rfl, _, rfl⟩) (hb hby hd) hr, hrun, hended, hW, hsame.mono (by omega) (by omega), hFr, hR⟩
theorem W.ireturnN {t : FieldType} {x : Int32} (hd : decode μ.2.1 pc = .ok (.ireturn, 1)) (hr0 : μ.2.2.2 = some t) (ht : t = .boolean ∨ t = .byte ∨ t = .char ∨ t = .short) (hQ : Q (some (.int (nar t x))) H) : W tb K μ rm pc L (.int x :: S) H Q := by
  intro hL Z a0 p l e R s m args below meth c' T locs cells slots X
  obtain ⟨X0, hx, hZ, hw, hby, hml, hrt, hnm, hlk, hown, hR, hFr, hr1, hr2, hr3, hr4⟩ := X
  obtain ⟨fs, hr, hrun, hended, hW, hsame⟩ := X0.leave (v := some (.int (nar t x))) (fun h => by rw [hrt, hr0] at h; cases h) hlk
  exact ⟨some (.int (nar t x)), H, T, locs, fs, hQ, retN X0 hx (hrt.trans hr0) ht (hb hby hd) hr, hrun, hended, hW, hsame.mono (by omega) (by omega), hFr, hR⟩
theorem W.ireturnZ {x : Int32} (hd : decode μ.2.1 pc = .ok (.ireturn, 1)) (hr0 : μ.2.2.2 = some .boolean) (hQ : Q (some (.int (x &&& 1))) H) : W tb K μ rm pc L (.int x :: S) H Q := W.ireturnN hd hr0 (Or.inl rfl) hQ
theorem W.lreturn {x : Int64} (hd : decode μ.2.1 pc = .ok (.lreturn, 1)) (hr0 : μ.2.2.2 = some .long) (hQ : Q (some (.long x)) H) : W tb K μ rm pc L (.long x :: S) H Q := by
  intro hL Z a0 p l e R s m args below meth c' T locs cells slots X
  obtain ⟨X0, hx, hZ, hw, hby, hml, hrt, hnm, hlk, hown, hR, hFr, hr1, hr2, hr3, hr4⟩ := X
  obtain ⟨fs, hr, hrun, hended, hW, hsame⟩ := X0.leave (v := some (.long x)) (fun h => by rw [hrt, hr0] at h; cases h) hlk
  exact ⟨some (.long x), H, T, locs, fs, hQ, retOut X0 hx (hrt.trans hr0) rfl (Or.inr (Or.inl ⟨rfl, rfl, _, rfl⟩)) (hb hby hd) hr, hrun, hended, hW, hsame.mono (by omega) (by omega), hFr, hR⟩
theorem W.areturn {t : FieldType} {v : Value} (hd : decode μ.2.1 pc = .ok (.areturn, 1)) (hr0 : μ.2.2.2 = some t) (ht : t.isReference = true) (hv : v.isRef = true) (hQ : Q (some v) H) : W tb K μ rm pc L (v :: S) H Q := by
  intro hL Z a0 p l e R s m args below meth c' T locs cells slots X
  obtain ⟨X0, hx, hZ, hw, hby, hml, hrt, hnm, hlk, hown, hR, hFr, hr1, hr2, hr3, hr4⟩ := X
  obtain ⟨fs, hr, hrun, hended, hW, hsame⟩ := X0.leave (v := some (cv Z.heap.size v)) (fun h => by rw [hrt, hr0] at h; cases h) hlk
  exact ⟨some v, H, T, locs, fs, hQ, retOut X0 hx (hrt.trans hr0) (by cases v <;> first | (cases t <;> rfl) | cases hv) (Or.inr (Or.inr (Or.inr (Or.inr ⟨rfl, ht, by rw [cv_isRef]; exact hv⟩)))) (hb hby hd) hr, hrun, hended, hW, hsame.mono (by omega) (by omega), hFr, hR⟩
/-- what a call leaves of the room -/
abbrev less (rm rm' : Room) : Room := ⟨rm.frames, rm.cells - rm'.cells, rm.slots - rm'.slots, rm.locals⟩
abbrev wt (S : List Value) : Nat := (S.map fun v => v.category).sum
abbrev plainCls (μ' : Mth) : Prop := μ'.1.cls ≠ "java/lang/invoke/MethodHandle" ∧ μ'.1.cls ≠ "java/lang/invoke/VarHandle"
/-- room for a call: S stays on the stack, n locals -/
def rok (rm rm' : Room) (n : Nat) (S : List Value) : Bool := Nat.ble (rm'.frames + 1) rm.frames && (Nat.ble (wt S + (n + 11) + rm'.locals) rm.locals && (Nat.ble rm'.cells rm.cells && Nat.ble rm'.slots rm.slots))
theorem rok_spec {rm rm' : Room} {n : Nat} {S : List Value} (h : rok rm rm' n S = true) : rm'.frames + 1 ≤ rm.frames ∧ wt S + (n + 11) + rm'.locals ≤ rm.locals ∧ rm'.cells ≤ rm.cells ∧ rm'.slots ≤ rm.slots := by
  simp only [rok, Bool.and_eq_true, Nat.ble_eq] at h
  exact h
/-- room for Object's constructor -/
def iok (rm : Room) (S : List Value) : Bool := Nat.ble 1 rm.frames && Nat.ble (wt S + 12) rm.locals
/-- a callee that answers one value and leaves one heap -/
abbrev Is (v0 : Option Value) (H0 : AHeap) : Option Value → AHeap → Prop := fun v H => v = v0 ∧ H = H0
theorem hs {H : AHeap} {i : Nat} {c c' : ACell} (h : H[i]? = some c) : (H.set i c')[i]? = some c' := List.getElem?_set_self (List.getElem?_eq_some_iff.mp h).1
theorem hn {H : AHeap} {i j : Nat} {c c' : ACell} (h : H[j]? = some c) (ne : i ≠ j) : (H.set i c')[j]? = some c := by rw [List.getElem?_set_ne ne]; exact h
theorem ha {H H' : AHeap} {j : Nat} {c : ACell} (h : H[j]? = some c) : (H ++ H')[j]? = some c := by rw [List.getElem?_append_left (List.getElem?_eq_some_iff.mp h).1]; exact h
theorem back_st (k : Nat) (v : Option Value) (S : List Value) : (v.map (cv k)).toList ++ S.map (cv k) = (v.toList ++ S).map (cv k) := by cases v <;> rfl
theorem W.callS {idx : Nat} {as : List Value} {S0 : List Value} {ps : List FieldType} {r : Option FieldType} (hd : decode μ.2.1 pc = .ok (.invokestatic idx, 3)) (w1 : Cond.methodLink μ.1.cls idx μ'.1 ∈ tb) (w2 : Cond.static μ'.1 ∈ tb) (w3 : Cond.initialized μ'.1.cls ∈ tb) (w4 : Cond.code μ'.1 μ'.2.1 μ'.2.2.1 μ'.2.2.2 ∈ tb) (hy : plainCls μ')
    (hp : parseMethodDescriptor μ'.1.desc = some ⟨ps, r⟩) (hlen : as.length = ps.length) (hS : S0 = as.reverse ++ S) (hM : M tb K μ' rm' as H Q') (hr : rok rm rm' μ'.2.2.1 S = true)
    (h : ∀ v H', Q' v H' → W tb K μ (less rm rm') (pc + 3) L (v.toList ++ S) H' Q) : W tb K μ rm pc L S0 H Q := by
  intro hL Z a0 p l e R s m args below meth c' T locs cells slots X
  obtain ⟨X0, hx, hZ, hw, hby, hml, hrt, hnm, hlk, hown, hR, hFr, hr1, hr2, hr3, hr4⟩ := X
  obtain ⟨hf, hl, hc, hs⟩ := rok_spec hr
  obtain ⟨_, vm1, ⟨T1, L1, k1, n1⟩, hW1, X1, ⟨Lc, ⟨v', H', rfl, hR', hq', hFr'⟩, l1, y1, z1⟩, st⟩ := Jvm.LawKit.callS X0 hx (y := μ'.1) hown (mvT hZ (hw _ w1)) (mvT hZ (hw _ w2)) (mvT hZ (hw _ w3)) (mvT hZ (hw _ w4)) hy (backOf (R := R) (rm := rm') (h := T.heap) (Q := fun v h L => ∃ v' H', v = Option.map (cv Z.heap.size) v' ∧ Rel Z K h H' ∧ Q' v' H' ∧ Fr Z.heap.size L) (W := wt S) (hM Z a0 hw l T.heap [] hR) hZ (hw _ w4) (hw _ w3) (by omega) (by omega))
    (g := mkF m pc (L.map (cs Z.heap.size)).toArray (S0.map (cv Z.heap.size))) rfl (by simp [hL, hml]) (argsL := as.map (cv Z.heap.size)) (rest := S.map (cv Z.heap.size)) (lenOf hp (by simpa using hlen)) (by rw [hS]; simp) (by show 2 * 0 + _ ≤ _; rw [cat_map]; exact Nat.le_of_eq (by simp)) (hb hby hd) (fun _ _ => ⟨rfl, rfl, by show cells + _ ≤ _; omega, by show slots + _ ≤ _; omega⟩)
  dsimp only [Pt.U, Pt.locs, Pt.cells, Pt.slots] at X1 l1 y1 z1 st hR'
  subst l1 y1 z1
  rw [back_st] at st
  exact (h v' H' hq' hL Z a0 p l e R s m args below meth c' T1 _ _ _ ⟨X1, hx, hZ, hw, hby, hml, hrt, hnm, hlk, hown, hR', Fr.app hFr hFr', hr1, by show cells + _ + (rm.cells - _) ≤ _; omega, by show slots + _ + (rm.slots - _) ≤ _; omega, hr4⟩).steps st
theorem W.callI {idx i : Nat} {as : List Value} {S0 : List Value} {ps : List FieldType} {r : Option FieldType} (hd : decode μ.2.1 pc = .ok (.invokespecial idx, 3)) (hn : μ'.1.name = "<init>") (hr0 : μ'.2.2.2 = none) (w1 : Cond.methodLink μ.1.cls idx μ'.1 ∈ tb) (w2 : Cond.instanceMethod μ'.1 ∈ tb) (w3 : Cond.initialized μ'.1.cls ∈ tb) (w4 : Cond.code μ'.1 μ'.2.1 μ'.2.2.1 μ'.2.2.2 ∈ tb) (hy : plainCls μ')
    (hp : parseMethodDescriptor μ'.1.desc = some ⟨ps, r⟩) (hlen : as.length = ps.length) (hS : S0 = as.reverse ++ .ref i :: S) (hM : M tb K μ' rm' (.ref i :: as) H Q') (hr : rok rm rm' μ'.2.2.1 S = true)
    (h : ∀ v H', Q' v H' → W tb K μ (less rm rm') (pc + 3) L (v.toList ++ S) H' Q) : W tb K μ rm pc L S0 H Q := by
  intro hL Z a0 p l e R s m args below meth c' T locs cells slots X
  obtain ⟨X0, hx, hZ, hw, hby, hml, hrt, hnm, hlk, hown, hR, hFr, hr1, hr2, hr3, hr4⟩ := X
  obtain ⟨hf, hl, hc, hs⟩ := rok_spec hr
  have w4' : (Cond.code μ'.1 μ'.2.1 μ'.2.2.1 none).before a0 Z = true := by have q := hw _ w4; rw [hr0] at q; exact q
  obtain ⟨_, vm1, ⟨T1, L1, k1, n1⟩, hW1, X1, ⟨Lc, ⟨v', H', rfl, hR', hq', hFr'⟩, l1, y1, z1⟩, st⟩ := X0.specialBack hx (y := μ'.1) hn hown (mvT hZ (hw _ w1)) (mvT hZ (hw _ w2)) (mvT hZ w4') hy (backOf (R := R) (rm := rm') (h := T.heap) (Q := fun v h L => ∃ v' H', v = Option.map (cv Z.heap.size) v' ∧ Rel Z K h H' ∧ Q' v' H' ∧ Fr Z.heap.size L) (W := wt S) (hM Z a0 hw l T.heap [] hR) hZ (hw _ w4) (hw _ w3) (by omega) (by omega))
    (g := mkF m pc (L.map (cs Z.heap.size)).toArray (S0.map (cv Z.heap.size))) rfl (by simp [hL, hml]) (Steps.refl _) (a := Z.heap.size + i) (argsL := as.map (cv Z.heap.size)) (rest := S.map (cv Z.heap.size)) (lenOf hp (by simpa using hlen)) (by rw [hS]; simp [cv]) (by show 2 * 0 + _ ≤ _; rw [cat_map]; exact Nat.le_of_eq (by simp)) (hb hby hd) (fun _ _ => ⟨rfl, rfl, by show cells + _ ≤ _; omega, by show slots + _ ≤ _; omega⟩)
  dsimp only [Pt.U, Pt.locs, Pt.cells, Pt.slots] at X1 l1 y1 z1 st hR'
  subst l1 y1 z1
  rw [back_st] at st
  exact (h v' H' hq' hL Z a0 p l e R s m args below meth c' T1 _ _ _ ⟨X1, hx, hZ, hw, hby, hml, hrt, hnm, hlk, hown, hR', Fr.app hFr hFr', hr1, by show cells + _ + (rm.cells - _) ≤ _; omega, by show slots + _ + (rm.slots - _) ≤ _; omega, hr4⟩).steps (fun t ht => st.trans ht)
/-- the opcode that returns nothing -/
def opReturn : UInt8 := 177
/-- java/lang/Object's constructor -/
theorem W.initO {idx i : Nat} (hd : decode μ.2.1 pc = .ok (.invokespecial idx, 3)) (w1 : Cond.methodLink μ.1.cls idx Lib.objectInit ∈ tb) (w2 : Cond.instanceMethod Lib.objectInit ∈ tb) (w3 : Cond.code Lib.objectInit ⟨#[opReturn]⟩ 1 none ∈ tb) (hr : iok rm S = true)
    (h : W tb K μ rm (pc + 3) L S H Q) : W tb K μ rm pc L (.ref i :: S) H Q := by
  intro hL Z a0 p l e R s m args below meth c' T locs cells slots X
  obtain ⟨X0, hx, hZ, hw, hby, hml, hrt, hnm, hlk, hown, hR, hFr, hr1, hr2, hr3, hr4⟩ := X
  simp only [iok, Bool.and_eq_true, Nat.ble_eq] at hr
  obtain ⟨hf, hl⟩ := hr
  obtain ⟨T1, X1, e1, st⟩ := RoadKit.initO X0 hx hZ hown (hw _ w1) (hw _ w2) (hw _ w3) rfl (g := mkF m pc (L.map (cs Z.heap.size)).toArray ((Value.ref i :: S).map (cv Z.heap.size))) rfl (by simp [hL, hml]) rfl (hb hby hd) (by omega) (W := wt S) (by show 2 * 0 + _ ≤ _; rw [cat_map]; exact Nat.le_of_eq (by simp)) (by omega)
  exact (h hL Z a0 p l e R s m args below meth c' T1 locs cells slots ⟨X1, hx, hZ, hw, hby, hml, hrt, hnm, hlk, hown, e1 ▸ hR, hFr, hr1, hr2, hr3, hr4⟩).steps st
theorem W.callV {idx i c n : Nat} {C : String} {fs : List (String × String × String × FieldType)} {vs : List Value} {y : MethodName} {as : List Value} {S0 : List Value} {ps : List FieldType} {r : Option FieldType} (hd : decode μ.2.1 pc = .ok (.invokevirtual idx, 3)) (w1 : Cond.methodLink μ.1.cls idx y ∈ tb) (w2 : Cond.declares y ∈ tb) (w3 : Cond.selects C y μ'.1 ∈ tb) (hnf : y = μ'.1 ∨ ∃ q ∈ K, q.1 = y.cls) (hKO : KOk tb K)
    (w4 : Cond.instanceMethod μ'.1 ∈ tb) (w5 : Cond.initialized μ'.1.cls ∈ tb) (w6 : Cond.code μ'.1 μ'.2.1 μ'.2.2.1 μ'.2.2.2 ∈ tb) (hy : y.cls ≠ "java/lang/invoke/MethodHandle" ∧ y.cls ≠ "java/lang/invoke/VarHandle") (hK : K[c]? = some (C, n, fs)) (hp : parseMethodDescriptor y.desc = some ⟨ps, r⟩) (hlen : as.length = ps.length) (hS : S0 = as.reverse ++ .ref i :: S)
    (hH : H[i]? = some (.inl (c, vs))) (hM : M tb K μ' rm' (.ref i :: as) H Q') (hr : rok rm rm' μ'.2.2.1 S = true)
    (h : ∀ v H', Q' v H' → W tb K μ (less rm rm') (pc + 3) L (v.toList ++ S) H' Q) : W tb K μ rm pc L S0 H Q := by
  intro hL Z a0 p l e R s m args below meth c' T locs cells slots X
  obtain ⟨X0, hx, hZ, hw, hby, hml, hrt, hnm, hlk, hown, hR, hFr, hr1, hr2, hr3, hr4⟩ := X
  obtain ⟨hf, hl, hc, hs⟩ := rok_spec hr
  obtain ⟨C', n', fs', q1, q2, q3, q4⟩ := hR.2 _ _ hH
  cases hK.symm.trans q1
  obtain ⟨cB, kB, b1, b2, b3⟩ := isOf (T := T) hZ rfl q3
  have nf : NotFace s y := by
    rcases hnf with rfl | ⟨q, hq, hqc⟩
    · exact notFace_of_selects (args := #[]) (mvT hZ (hw _ w3))
    · intro r0 h0
      have g1 := findClass_of_methodNamed h0
      obtain ⟨c1, k1, i1, i2, i3, i4, -⟩ := Cond.instantiable_spec (args := #[]) (s := s) (mv hZ (hw _ (hKO q hq).1))
      rw [hqc] at i1
      cases g1.symm.trans i1
      exact ⟨k1, i2, by simp only [Bool.or_eq_false_iff] at i4; exact i4.1⟩
  obtain ⟨_, vm1, ⟨T1, L1, k1, n1⟩, hW1, X1, ⟨Lc, ⟨v', H', rfl, hR', hq', hFr'⟩, l1, y1, z1⟩, st⟩ := X0.virtualBack hx (y := y) (z := μ'.1) hown (mvT hZ (hw _ w1)) (mvT hZ (hw _ w2)) nf (mvT hZ (hw _ w3)) (mvT hZ (hw _ w4)) hy (backOf (R := R) (rm := rm') (h := T.heap) (Q := fun v h L => ∃ v' H', v = Option.map (cv Z.heap.size) v' ∧ Rel Z K h H' ∧ Q' v' H' ∧ Fr Z.heap.size L) (W := wt S) (hM Z a0 hw l T.heap [] hR) hZ (hw _ w6) (hw _ w5) (by omega) (by omega)) b1 b3
    (g := mkF m pc (L.map (cs Z.heap.size)).toArray (S0.map (cv Z.heap.size))) rfl (by simp [hL, hml]) (Steps.refl _) (argsL := as.map (cv Z.heap.size)) (rest := S.map (cv Z.heap.size)) (lenOf hp (by simpa using hlen)) (by rw [hS]; simp [cv]) (by show 2 * 0 + _ ≤ _; rw [cat_map]; exact Nat.le_of_eq (by simp)) (hb hby hd) (fun _ _ => ⟨rfl, rfl, by show cells + _ ≤ _; omega, by show slots + _ ≤ _; omega⟩)
  dsimp only [Pt.U, Pt.locs, Pt.cells, Pt.slots] at X1 l1 y1 z1 st hR'
  subst l1 y1 z1
  rw [back_st] at st
  exact (h v' H' hq' hL Z a0 p l e R s m args below meth c' T1 _ _ _ ⟨X1, hx, hZ, hw, hby, hml, hrt, hnm, hlk, hown, hR', Fr.app hFr hFr', hr1, by show cells + _ + (rm.cells - _) ≤ _; omega, by show slots + _ + (rm.slots - _) ≤ _; omega, hr4⟩).steps (fun t ht => st.trans ht)
/-- a private method, by invokevirtual -/
theorem W.callP {idx i c n : Nat} {C : String} {fs : List (String × String × String × FieldType)} {vs : List Value} {as : List Value} {S0 : List Value} {ps : List FieldType} {r : Option FieldType} (hd : decode μ.2.1 pc = .ok (.invokevirtual idx, 3)) (w1 : Cond.methodLink μ.1.cls idx μ'.1 ∈ tb) (w2 : Cond.privateMethod μ'.1 ∈ tb) (hKO : KOk tb K)
    (w4 : Cond.instanceMethod μ'.1 ∈ tb) (w5 : Cond.initialized μ'.1.cls ∈ tb) (w6 : Cond.code μ'.1 μ'.2.1 μ'.2.2.1 μ'.2.2.2 ∈ tb) (hy : plainCls μ') (hK : K[c]? = some (C, n, fs)) (hC : C = μ'.1.cls) (hp : parseMethodDescriptor μ'.1.desc = some ⟨ps, r⟩) (hlen : as.length = ps.length) (hS : S0 = as.reverse ++ .ref i :: S)
    (hH : H[i]? = some (.inl (c, vs))) (hM : M tb K μ' rm' (.ref i :: as) H Q') (hr : rok rm rm' μ'.2.2.1 S = true)
    (h : ∀ v H', Q' v H' → W tb K μ (less rm rm') (pc + 3) L (v.toList ++ S) H' Q) : W tb K μ rm pc L S0 H Q := by
  intro hL Z a0 p l e R s m args below meth c' T locs cells slots X
  obtain ⟨X0, hx, hZ, hw, hby, hml, hrt, hnm, hlk, hown, hR, hFr, hr1, hr2, hr3, hr4⟩ := X
  obtain ⟨hf, hl, hc, hs⟩ := rok_spec hr
  obtain ⟨C', n', fs', q1, q2, q3, q4⟩ := hR.2 _ _ hH
  cases hK.symm.trans q1
  obtain ⟨cell, c1, c2⟩ := q3.cell
  obtain ⟨mk, methM, m1, m2, m3, m4⟩ := Cond.instanceMethod_spec (args := args) (mv hZ (hw _ w4))
  obtain ⟨methM', cM, hmethM', -, -, -, -, -, -, hsigM⟩ := Cond.code_spec m1 (mv (args := args) hZ (hw _ w6))
  cases m2.symm.trans hmethM'
  obtain ⟨cc, kk, i1, i2, i3, i4, -⟩ := Cond.instantiable_spec (args := args) (s := s) (mv hZ (hw _ (hKO _ (mem_of_get hK)).1))
  have g1 := findClass_of_methodNamed m1
  rw [← hC] at g1
  cases g1.symm.trans i1
  have hni : kk.isInterface = false := by simp only [Bool.or_eq_false_iff] at i4; exact i4.1
  have hpriv : s.PrivateAt μ'.1 := Cond.privateMethod_at (mvP hZ (hw _ w2) (args := #[]))
  have hsel : selectMethod e.platform s.vm cell.cls mk = .method mk := selectMethod_private m2 (hpriv mk methM m1 m2)
  obtain ⟨vm1, X1', st1⟩ := X0.invokevirtual hx hown (mvT hZ (hw _ w1)) m1 m2 m3 i2 hni hy (a := Z.heap.size + i) (cell := cell) c1 c2 hsel m2 m4 i2 hni (g := mkF m pc (L.map (cs Z.heap.size)).toArray (S0.map (cv Z.heap.size))) rfl (argsL := as.map (cv Z.heap.size)) (rest := S.map (cv Z.heap.size)) (lenOf hp (by simpa using hlen) _ hsigM) (by rw [hS]; simp [cv]) (hb hby hd)
  obtain ⟨_, ⟨T1, L1, k1, n1⟩, X1, ⟨Lc, ⟨v', H', rfl, hR', hq', hFr'⟩, l1, y1, z1⟩, st⟩ := (backOf (R := R) (rm := rm') (h := T.heap) (Q := fun v h L => ∃ v' H', v = Option.map (cv Z.heap.size) v' ∧ Rel Z K h H' ∧ Q' v' H' ∧ Fr Z.heap.size L) (W := wt S) (hM Z a0 hw l T.heap [] hR) hZ (hw _ w6) (hw _ w5) (by omega) (by omega)) m meth c' ⟨T.setVm vm1, locs, cells, slots⟩ (mkF m pc (L.map (cs Z.heap.size)).toArray (S.map (cv Z.heap.size))) (.invokevirtual idx) mk (.ref (Z.heap.size + i) :: as.map (cv Z.heap.size)).toArray X1' rfl (by simp [hL, hml]) (hb hby hd) (by show 2 * 0 + _ ≤ _; rw [cat_map]; exact Nat.le_of_eq (by simp)) (X1'.named m1) ⟨rfl, rfl, by show cells + _ ≤ _; omega, by show slots + _ ≤ _; omega⟩
  dsimp only [Pt.U, Pt.locs, Pt.cells, Pt.slots] at X1 l1 y1 z1 st hR'
  subst l1 y1 z1
  rw [back_st] at st
  exact (h v' H' hq' hL Z a0 p l e R s m args below meth c' T1 _ _ _ ⟨X1, hx, hZ, hw, hby, hml, hrt, hnm, hlk, hown, hR', Fr.app hFr hFr', hr1, by show cells + _ + (rm.cells - _) ≤ _; omega, by show slots + _ + (rm.slots - _) ≤ _; omega, hr4⟩).steps (fun t ht => (st1 _ fun acts => by rw [doInvoke_state]; exact Steps.refl _).trans (st.trans ht))
/-- the locals at the entry -/
def ent : List Value → List Slot
  | [] => []
  | v :: r => if v.category = 2 then .val v :: .second :: ent r else .val v :: ent r
theorem ent_map (k : Nat) (as : List Value) : ent (as.map (cv k)) = (ent as).map (cs k) := by
  induction as with
  | nil => rfl
  | cons v r ih => by_cases h : v.category = 2 <;> simp [ent, h, cv_cat, ih, cs]
theorem fold_ent (as : List Value) : ∀ acc : Array Slot, as.foldl (fun acc v => if v.category = 2 then (acc.push (.val v)).push .second else acc.push (.val v)) acc = acc ++ (ent as).toArray := by
  induction as with
  | nil => intro acc; simp [ent]
  | cons v r ih => intro acc; by_cases h : v.category = 2 <;> simp [ent, h, ih]
theorem locals_of (k n : Nat) (as : List Value) : argsToLocals (as.map (cv k)).toArray n = ((ent as ++ List.replicate (n - (ent as).length) Slot.unset).map (cs k)).toArray := by
  have h : (as.map (cv k)).toArray.foldl (fun (acc : Array Slot) v => if v.category = 2 then (acc.push (.val v)).push .second else acc.push (.val v)) #[] = ((ent as).map (cs k)).toArray := by
    rw [List.foldl_toArray, fold_ent, ent_map]; simp
  simp only [argsToLocals]
  rw [h]
  simp [cs]
theorem M.of {as : List Value} (hn : plainFor μ.1 = true) (hl : ent as ++ List.replicate (μ.2.2.1 - (ent as).length) .unset = L) (hl' : L.length = μ.2.2.1) (h : W tb K μ rm 0 L [] H Q) : M tb K μ rm as H Q := by
  intro Z a0 hw l h0 ws hR
  refine MetFree.of_bodySF hn hisR ?_
  intro p e s m args below meth c s₁ Bd hml0 hP hK
  obtain ⟨rfl, hZ, hh⟩ := hP
  have e0 : s₁.heap = h0 := by rw [← hh, Bd.state]; rfl
  obtain ⟨v, H', T, locs, fs, hq, st, hrun, hended, hW, hsame, hFr, hR'⟩ := h hl' Z a0 p l e rm s m _ below meth c s₁ [] 0 0 ⟨Stand.of_body Bd, Bd.exec, hZ, hw, Bd.bytes, hml0, Bd.returns, (name_of_methodNamed Bd.named Bd.method).1, Bd.notSynchronized, findClass_of_methodNamed Bd.named, e0 ▸ hR, Fr.nil _, Nat.le_refl _, Nat.le_of_eq (Nat.zero_add _), Nat.le_of_eq (Nat.zero_add _), Nat.le_refl _⟩
  have q : entryFrame m (as.map (cv Z.heap.size)).toArray μ.2.2.1 = mkF m 0 (L.map (cs Z.heap.size)).toArray [] := by
    rw [← hl, entryFrame, locals_of]
  exact ⟨_, _, castTop q st, hrun, hended, _, locs, rfl, ⟨v, H', rfl, hR', hq, hFr⟩, ⟨_, rfl⟩, hW, hsame⟩
end Logic
end Jvm.Own
namespace Jvm.Pilot.@@N@@
open Jvm Jvm.ClassFile Sem Op Lib Jvm.Free Jvm.Stand Jvm.LawKit Jvm.RoadKit Jvm.Own Bundle Jvm.Pilot.@@N@@.Jvm.D
/-! PRINTED BY gen.py: the classes, the methods, one lemma a site -/
def KT : KTab := [("com/example/binwright/binwright/core/BinContents", 5, [("com/example/binwright/binwright/core/BinContents", "first", "[I", (.array .int)), ("com/example/binwright/binwright/core/BinContents", "last", "[I", (.array .int)), ("com/example/binwright/binwright/core/BinContents", "binOf", "[I", (.array .int)), ("com/example/binwright/binwright/core/BinContents", "before", "[I", (.array .int)), ("com/example/binwright/binwright/core/BinContents", "after", "[I", (.array .int))])]
theorem kt : KOk tables_1 KT := (KOk.cons (List.mem_of_getElem? (i := 3) rfl) (fokS ⟨Or.inl (List.mem_of_getElem? (i := 12) rfl), by decide⟩ (fokS ⟨Or.inl (List.mem_of_getElem? (i := 14) rfl), by decide⟩ (fokS ⟨Or.inr (List.mem_of_getElem? (i := 16) rfl), by decide⟩ (fokS ⟨Or.inr (List.mem_of_getElem? (i := 18) rfl), by decide⟩ (fokS ⟨Or.inr (List.mem_of_getElem? (i := 20) rfl), by decide⟩ fok0))))) (by decide) KOk.nil)
abbrev μ0 : Mth := (x, code, 16, ret)
abbrev W0 := W tables_1 KT μ0
abbrev M0 := M tables_1 KT μ0
theorem pf0 : plainFor μ0.1 = true := by first | (refine plainFor_of_name ?_; simp [plainName, overriddenIn, x]; done) | decide +kernel
theorem pd0 : parseMethodDescriptor "(IIII)Z" = some ⟨[.int, .int, .int, .int], some .boolean⟩ := by decide +kernel
abbrev μ1 : Mth := (⟨"com/example/binwright/binwright/core/BinContents", "<init>", "(I)V"⟩, prog_20_method_1_code, 2, none)
abbrev W1 := W tables_1 KT μ1
abbrev M1 := M tables_1 KT μ1
theorem pf1 : plainFor μ1.1 = true := by first | (refine plainFor_of_name ?_; simp [plainName, overriddenIn, x]; done) | decide +kernel
theorem pd1 : parseMethodDescriptor "(I)V" = some ⟨[.int], none⟩ := by decide +kernel
abbrev μ2 : Mth := (⟨"com/example/binwright/binwright/core/BinContents", "add", "(II)V"⟩, prog_20_method_3_code, 3, none)
abbrev W2 := W tables_1 KT μ2
abbrev M2 := M tables_1 KT μ2
theorem pf2 : plainFor μ2.1 = true := by first | (refine plainFor_of_name ?_; simp [plainName, overriddenIn, x]; done) | decide +kernel
theorem pd2 : parseMethodDescriptor "(II)V" = some ⟨[.int, .int], none⟩ := by decide +kernel
abbrev μ3 : Mth := (⟨"com/example/binwright/binwright/core/BinContents", "remove", "(I)V"⟩, prog_20_method_4_code, 3, none)
abbrev W3 := W tables_1 KT μ3
abbrev M3 := M tables_1 KT μ3
theorem pf3 : plainFor μ3.1 = true := by first | (refine plainFor_of_name ?_; simp [plainName, overriddenIn, x]; done) | decide +kernel
abbrev μ4 : Mth := (⟨"com/example/binwright/binwright/core/BinContents", "binOf", "(I)I"⟩, prog_20_method_2_code, 2, some .int)
abbrev W4 := W tables_1 KT μ4
abbrev M4 := M tables_1 KT μ4
theorem pf4 : plainFor μ4.1 = true := by first | (refine plainFor_of_name ?_; simp [plainName, overriddenIn, x]; done) | decide +kernel
theorem pd3 : parseMethodDescriptor "(I)I" = some ⟨[.int], some .int⟩ := by decide +kernel
abbrev μ5 : Mth := (⟨"com/example/binwright/binwright/core/BinContents", "items", "(I)[I"⟩, prog_20_method_5_code, 6, some (.array .int))
abbrev W5 := W tables_1 KT μ5
abbrev M5 := M tables_1 KT μ5
theorem pf5 : plainFor μ5.1 = true := by first | (refine plainFor_of_name ?_; simp [plainName, overriddenIn, x]; done) | decide +kernel
theorem pd4 : parseMethodDescriptor "(I)[I" = some ⟨[.int], some (.array .int)⟩ := by decide +kernel
abbrev μ6 : Mth := (⟨"com/example/binwright/binwright/core/BinContentsRemovePinLaw", "eq3", "([I[II)Z"⟩, method_2_code, 3, some .boolean)
abbrev W6 := W tables_1 KT μ6
abbrev M6 := M tables_1 KT μ6
theorem pf6 : plainFor μ6.1 = true := by first | (refine plainFor_of_name ?_; simp [plainName, overriddenIn, x]; done) | decide +kernel
theorem pd5 : parseMethodDescriptor "([I[II)Z" = some ⟨[(.array .int), (.array .int), .int], some .boolean⟩ := by decide +kernel
theorem e0 {rm : Room} {H : AHeap} {Q : Option Value → AHeap → Prop} {a0 : Int32} {a1 : Int32} {a2 : Int32} {a3 : Int32} (h : W0 rm 0 [.val (.int a0), .val (.int a1), .val (.int a2), .val (.int a3), .unset, .unset, .unset, .unset, .unset, .unset, .unset, .unset, .unset, .unset, .unset, .unset] [] H Q) : M0 rm [.int a0, .int a1, .int a2, .int a3] H Q := M.of pf0 rfl rfl h
theorem e0L {rm : Room} {H : AHeap} {Q : Option Value → AHeap → Prop} {L : List Slot} {as : List Value} (h : W0 rm 0 L [] H Q) (hl : ent as ++ List.replicate (16 - (ent as).length) .unset = L := by rfl) (hn : L.length = 16 := by rfl) : M0 rm as H Q := M.of pf0 hl hn h
theorem s0_0 {rm : Room} {S : List Value} {H : AHeap} {Q : Option Value → AHeap → Prop} {l1 l2 l3 l4 l5 l6 l7 l8 l9 l10 l11 l12 l13 l14 l15 : Slot} {x : Int32} (h : W0 rm 1 [.val (.int x), l1, l2, l3, l4, l5, l6, l7, l8, l9, l10, l11, l12, l13, l14, l15] (.int x :: S) (H) Q) : W0 rm 0 [.val (.int x), l1, l2, l3, l4, l5, l6, l7, l8, l9, l10, l11, l12, l13, l14, l15] (S) H Q := W.iload_n at_0 rfl h
theorem s0_1 {rm : Room} {S : List Value} {H : AHeap} {Q : Option Value → AHeap → Prop} {l0 l1 l2 l3 l4 l5 l6 l7 l8 l9 l10 l11 l12 l13 l14 l15 : Slot}  (h : W0 rm 3 [l0, l1, l2, l3, l4, l5, l6, l7, l8, l9, l10, l11, l12, l13, l14, l15] (.int 2147483647 :: S) (H) Q) : W0 rm 1 [l0, l1, l2, l3, l4, l5, l6, l7, l8, l9, l10, l11, l12, l13, l14, l15] (S) H Q := W.ldcInt at_1 (List.mem_of_getElem? (i := 0) rfl) h
theorem s0_3 {rm : Room} {S : List Value} {H : AHeap} {Q : Option Value → AHeap → Prop} {l0 l1 l2 l3 l4 l5 l6 l7 l8 l9 l10 l11 l12 l13 l14 l15 : Slot} {x y : Int32} (h : W0 rm 4 [l0, l1, l2, l3, l4, l5, l6, l7, l8, l9, l10, l11, l12, l13, l14, l15] (.int (x &&& y) :: S) (H) Q) : W0 rm 3 [l0, l1, l2, l3, l4, l5, l6, l7, l8, l9, l10, l11, l12, l13, l14, l15] (.int y :: .int x :: S) H Q := W.iand at_3 h
theorem s0_4 {rm : Room} {S : List Value} {H : AHeap} {Q : Option Value → AHeap → Prop} {l0 l1 l2 l3 l4 l5 l6 l7 l8 l9 l10 l11 l12 l13 l14 l15 : Slot}  (h : W0 rm 5 [l0, l1, l2, l3, l4, l5, l6, l7, l8, l9, l10, l11, l12, l13, l14, l15] (.int 3 :: S) (H) Q) : W0 rm 4 [l0, l1, l2, l3, l4, l5, l6, l7, l8, l9, l10, l11, l12, l13, l14, l15] (S) H Q := W.iconst' at_4 (by decide) h
theorem s0_5 {rm : Room} {S : List Value} {H : AHeap} {Q : Option Value → AHeap → Prop} {l0 l1 l2 l3 l4 l5 l6 l7 l8 l9 l10 l11 l12 l13 l14 l15 : Slot} {x y : Int32} (hy : y ≠ 0) (h : W0 rm 6 [l0, l1, l2, l3, l4, l5, l6, l7, l8, l9, l10, l11, l12, l13, l14, l15] (.int (x % y) :: S) (H) Q) : W0 rm 5 [l0, l1, l2, l3, l4, l5, l6, l7, l8, l9, l10, l11, l12, l13, l14, l15] (.int y :: .int x :: S) H Q := W.irem at_5 hy h
theorem s0_6 {rm : Room} {S : List Value} {H : AHeap} {Q : Option Value → AHeap → Prop} {l0 l1 l2 l3 l4 l5 l6 l7 l8 l9 l10 l11 l12 l13 l14 l15 : Slot}  (h : W0 rm 7 [l0, l1, l2, l3, l4, l5, l6, l7, l8, l9, l10, l11, l12, l13, l14, l15] (.int 1 :: S) (H) Q) : W0 rm 6 [l0, l1, l2, l3, l4, l5, l6, l7, l8, l9, l10, l11, l12, l13, l14, l15] (S) H Q := W.iconst' at_6 (by decide) h
theorem s0_7 {rm : Room} {S : List Value} {H : AHeap} {Q : Option Value → AHeap → Prop} {l0 l1 l2 l3 l4 l5 l6 l7 l8 l9 l10 l11 l12 l13 l14 l15 : Slot} {x y : Int32} (h : W0 rm 8 [l0, l1, l2, l3, l4, l5, l6, l7, l8, l9, l10, l11, l12, l13, l14, l15] (.int (x + y) :: S) (H) Q) : W0 rm 7 [l0, l1, l2, l3, l4, l5, l6, l7, l8, l9, l10, l11, l12, l13, l14, l15] (.int y :: .int x :: S) H Q := W.iadd at_7 h
theorem s0_8 {rm : Room} {S : List Value} {H : AHeap} {Q : Option Value → AHeap → Prop} {l0 l1 l2 l3 l4 l5 l6 l7 l8 l9 l10 l11 l12 l13 l14 l15 : Slot} {x : Int32} (ho : one l4 = true) (h : W0 rm 10 [l0, l1, l2, l3, .val (.int x), l5, l6, l7, l8, l9, l10, l11, l12, l13, l14, l15] (S) (H) Q) : W0 rm 8 [l0, l1, l2, l3, l4, l5, l6, l7, l8, l9, l10, l11, l12, l13, l14, l15] (.int x :: S) H Q := W.istore at_8 rfl ho h
theorem s0_8w {rm : Room} {S : List Value} {H : AHeap} {Q : Option Value → AHeap → Prop} {l0 l1 l2 l3 l5 l6 l7 l8 l9 l10 l11 l12 l13 l14 l15 : Slot} {w : Value} {x : Int32} (ho : w.category = 2) (h : W0 rm 10 [l0, l1, l2, l3, .val (.int x), .unset, l6, l7, l8, l9, l10, l11, l12, l13, l14, l15] (S) (H) Q) : W0 rm 8 [l0, l1, l2, l3, .val w, l5, l6, l7, l8, l9, l10, l11, l12, l13, l14, l15] (.int x :: S) H Q := W.istoreW at_8 rfl ho (Nat.le_of_ble_eq_true rfl) h
theorem s0_8s {rm : Room} {S : List Value} {H : AHeap} {Q : Option Value → AHeap → Prop} {l0 l1 l2 l3 l5 l6 l7 l8 l9 l10 l11 l12 l13 l14 l15 : Slot} {x : Int32} (h : W0 rm 10 [l0, l1, l2, .unset, .val (.int x), l5, l6, l7, l8, l9, l10, l11, l12, l13, l14, l15] (S) (H) Q) : W0 rm 8 [l0, l1, l2, l3, .second, l5, l6, l7, l8, l9, l10, l11, l12, l13, l14, l15] (.int x :: S) H Q := W.istoreS at_8 rfl (by decide) h
theorem s0_10 {rm : Room} {S : List Value} {H : AHeap} {Q : Option Value → AHeap → Prop} {l0 l2 l3 l4 l5 l6 l7 l8 l9 l10 l11 l12 l13 l14 l15 : Slot} {x : Int32} (h : W0 rm 11 [l0, .val (.int x), l2, l3, l4, l5, l6, l7, l8, l9, l10, l11, l12, l13, l14, l15] (.int x :: S) (H) Q) : W0 rm 10 [l0, .val (.int x), l2, l3, l4, l5, l6, l7, l8, l9, l10, l11, l12, l13, l14, l15] (S) H Q := W.iload_n at_10 rfl h
theorem s0_11 {rm : Room} {S : List Value} {H : AHeap} {Q : Option Value → AHeap → Prop} {l0 l1 l2 l3 l4 l5 l6 l7 l8 l9 l10 l11 l12 l13 l14 l15 : Slot}  (h : W0 rm 13 [l0, l1, l2, l3, l4, l5, l6, l7, l8, l9, l10, l11, l12, l13, l14, l15] (.int 2147483647 :: S) (H) Q) : W0 rm 11 [l0, l1, l2, l3, l4, l5, l6, l7, l8, l9, l10, l11, l12, l13, l14, l15] (S) H Q := W.ldcInt at_11 (List.mem_of_getElem? (i := 0) rfl) h
theorem s0_13 {rm : Room} {S : List Value} {H : AHeap} {Q : Option Value → AHeap → Prop} {l0 l1 l2 l3 l4 l5 l6 l7 l8 l9 l10 l11 l12 l13 l14 l15 : Slot} {x y : Int32} (h : W0 rm 14 [l0, l1, l2, l3, l4, l5, l6, l7, l8, l9, l10, l11, l12, l13, l14, l15] (.int (x &&& y) :: S) (H) Q) : W0 rm 13 [l0, l1, l2, l3, l4, l5, l6, l7, l8, l9, l10, l11, l12, l13, l14, l15] (.int y :: .int x :: S) H Q := W.iand at_13 h
theorem s0_14 {rm : Room} {S : List Value} {H : AHeap} {Q : Option Value → AHeap → Prop} {l0 l1 l2 l3 l5 l6 l7 l8 l9 l10 l11 l12 l13 l14 l15 : Slot} {x : Int32} (h : W0 rm 16 [l0, l1, l2, l3, .val (.int x), l5, l6, l7, l8, l9, l10, l11, l12, l13, l14, l15] (.int x :: S) (H) Q) : W0 rm 14 [l0, l1, l2, l3, .val (.int x), l5, l6, l7, l8, l9, l10, l11, l12, l13, l14, l15] (S) H Q := W.iload at_14 rfl h
theorem s0_16 {rm : Room} {S : List Value} {H : AHeap} {Q : Option Value → AHeap → Prop} {l0 l1 l2 l3 l4 l5 l6 l7 l8 l9 l10 l11 l12 l13 l14 l15 : Slot} {x y : Int32} (hy : y ≠ 0) (h : W0 rm 17 [l0, l1, l2, l3, l4, l5, l6, l7, l8, l9, l10, l11, l12, l13, l14, l15] (.int (x % y) :: S) (H) Q) : W0 rm 16 [l0, l1, l2, l3, l4, l5, l6, l7, l8, l9, l10, l11, l12, l13, l14, l15] (.int y :: .int x :: S) H Q := W.irem at_16 hy h
theorem s0_17 {rm : Room} {S : List Value} {H : AHeap} {Q : Option Value → AHeap → Prop} {l0 l1 l2 l3 l4 l5 l6 l7 l8 l9 l10 l11 l12 l13 l14 l15 : Slot}  (h : W0 rm 18 [l0, l1, l2, l3, l4, l5, l6, l7, l8, l9, l10, l11, l12, l13, l14, l15] (.int 1 :: S) (H) Q) : W0 rm 17 [l0, l1, l2, l3, l4, l5, l6, l7, l8, l9, l10, l11, l12, l13, l14, l15] (S) H Q := W.iconst' at_17 (by decide) h
theorem s0_18 {rm : Room} {S : List Value} {H : AHeap} {Q : Option Value → AHeap → Prop} {l0 l1 l2 l3 l4 l5 l6 l7 l8 l9 l10 l11 l12 l13 l14 l15 : Slot} {x y : Int32} (h : W0 rm 19 [l0, l1, l2, l3, l4, l5, l6, l7, l8, l9, l10, l11, l12, l13, l14, l15] (.int (x + y) :: S) (H) Q) : W0 rm 18 [l0, l1, l2, l3, l4, l5, l6, l7, l8, l9, l10, l11, l12, l13, l14, l15] (.int y :: .int x :: S) H Q := W.iadd at_18 h
theorem s0_19 {rm : Room} {S : List Value} {H : AHeap} {Q : Option Value → AHeap → Prop} {l0 l1 l2 l3 l4 l5 l6 l7 l8 l9 l10 l11 l12 l13 l14 l15 : Slot} {x : Int32} (ho : one l5 = true) (h : W0 rm 21 [l0, l1, l2, l3, l4, .val (.int x), l6, l7, l8, l9, l10, l11, l12, l13, l14, l15] (S) (H) Q) : W0 rm 19 [l0, l1, l2, l3, l4, l5, l6, l7, l8, l9, l10, l11, l12, l13, l14, l15] (.int x :: S) H Q := W.istore at_19 rfl ho h
theorem s0_19w {rm : Room} {S : List Value} {H : AHeap} {Q : Option Value → AHeap → Prop} {l0 l1 l2 l3 l4 l6 l7 l8 l9 l10 l11 l12 l13 l14 l15 : Slot} {w : Value} {x : Int32} (ho : w.category = 2) (h : W0 rm 21 [l0, l1, l2, l3, l4, .val (.int x), .unset, l7, l8, l9, l10, l11, l12, l13, l14, l15] (S) (H) Q) : W0 rm 19 [l0, l1, l2, l3, l4, .val w, l6, l7, l8, l9, l10, l11, l12, l13, l14, l15] (.int x :: S) H Q := W.istoreW at_19 rfl ho (Nat.le_of_ble_eq_true rfl) h
theorem s0_19s {rm : Room} {S : List Value} {H : AHeap} {Q : Option Value → AHeap → Prop} {l0 l1 l2 l3 l4 l6 l7 l8 l9 l10 l11 l12 l13 l14 l15 : Slot} {x : Int32} (h : W0 rm 21 [l0, l1, l2, l3, .unset, .val (.int x), l6, l7, l8, l9, l10, l11, l12, l13, l14, l15] (S) (H) Q) : W0 rm 19 [l0, l1, l2, l3, l4, .second, l6, l7, l8, l9, l10, l11, l12, l13, l14, l15] (.int x :: S) H Q := W.istoreS at_19 rfl (by decide) h
theorem s0_21 {rm : Room} {S : List Value} {H : AHeap} {Q : Option Value → AHeap → Prop} {l0 l1 l2 l3 l4 l5 l6 l7 l8 l9 l10 l11 l12 l13 l14 l15 : Slot}  (h : W0 rm 22 [l0, l1, l2, l3, l4, l5, l6, l7, l8, l9, l10, l11, l12, l13, l14, l15] (.int 3 :: S) (H) Q) : W0 rm 21 [l0, l1, l2, l3, l4, l5, l6, l7, l8, l9, l10, l11, l12, l13, l14, l15] (S) H Q := W.iconst' at_21 (by decide) h
theorem s0_22 {rm : Room} {S : List Value} {H : AHeap} {Q : Option Value → AHeap → Prop} {l0 l1 l2 l3 l4 l5 l6 l7 l8 l9 l10 l11 l12 l13 l14 l15 : Slot} {n : Int32} (i N : Nat) (hn : ix n N) (hi : H.length = i) (hr : nok rm N = true) (h : W0 ⟨rm.frames, rm.cells - 1, rm.slots - N, rm.locals⟩ 24 [l0, l1, l2, l3, l4, l5, l6, l7, l8, l9, l10, l11, l12, l13, l14, l15] (.ref i :: S) (H ++ [.inr (.int, List.replicate N (.int 0))]) Q) : W0 rm 22 [l0, l1, l2, l3, l4, l5, l6, l7, l8, l9, l10, l11, l12, l13, l14, l15] (.int n :: S) H Q := W.newarray (ty := .int) (d := .int 0) at_22 rfl (List.mem_of_getElem? (i := 1) rfl) rfl hn hi hr h
theorem s0_24 {rm : Room} {S : List Value} {H : AHeap} {Q : Option Value → AHeap → Prop} {l0 l1 l2 l3 l4 l5 l6 l7 l8 l9 l10 l11 l12 l13 l14 l15 : Slot} {i : Nat} (ho : one l6 = true) (h : W0 rm 26 [l0, l1, l2, l3, l4, l5, .val (.ref i), l7, l8, l9, l10, l11, l12, l13, l14, l15] (S) (H) Q) : W0 rm 24 [l0, l1, l2, l3, l4, l5, l6, l7, l8, l9, l10, l11, l12, l13, l14, l15] (.ref i :: S) H Q := W.astore at_24 rfl ho rfl h
theorem s0_26 {rm : Room} {S : List Value} {H : AHeap} {Q : Option Value → AHeap → Prop} {l0 l1 l2 l3 l4 l5 l6 l7 l8 l9 l10 l11 l12 l13 l14 l15 : Slot}  (h : W0 rm 27 [l0, l1, l2, l3, l4, l5, l6, l7, l8, l9, l10, l11, l12, l13, l14, l15] (.int 0 :: S) (H) Q) : W0 rm 26 [l0, l1, l2, l3, l4, l5, l6, l7, l8, l9, l10, l11, l12, l13, l14, l15] (S) H Q := W.iconst' at_26 (by decide) h
theorem s0_27 {rm : Room} {S : List Value} {H : AHeap} {Q : Option Value → AHeap → Prop} {l0 l1 l2 l3 l4 l5 l6 l7 l8 l9 l10 l11 l12 l13 l14 l15 : Slot} {x : Int32} (ho : one l7 = true) (h : W0 rm 29 [l0, l1, l2, l3, l4, l5, l6, .val (.int x), l8, l9, l10, l11, l12, l13, l14, l15] (S) (H) Q) : W0 rm 27 [l0, l1, l2, l3, l4, l5, l6, l7, l8, l9, l10, l11, l12, l13, l14, l15] (.int x :: S) H Q := W.istore at_27 rfl ho h
theorem s0_27w {rm : Room} {S : List Value} {H : AHeap} {Q : Option Value → AHeap → Prop} {l0 l1 l2 l3 l4 l5 l6 l8 l9 l10 l11 l12 l13 l14 l15 : Slot} {w : Value} {x : Int32} (ho : w.category = 2) (h : W0 rm 29 [l0, l1, l2, l3, l4, l5, l6, .val (.int x), .unset, l9, l10, l11, l12, l13, l14, l15] (S) (H) Q) : W0 rm 27 [l0, l1, l2, l3, l4, l5, l6, .val w, l8, l9, l10, l11, l12, l13, l14, l15] (.int x :: S) H Q := W.istoreW at_27 rfl ho (Nat.le_of_ble_eq_true rfl) h
theorem s0_27s {rm : Room} {S : List Value} {H : AHeap} {Q : Option Value → AHeap → Prop} {l0 l1 l2 l3 l4 l5 l6 l8 l9 l10 l11 l12 l13 l14 l15 : Slot} {x : Int32} (h : W0 rm 29 [l0, l1, l2, l3, l4, l5, .unset, .val (.int x), l8, l9, l10, l11, l12, l13, l14, l15] (S) (H) Q) : W0 rm 27 [l0, l1, l2, l3, l4, l5, l6, .second, l8, l9, l10, l11, l12, l13, l14, l15] (.int x :: S) H Q := W.istoreS at_27 rfl (by decide) h
theorem s0_29 {rm : Room} {S : List Value} {H : AHeap} {Q : Option Value → AHeap → Prop} {l0 l1 l2 l3 l4 l6 l7 l8 l9 l10 l11 l12 l13 l14 l15 : Slot} {x : Int32} (h : W0 rm 31 [l0, l1, l2, l3, l4, .val (.int x), l6, l7, l8, l9, l10, l11, l12, l13, l14, l15] (.int x :: S) (H) Q) : W0 rm 29 [l0, l1, l2, l3, l4, .val (.int x), l6, l7, l8, l9, l10, l11, l12, l13, l14, l15] (S) H Q := W.iload at_29 rfl h
theorem s0_31 {rm : Room} {S : List Value} {H : AHeap} {Q : Option Value → AHeap → Prop} {l0 l1 l2 l3 l4 l5 l6 l7 l8 l9 l10 l11 l12 l13 l14 l15 : Slot}  (h : W0 rm 32 [l0, l1, l2, l3, l4, l5, l6, l7, l8, l9, l10, l11, l12, l13, l14, l15] (.int 1 :: S) (H) Q) : W0 rm 31 [l0, l1, l2, l3, l4, l5, l6, l7, l8, l9, l10, l11, l12, l13, l14, l15] (S) H Q := W.iconst' at_31 (by decide) h
theorem s0_32 {rm : Room} {S : List Value} {H : AHeap} {Q : Option Value → AHeap → Prop} {l0 l1 l2 l3 l4 l5 l6 l7 l8 l9 l10 l11 l12 l13 l14 l15 : Slot} {x y : Int32} (h1 : x = y → W0 rm 44 [l0, l1, l2, l3, l4, l5, l6, l7, l8, l9, l10, l11, l12, l13, l14, l15] S H Q) (h2 : ¬ x = y → W0 rm 35 [l0, l1, l2, l3, l4, l5, l6, l7, l8, l9, l10, l11, l12, l13, l14, l15] S H Q) : W0 rm 32 [l0, l1, l2, l3, l4, l5, l6, l7, l8, l9, l10, l11, l12, l13, l14, l15] (.int y :: .int x :: S) H Q := W.icmp at_32 (by decide) (by decide) h1 h2
theorem s0_35 {rm : Room} {S : List Value} {H : AHeap} {Q : Option Value → AHeap → Prop} {l0 l1 l2 l3 l4 l5 l7 l8 l9 l10 l11 l12 l13 l14 l15 : Slot} {i : Nat} (h : W0 rm 37 [l0, l1, l2, l3, l4, l5, .val (.ref i), l7, l8, l9, l10, l11, l12, l13, l14, l15] (.ref i :: S) (H) Q) : W0 rm 35 [l0, l1, l2, l3, l4, l5, .val (.ref i), l7, l8, l9, l10, l11, l12, l13, l14, l15] (S) H Q := W.aload at_35 rfl rfl h
theorem s0_35n {rm : Room} {S : List Value} {H : AHeap} {Q : Option Value → AHeap → Prop} {l0 l1 l2 l3 l4 l5 l7 l8 l9 l10 l11 l12 l13 l14 l15 : Slot}  (h : W0 rm 37 [l0, l1, l2, l3, l4, l5, .val .null, l7, l8, l9, l10, l11, l12, l13, l14, l15] (.null :: S) (H) Q) : W0 rm 35 [l0, l1, l2, l3, l4, l5, .val .null, l7, l8, l9, l10, l11, l12, l13, l14, l15] (S) H Q := W.aload at_35 rfl rfl h
theorem s0_37 {rm : Room} {S : List Value} {H : AHeap} {Q : Option Value → AHeap → Prop} {l0 l1 l2 l3 l4 l5 l6 l8 l9 l10 l11 l12 l13 l14 l15 : Slot} {x : Int32} (h : W0 rm 39 [l0, l1, l2, l3, l4, l5, l6, .val (.int x), l8, l9, l10, l11, l12, l13, l14, l15] (.int x :: S) (H) Q) : W0 rm 37 [l0, l1, l2, l3, l4, l5, l6, .val (.int x), l8, l9, l10, l11, l12, l13, l14, l15] (S) H Q := W.iload at_37 rfl h
theorem s0_39 {rm : Room} {S : List Value} {H : AHeap} {Q : Option Value → AHeap → Prop} {l0 l1 l2 l3 l4 l5 l6 l7 l8 l9 l10 l11 l12 l13 l14 l15 : Slot}  (h : W0 rm 40 [l0, l1, l2, l3, l4, l5, l6, l7, l8, l9, l10, l11, l12, l13, l14, l15] (.int 1 :: S) (H) Q) : W0 rm 39 [l0, l1, l2, l3, l4, l5, l6, l7, l8, l9, l10, l11, l12, l13, l14, l15] (S) H Q := W.iconst' at_39 (by decide) h
theorem s0_40 {rm : Room} {S : List Value} {H : AHeap} {Q : Option Value → AHeap → Prop} {l0 l1 l2 l3 l4 l5 l6 l7 l8 l9 l10 l11 l12 l13 l14 l15 : Slot} {i : Nat} {j : Int32} {x : Int32} {vs : List Value} (N : Nat) (hH : H[i]? = some (.inr (.int, vs))) (hj : ix j N) (hl : Nat.blt N vs.length = true) (h : W0 rm 41 [l0, l1, l2, l3, l4, l5, l6, l7, l8, l9, l10, l11, l12, l13, l14, l15] (S) (H.set i (.inr (.int, vs.set N (.int x)))) Q) : W0 rm 40 [l0, l1, l2, l3, l4, l5, l6, l7, l8, l9, l10, l11, l12, l13, l14, l15] (.int x :: .int j :: .ref i :: S) H Q := W.iastore at_40 hH hj hl h
theorem s0_41 {rm : Room} {S : List Value} {H : AHeap} {Q : Option Value → AHeap → Prop} {l0 l1 l2 l3 l4 l5 l6 l8 l9 l10 l11 l12 l13 l14 l15 : Slot} {x : Int32} (h : W0 rm 44 [l0, l1, l2, l3, l4, l5, l6, .val (.int (x + 1)), l8, l9, l10, l11, l12, l13, l14, l15] (S) (H) Q) : W0 rm 41 [l0, l1, l2, l3, l4, l5, l6, .val (.int x), l8, l9, l10, l11, l12, l13, l14, l15] (S) H Q := W.iinc at_41 (by decide) rfl h
theorem s0_44 {rm : Room} {S : List Value} {H : AHeap} {Q : Option Value → AHeap → Prop} {l0 l1 l2 l3 l5 l6 l7 l8 l9 l10 l11 l12 l13 l14 l15 : Slot} {x : Int32} (h : W0 rm 46 [l0, l1, l2, l3, .val (.int x), l5, l6, l7, l8, l9, l10, l11, l12, l13, l14, l15] (.int x :: S) (H) Q) : W0 rm 44 [l0, l1, l2, l3, .val (.int x), l5, l6, l7, l8, l9, l10, l11, l12, l13, l14, l15] (S) H Q := W.iload at_44 rfl h
theorem s0_46 {rm : Room} {S : List Value} {H : AHeap} {Q : Option Value → AHeap → Prop} {l0 l1 l2 l3 l4 l5 l6 l7 l8 l9 l10 l11 l12 l13 l14 l15 : Slot}  (h : W0 rm 47 [l0, l1, l2, l3, l4, l5, l6, l7, l8, l9, l10, l11, l12, l13, l14, l15] (.int 2 :: S) (H) Q) : W0 rm 46 [l0, l1, l2, l3, l4, l5, l6, l7, l8, l9, l10, l11, l12, l13, l14, l15] (S) H Q := W.iconst' at_46 (by decide) h
theorem s0_47 {rm : Room} {S : List Value} {H : AHeap} {Q : Option Value → AHeap → Prop} {l0 l1 l2 l3 l4 l5 l6 l7 l8 l9 l10 l11 l12 l13 l14 l15 : Slot} {x y : Int32} (h1 : x < y → W0 rm 65 [l0, l1, l2, l3, l4, l5, l6, l7, l8, l9, l10, l11, l12, l13, l14, l15] S H Q) (h2 : ¬ x < y → W0 rm 50 [l0, l1, l2, l3, l4, l5, l6, l7, l8, l9, l10, l11, l12, l13, l14, l15] S H Q) : W0 rm 47 [l0, l1, l2, l3, l4, l5, l6, l7, l8, l9, l10, l11, l12, l13, l14, l15] (.int y :: .int x :: S) H Q := W.icmp at_47 (by decide) (by decide) h1 h2
theorem s0_50 {rm : Room} {S : List Value} {H : AHeap} {Q : Option Value → AHeap → Prop} {l0 l1 l2 l3 l4 l6 l7 l8 l9 l10 l11 l12 l13 l14 l15 : Slot} {x : Int32} (h : W0 rm 52 [l0, l1, l2, l3, l4, .val (.int x), l6, l7, l8, l9, l10, l11, l12, l13, l14, l15] (.int x :: S) (H) Q) : W0 rm 50 [l0, l1, l2, l3, l4, .val (.int x), l6, l7, l8, l9, l10, l11, l12, l13, l14, l15] (S) H Q := W.iload at_50 rfl h
theorem s0_52 {rm : Room} {S : List Value} {H : AHeap} {Q : Option Value → AHeap → Prop} {l0 l1 l2 l3 l4 l5 l6 l7 l8 l9 l10 l11 l12 l13 l14 l15 : Slot}  (h : W0 rm 53 [l0, l1, l2, l3, l4, l5, l6, l7, l8, l9, l10, l11, l12, l13, l14, l15] (.int 2 :: S) (H) Q) : W0 rm 52 [l0, l1, l2, l3, l4, l5, l6, l7, l8, l9, l10, l11, l12, l13, l14, l15] (S) H Q := W.iconst' at_52 (by decide) h
theorem s0_53 {rm : Room} {S : List Value} {H : AHeap} {Q : Option Value → AHeap → Prop} {l0 l1 l2 l3 l4 l5 l6 l7 l8 l9 l10 l11 l12 l13 l14 l15 : Slot} {x y : Int32} (h1 : x = y → W0 rm 65 [l0, l1, l2, l3, l4, l5, l6, l7, l8, l9, l10, l11, l12, l13, l14, l15] S H Q) (h2 : ¬ x = y → W0 rm 56 [l0, l1, l2, l3, l4, l5, l6, l7, l8, l9, l10, l11, l12, l13, l14, l15] S H Q) : W0 rm 53 [l0, l1, l2, l3, l4, l5, l6, l7, l8, l9, l10, l11, l12, l13, l14, l15] (.int y :: .int x :: S) H Q := W.icmp at_53 (by decide) (by decide) h1 h2
theorem s0_56 {rm : Room} {S : List Value} {H : AHeap} {Q : Option Value → AHeap → Prop} {l0 l1 l2 l3 l4 l5 l7 l8 l9 l10 l11 l12 l13 l14 l15 : Slot} {i : Nat} (h : W0 rm 58 [l0, l1, l2, l3, l4, l5, .val (.ref i), l7, l8, l9, l10, l11, l12, l13, l14, l15] (.ref i :: S) (H) Q) : W0 rm 56 [l0, l1, l2, l3, l4, l5, .val (.ref i), l7, l8, l9, l10, l11, l12, l13, l14, l15] (S) H Q := W.aload at_56 rfl rfl h
theorem s0_56n {rm : Room} {S : List Value} {H : AHeap} {Q : Option Value → AHeap → Prop} {l0 l1 l2 l3 l4 l5 l7 l8 l9 l10 l11 l12 l13 l14 l15 : Slot}  (h : W0 rm 58 [l0, l1, l2, l3, l4, l5, .val .null, l7, l8, l9, l10, l11, l12, l13, l14, l15] (.null :: S) (H) Q) : W0 rm 56 [l0, l1, l2, l3, l4, l5, .val .null, l7, l8, l9, l10, l11, l12, l13, l14, l15] (S) H Q := W.aload at_56 rfl rfl h
theorem s0_58 {rm : Room} {S : List Value} {H : AHeap} {Q : Option Value → AHeap → Prop} {l0 l1 l2 l3 l4 l5 l6 l8 l9 l10 l11 l12 l13 l14 l15 : Slot} {x : Int32} (h : W0 rm 60 [l0, l1, l2, l3, l4, l5, l6, .val (.int x), l8, l9, l10, l11, l12, l13, l14, l15] (.int x :: S) (H) Q) : W0 rm 58 [l0, l1, l2, l3, l4, l5, l6, .val (.int x), l8, l9, l10, l11, l12, l13, l14, l15] (S) H Q := W.iload at_58 rfl h
theorem s0_60 {rm : Room} {S : List Value} {H : AHeap} {Q : Option Value → AHeap → Prop} {l0 l1 l2 l3 l4 l5 l6 l7 l8 l9 l10 l11 l12 l13 l14 l15 : Slot}  (h : W0 rm 61 [l0, l1, l2, l3, l4, l5, l6, l7, l8, l9, l10, l11, l12, l13, l14, l15] (.int 2 :: S) (H) Q) : W0 rm 60 [l0, l1, l2, l3, l4, l5, l6, l7, l8, l9, l10, l11, l12, l13, l14, l15] (S) H Q := W.iconst' at_60 (by decide) h
theorem s0_61 {rm : Room} {S : List Value} {H : AHeap} {Q : Option Value → AHeap → Prop} {l0 l1 l2 l3 l4 l5 l6 l7 l8 l9 l10 l11 l12 l13 l14 l15 : Slot} {i : Nat} {j : Int32} {x : Int32} {vs : List Value} (N : Nat) (hH : H[i]? = some (.inr (.int, vs))) (hj : ix j N) (hl : Nat.blt N vs.length = true) (h : W0 rm 62 [l0, l1, l2, l3, l4, l5, l6, l7, l8, l9, l10, l11, l12, l13, l14, l15] (S) (H.set i (.inr (.int, vs.set N (.int x)))) Q) : W0 rm 61 [l0, l1, l2, l3, l4, l5, l6, l7, l8, l9, l10, l11, l12, l13, l14, l15] (.int x :: .int j :: .ref i :: S) H Q := W.iastore at_61 hH hj hl h
theorem s0_62 {rm : Room} {S : List Value} {H : AHeap} {Q : Option Value → AHeap → Prop} {l0 l1 l2 l3 l4 l5 l6 l8 l9 l10 l11 l12 l13 l14 l15 : Slot} {x : Int32} (h : W0 rm 65 [l0, l1, l2, l3, l4, l5, l6, .val (.int (x + 1)), l8, l9, l10, l11, l12, l13, l14, l15] (S) (H) Q) : W0 rm 62 [l0, l1, l2, l3, l4, l5, l6, .val (.int x), l8, l9, l10, l11, l12, l13, l14, l15] (S) H Q := W.iinc at_62 (by decide) rfl h
theorem s0_65 {rm : Room} {S : List Value} {H : AHeap} {Q : Option Value → AHeap → Prop} {l0 l1 l2 l3 l5 l6 l7 l8 l9 l10 l11 l12 l13 l14 l15 : Slot} {x : Int32} (h : W0 rm 67 [l0, l1, l2, l3, .val (.int x), l5, l6, l7, l8, l9, l10, l11, l12, l13, l14, l15] (.int x :: S) (H) Q) : W0 rm 65 [l0, l1, l2, l3, .val (.int x), l5, l6, l7, l8, l9, l10, l11, l12, l13, l14, l15] (S) H Q := W.iload at_65 rfl h
theorem s0_67 {rm : Room} {S : List Value} {H : AHeap} {Q : Option Value → AHeap → Prop} {l0 l1 l2 l3 l4 l5 l6 l7 l8 l9 l10 l11 l12 l13 l14 l15 : Slot}  (h : W0 rm 68 [l0, l1, l2, l3, l4, l5, l6, l7, l8, l9, l10, l11, l12, l13, l14, l15] (.int 3 :: S) (H) Q) : W0 rm 67 [l0, l1, l2, l3, l4, l5, l6, l7, l8, l9, l10, l11, l12, l13, l14, l15] (S) H Q := W.iconst' at_67 (by decide) h
theorem s0_68 {rm : Room} {S : List Value} {H : AHeap} {Q : Option Value → AHeap → Prop} {l0 l1 l2 l3 l4 l5 l6 l7 l8 l9 l10 l11 l12 l13 l14 l15 : Slot} {x y : Int32} (h1 : x < y → W0 rm 86 [l0, l1, l2, l3, l4, l5, l6, l7, l8, l9, l10, l11, l12, l13, l14, l15] S H Q) (h2 : ¬ x < y → W0 rm 71 [l0, l1, l2, l3, l4, l5, l6, l7, l8, l9, l10, l11, l12, l13, l14, l15] S H Q) : W0 rm 68 [l0, l1, l2, l3, l4, l5, l6, l7, l8, l9, l10, l11, l12, l13, l14, l15] (.int y :: .int x :: S) H Q := W.icmp at_68 (by decide) (by decide) h1 h2
theorem s0_71 {rm : Room} {S : List Value} {H : AHeap} {Q : Option Value → AHeap → Prop} {l0 l1 l2 l3 l4 l6 l7 l8 l9 l10 l11 l12 l13 l14 l15 : Slot} {x : Int32} (h : W0 rm 73 [l0, l1, l2, l3, l4, .val (.int x), l6, l7, l8, l9, l10, l11, l12, l13, l14, l15] (.int x :: S) (H) Q) : W0 rm 71 [l0, l1, l2, l3, l4, .val (.int x), l6, l7, l8, l9, l10, l11, l12, l13, l14, l15] (S) H Q := W.iload at_71 rfl h
theorem s0_73 {rm : Room} {S : List Value} {H : AHeap} {Q : Option Value → AHeap → Prop} {l0 l1 l2 l3 l4 l5 l6 l7 l8 l9 l10 l11 l12 l13 l14 l15 : Slot}  (h : W0 rm 74 [l0, l1, l2, l3, l4, l5, l6, l7, l8, l9, l10, l11, l12, l13, l14, l15] (.int 3 :: S) (H) Q) : W0 rm 73 [l0, l1, l2, l3, l4, l5, l6, l7, l8, l9, l10, l11, l12, l13, l14, l15] (S) H Q := W.iconst' at_73 (by decide) h
theorem s0_74 {rm : Room} {S : List Value} {H : AHeap} {Q : Option Value → AHeap → Prop} {l0 l1 l2 l3 l4 l5 l6 l7 l8 l9 l10 l11 l12 l13 l14 l15 : Slot} {x y : Int32} (h1 : x = y → W0 rm 86 [l0, l1, l2, l3, l4, l5, l6, l7, l8, l9, l10, l11, l12, l13, l14, l15] S H Q) (h2 : ¬ x = y → W0 rm 77 [l0, l1, l2, l3, l4, l5, l6, l7, l8, l9, l10, l11, l12, l13, l14, l15] S H Q) : W0 rm 74 [l0, l1, l2, l3, l4, l5, l6, l7, l8, l9, l10, l11, l12, l13, l14, l15] (.int y :: .int x :: S) H Q := W.icmp at_74 (by decide) (by decide) h1 h2
theorem s0_77 {rm : Room} {S : List Value} {H : AHeap} {Q : Option Value → AHeap → Prop} {l0 l1 l2 l3 l4 l5 l7 l8 l9 l10 l11 l12 l13 l14 l15 : Slot} {i : Nat} (h : W0 rm 79 [l0, l1, l2, l3, l4, l5, .val (.ref i), l7, l8, l9, l10, l11, l12, l13, l14, l15] (.ref i :: S) (H) Q) : W0 rm 77 [l0, l1, l2, l3, l4, l5, .val (.ref i), l7, l8, l9, l10, l11, l12, l13, l14, l15] (S) H Q := W.aload at_77 rfl rfl h
theorem s0_77n {rm : Room} {S : List Value} {H : AHeap} {Q : Option Value → AHeap → Prop} {l0 l1 l2 l3 l4 l5 l7 l8 l9 l10 l11 l12 l13 l14 l15 : Slot}  (h : W0 rm 79 [l0, l1, l2, l3, l4, l5, .val .null, l7, l8, l9, l10, l11, l12, l13, l14, l15] (.null :: S) (H) Q) : W0 rm 77 [l0, l1, l2, l3, l4, l5, .val .null, l7, l8, l9, l10, l11, l12, l13, l14, l15] (S) H Q := W.aload at_77 rfl rfl h
theorem s0_79 {rm : Room} {S : List Value} {H : AHeap} {Q : Option Value → AHeap → Prop} {l0 l1 l2 l3 l4 l5 l6 l8 l9 l10 l11 l12 l13 l14 l15 : Slot} {x : Int32} (h : W0 rm 81 [l0, l1, l2, l3, l4, l5, l6, .val (.int x), l8, l9, l10, l11, l12, l13, l14, l15] (.int x :: S) (H) Q) : W0 rm 79 [l0, l1, l2, l3, l4, l5, l6, .val (.int x), l8, l9, l10, l11, l12, l13, l14, l15] (S) H Q := W.iload at_79 rfl h
theorem s0_81 {rm : Room} {S : List Value} {H : AHeap} {Q : Option Value → AHeap → Prop} {l0 l1 l2 l3 l4 l5 l6 l7 l8 l9 l10 l11 l12 l13 l14 l15 : Slot}  (h : W0 rm 82 [l0, l1, l2, l3, l4, l5, l6, l7, l8, l9, l10, l11, l12, l13, l14, l15] (.int 3 :: S) (H) Q) : W0 rm 81 [l0, l1, l2, l3, l4, l5, l6, l7, l8, l9, l10, l11, l12, l13, l14, l15] (S) H Q := W.iconst' at_81 (by decide) h
theorem s0_82 {rm : Room} {S : List Value} {H : AHeap} {Q : Option Value → AHeap → Prop} {l0 l1 l2 l3 l4 l5 l6 l7 l8 l9 l10 l11 l12 l13 l14 l15 : Slot} {i : Nat} {j : Int32} {x : Int32} {vs : List Value} (N : Nat) (hH : H[i]? = some (.inr (.int, vs))) (hj : ix j N) (hl : Nat.blt N vs.length = true) (h : W0 rm 83 [l0, l1, l2, l3, l4, l5, l6, l7, l8, l9, l10, l11, l12, l13, l14, l15] (S) (H.set i (.inr (.int, vs.set N (.int x)))) Q) : W0 rm 82 [l0, l1, l2, l3, l4, l5, l6, l7, l8, l9, l10, l11, l12, l13, l14, l15] (.int x :: .int j :: .ref i :: S) H Q := W.iastore at_82 hH hj hl h
theorem s0_83 {rm : Room} {S : List Value} {H : AHeap} {Q : Option Value → AHeap → Prop} {l0 l1 l2 l3 l4 l5 l6 l8 l9 l10 l11 l12 l13 l14 l15 : Slot} {x : Int32} (h : W0 rm 86 [l0, l1, l2, l3, l4, l5, l6, .val (.int (x + 1)), l8, l9, l10, l11, l12, l13, l14, l15] (S) (H) Q) : W0 rm 83 [l0, l1, l2, l3, l4, l5, l6, .val (.int x), l8, l9, l10, l11, l12, l13, l14, l15] (S) H Q := W.iinc at_83 (by decide) rfl h
theorem s0_86 {rm : Room} {S : List Value} {H : AHeap} {Q : Option Value → AHeap → Prop} {l0 l1 l3 l4 l5 l6 l7 l8 l9 l10 l11 l12 l13 l14 l15 : Slot} {x : Int32} (h : W0 rm 87 [l0, l1, .val (.int x), l3, l4, l5, l6, l7, l8, l9, l10, l11, l12, l13, l14, l15] (.int x :: S) (H) Q) : W0 rm 86 [l0, l1, .val (.int x), l3, l4, l5, l6, l7, l8, l9, l10, l11, l12, l13, l14, l15] (S) H Q := W.iload_n at_86 rfl h
theorem s0_87 {rm : Room} {S : List Value} {H : AHeap} {Q : Option Value → AHeap → Prop} {l0 l1 l2 l3 l4 l5 l6 l7 l8 l9 l10 l11 l12 l13 l14 l15 : Slot}  (h : W0 rm 88 [l0, l1, l2, l3, l4, l5, l6, l7, l8, l9, l10, l11, l12, l13, l14, l15] (.int 1 :: S) (H) Q) : W0 rm 87 [l0, l1, l2, l3, l4, l5, l6, l7, l8, l9, l10, l11, l12, l13, l14, l15] (S) H Q := W.iconst' at_87 (by decide) h
theorem s0_88 {rm : Room} {S : List Value} {H : AHeap} {Q : Option Value → AHeap → Prop} {l0 l1 l2 l3 l4 l5 l6 l7 l8 l9 l10 l11 l12 l13 l14 l15 : Slot} {x y : Int32} (h : W0 rm 89 [l0, l1, l2, l3, l4, l5, l6, l7, l8, l9, l10, l11, l12, l13, l14, l15] (.int (x &&& y) :: S) (H) Q) : W0 rm 88 [l0, l1, l2, l3, l4, l5, l6, l7, l8, l9, l10, l11, l12, l13, l14, l15] (.int y :: .int x :: S) H Q := W.iand at_88 h
theorem s0_89 {rm : Room} {S : List Value} {H : AHeap} {Q : Option Value → AHeap → Prop} {l0 l1 l2 l3 l4 l5 l6 l7 l8 l9 l10 l11 l12 l13 l14 l15 : Slot} {x : Int32} (h1 : x = 0 → W0 rm 102 [l0, l1, l2, l3, l4, l5, l6, l7, l8, l9, l10, l11, l12, l13, l14, l15] S H Q) (h2 : ¬ x = 0 → W0 rm 92 [l0, l1, l2, l3, l4, l5, l6, l7, l8, l9, l10, l11, l12, l13, l14, l15] S H Q) : W0 rm 89 [l0, l1, l2, l3, l4, l5, l6, l7, l8, l9, l10, l11, l12, l13, l14, l15] (.int x :: S) H Q := W.ifc at_89 (by decide) (by decide) h1 h2
theorem s0_92 {rm : Room} {S : List Value} {H : AHeap} {Q : Option Value → AHeap → Prop} {l0 l1 l2 l3 l4 l5 l6 l8 l9 l10 l11 l12 l13 l14 l15 : Slot} {x : Int32} (h : W0 rm 94 [l0, l1, l2, l3, l4, l5, l6, .val (.int x), l8, l9, l10, l11, l12, l13, l14, l15] (.int x :: S) (H) Q) : W0 rm 92 [l0, l1, l2, l3, l4, l5, l6, .val (.int x), l8, l9, l10, l11, l12, l13, l14, l15] (S) H Q := W.iload at_92 rfl h
theorem s0_94 {rm : Room} {S : List Value} {H : AHeap} {Q : Option Value → AHeap → Prop} {l0 l1 l2 l3 l4 l5 l6 l7 l8 l9 l10 l11 l12 l13 l14 l15 : Slot}  (h : W0 rm 95 [l0, l1, l2, l3, l4, l5, l6, l7, l8, l9, l10, l11, l12, l13, l14, l15] (.int 1 :: S) (H) Q) : W0 rm 94 [l0, l1, l2, l3, l4, l5, l6, l7, l8, l9, l10, l11, l12, l13, l14, l15] (S) H Q := W.iconst' at_94 (by decide) h
theorem s0_95 {rm : Room} {S : List Value} {H : AHeap} {Q : Option Value → AHeap → Prop} {l0 l1 l2 l3 l4 l5 l6 l7 l8 l9 l10 l11 l12 l13 l14 l15 : Slot} {x y : Int32} (h1 : x < y → W0 rm 102 [l0, l1, l2, l3, l4, l5, l6, l7, l8, l9, l10, l11, l12, l13, l14, l15] S H Q) (h2 : ¬ x < y → W0 rm 98 [l0, l1, l2, l3, l4, l5, l6, l7, l8, l9, l10, l11, l12, l13, l14, l15] S H Q) : W0 rm 95 [l0, l1, l2, l3, l4, l5, l6, l7, l8, l9, l10, l11, l12, l13, l14, l15] (.int y :: .int x :: S) H Q := W.icmp at_95 (by decide) (by decide) h1 h2
theorem s0_98 {rm : Room} {S : List Value} {H : AHeap} {Q : Option Value → AHeap → Prop} {l0 l1 l2 l3 l4 l5 l6 l7 l8 l9 l10 l11 l12 l13 l14 l15 : Slot}  (h : W0 rm 99 [l0, l1, l2, l3, l4, l5, l6, l7, l8, l9, l10, l11, l12, l13, l14, l15] (.int 1 :: S) (H) Q) : W0 rm 98 [l0, l1, l2, l3, l4, l5, l6, l7, l8, l9, l10, l11, l12, l13, l14, l15] (S) H Q := W.iconst' at_98 (by decide) h
theorem s0_99 {rm : Room} {S : List Value} {H : AHeap} {Q : Option Value → AHeap → Prop} {l0 l1 l2 l3 l4 l5 l6 l7 l8 l9 l10 l11 l12 l13 l14 l15 : Slot}  (h : W0 rm 103 [l0, l1, l2, l3, l4, l5, l6, l7, l8, l9, l10, l11, l12, l13, l14, l15] (S) (H) Q) : W0 rm 99 [l0, l1, l2, l3, l4, l5, l6, l7, l8, l9, l10, l11, l12, l13, l14, l15] (S) H Q := W.goto at_99 (by decide) (by decide) h
theorem s0_102 {rm : Room} {S : List Value} {H : AHeap} {Q : Option Value → AHeap → Prop} {l0 l1 l2 l3 l4 l5 l6 l7 l8 l9 l10 l11 l12 l13 l14 l15 : Slot}  (h : W0 rm 103 [l0, l1, l2, l3, l4, l5, l6, l7, l8, l9, l10, l11, l12, l13, l14, l15] (.int 0 :: S) (H) Q) : W0 rm 102 [l0, l1, l2, l3, l4, l5, l6, l7, l8, l9, l10, l11, l12, l13, l14, l15] (S) H Q := W.iconst' at_102 (by decide) h
theorem s0_103 {rm : Room} {S : List Value} {H : AHeap} {Q : Option Value → AHeap → Prop} {l0 l1 l2 l3 l4 l5 l6 l7 l8 l9 l10 l11 l12 l13 l14 l15 : Slot} {x : Int32} (ho : one l8 = true) (h : W0 rm 105 [l0, l1, l2, l3, l4, l5, l6, l7, .val (.int x), l9, l10, l11, l12, l13, l14, l15] (S) (H) Q) : W0 rm 103 [l0, l1, l2, l3, l4, l5, l6, l7, l8, l9, l10, l11, l12, l13, l14, l15] (.int x :: S) H Q := W.istore at_103 rfl ho h
theorem s0_103w {rm : Room} {S : List Value} {H : AHeap} {Q : Option Value → AHeap → Prop} {l0 l1 l2 l3 l4 l5 l6 l7 l9 l10 l11 l12 l13 l14 l15 : Slot} {w : Value} {x : Int32} (ho : w.category = 2) (h : W0 rm 105 [l0, l1, l2, l3, l4, l5, l6, l7, .val (.int x), .unset, l10, l11, l12, l13, l14, l15] (S) (H) Q) : W0 rm 103 [l0, l1, l2, l3, l4, l5, l6, l7, .val w, l9, l10, l11, l12, l13, l14, l15] (.int x :: S) H Q := W.istoreW at_103 rfl ho (Nat.le_of_ble_eq_true rfl) h
theorem s0_103s {rm : Room} {S : List Value} {H : AHeap} {Q : Option Value → AHeap → Prop} {l0 l1 l2 l3 l4 l5 l6 l7 l9 l10 l11 l12 l13 l14 l15 : Slot} {x : Int32} (h : W0 rm 105 [l0, l1, l2, l3, l4, l5, l6, .unset, .val (.int x), l9, l10, l11, l12, l13, l14, l15] (S) (H) Q) : W0 rm 103 [l0, l1, l2, l3, l4, l5, l6, l7, .second, l9, l10, l11, l12, l13, l14, l15] (.int x :: S) H Q := W.istoreS at_103 rfl (by decide) h
theorem s0_105 {rm : Room} {S : List Value} {H : AHeap} {Q : Option Value → AHeap → Prop} {l0 l1 l2 l3 l4 l5 l6 l7 l9 l10 l11 l12 l13 l14 l15 : Slot} {x : Int32} (h : W0 rm 107 [l0, l1, l2, l3, l4, l5, l6, l7, .val (.int x), l9, l10, l11, l12, l13, l14, l15] (.int x :: S) (H) Q) : W0 rm 105 [l0, l1, l2, l3, l4, l5, l6, l7, .val (.int x), l9, l10, l11, l12, l13, l14, l15] (S) H Q := W.iload at_105 rfl h
theorem s0_107 {rm : Room} {S : List Value} {H : AHeap} {Q : Option Value → AHeap → Prop} {l0 l1 l2 l3 l4 l5 l6 l7 l8 l9 l10 l11 l12 l13 l14 l15 : Slot} {x : Int32} (h1 : x = 0 → W0 rm 123 [l0, l1, l2, l3, l4, l5, l6, l7, l8, l9, l10, l11, l12, l13, l14, l15] S H Q) (h2 : ¬ x = 0 → W0 rm 110 [l0, l1, l2, l3, l4, l5, l6, l7, l8, l9, l10, l11, l12, l13, l14, l15] S H Q) : W0 rm 107 [l0, l1, l2, l3, l4, l5, l6, l7, l8, l9, l10, l11, l12, l13, l14, l15] (.int x :: S) H Q := W.ifc at_107 (by decide) (by decide) h1 h2
theorem s0_110 {rm : Room} {S : List Value} {H : AHeap} {Q : Option Value → AHeap → Prop} {l0 l1 l2 l3 l4 l5 l7 l8 l9 l10 l11 l12 l13 l14 l15 : Slot} {i : Nat} (h : W0 rm 112 [l0, l1, l2, l3, l4, l5, .val (.ref i), l7, l8, l9, l10, l11, l12, l13, l14, l15] (.ref i :: S) (H) Q) : W0 rm 110 [l0, l1, l2, l3, l4, l5, .val (.ref i), l7, l8, l9, l10, l11, l12, l13, l14, l15] (S) H Q := W.aload at_110 rfl rfl h
theorem s0_110n {rm : Room} {S : List Value} {H : AHeap} {Q : Option Value → AHeap → Prop} {l0 l1 l2 l3 l4 l5 l7 l8 l9 l10 l11 l12 l13 l14 l15 : Slot}  (h : W0 rm 112 [l0, l1, l2, l3, l4, l5, .val .null, l7, l8, l9, l10, l11, l12, l13, l14, l15] (.null :: S) (H) Q) : W0 rm 110 [l0, l1, l2, l3, l4, l5, .val .null, l7, l8, l9, l10, l11, l12, l13, l14, l15] (S) H Q := W.aload at_110 rfl rfl h
theorem s0_112 {rm : Room} {S : List Value} {H : AHeap} {Q : Option Value → AHeap → Prop} {l0 l1 l2 l4 l5 l6 l7 l8 l9 l10 l11 l12 l13 l14 l15 : Slot} {x : Int32} (h : W0 rm 113 [l0, l1, l2, .val (.int x), l4, l5, l6, l7, l8, l9, l10, l11, l12, l13, l14, l15] (.int x :: S) (H) Q) : W0 rm 112 [l0, l1, l2, .val (.int x), l4, l5, l6, l7, l8, l9, l10, l11, l12, l13, l14, l15] (S) H Q := W.iload_n at_112 rfl h
theorem s0_113 {rm : Room} {S : List Value} {H : AHeap} {Q : Option Value → AHeap → Prop} {l0 l1 l2 l3 l4 l5 l6 l7 l8 l9 l10 l11 l12 l13 l14 l15 : Slot}  (h : W0 rm 115 [l0, l1, l2, l3, l4, l5, l6, l7, l8, l9, l10, l11, l12, l13, l14, l15] (.int 2147483647 :: S) (H) Q) : W0 rm 113 [l0, l1, l2, l3, l4, l5, l6, l7, l8, l9, l10, l11, l12, l13, l14, l15] (S) H Q := W.ldcInt at_113 (List.mem_of_getElem? (i := 0) rfl) h
theorem s0_115 {rm : Room} {S : List Value} {H : AHeap} {Q : Option Value → AHeap → Prop} {l0 l1 l2 l3 l4 l5 l6 l7 l8 l9 l10 l11 l12 l13 l14 l15 : Slot} {x y : Int32} (h : W0 rm 116 [l0, l1, l2, l3, l4, l5, l6, l7, l8, l9, l10, l11, l12, l13, l14, l15] (.int (x &&& y) :: S) (H) Q) : W0 rm 115 [l0, l1, l2, l3, l4, l5, l6, l7, l8, l9, l10, l11, l12, l13, l14, l15] (.int y :: .int x :: S) H Q := W.iand at_115 h
theorem s0_116 {rm : Room} {S : List Value} {H : AHeap} {Q : Option Value → AHeap → Prop} {l0 l1 l2 l3 l4 l5 l6 l8 l9 l10 l11 l12 l13 l14 l15 : Slot} {x : Int32} (h : W0 rm 118 [l0, l1, l2, l3, l4, l5, l6, .val (.int x), l8, l9, l10, l11, l12, l13, l14, l15] (.int x :: S) (H) Q) : W0 rm 116 [l0, l1, l2, l3, l4, l5, l6, .val (.int x), l8, l9, l10, l11, l12, l13, l14, l15] (S) H Q := W.iload at_116 rfl h
theorem s0_118 {rm : Room} {S : List Value} {H : AHeap} {Q : Option Value → AHeap → Prop} {l0 l1 l2 l3 l4 l5 l6 l7 l8 l9 l10 l11 l12 l13 l14 l15 : Slot} {x y : Int32} (hy : y ≠ 0) (h : W0 rm 119 [l0, l1, l2, l3, l4, l5, l6, l7, l8, l9, l10, l11, l12, l13, l14, l15] (.int (x % y) :: S) (H) Q) : W0 rm 118 [l0, l1, l2, l3, l4, l5, l6, l7, l8, l9, l10, l11, l12, l13, l14, l15] (.int y :: .int x :: S) H Q := W.irem at_118 hy h
theorem s0_119 {rm : Room} {S : List Value} {H : AHeap} {Q : Option Value → AHeap → Prop} {l0 l1 l2 l3 l4 l5 l6 l7 l8 l9 l10 l11 l12 l13 l14 l15 : Slot} {i : Nat} {j : Int32} {vs : List Value} {v : Value} (N : Nat) (hH : H[i]? = some (.inr (.int, vs))) (hj : ix j N) (hv : vs[N]? = some v) (h : W0 rm 120 [l0, l1, l2, l3, l4, l5, l6, l7, l8, l9, l10, l11, l12, l13, l14, l15] (v :: S) (H) Q) : W0 rm 119 [l0, l1, l2, l3, l4, l5, l6, l7, l8, l9, l10, l11, l12, l13, l14, l15] (.int j :: .ref i :: S) H Q := W.xaload (Or.inl ⟨rfl, rfl⟩) at_119 hH hj hv h
theorem s0_120 {rm : Room} {S : List Value} {H : AHeap} {Q : Option Value → AHeap → Prop} {l0 l1 l2 l3 l4 l5 l6 l7 l8 l9 l10 l11 l12 l13 l14 l15 : Slot}  (h : W0 rm 124 [l0, l1, l2, l3, l4, l5, l6, l7, l8, l9, l10, l11, l12, l13, l14, l15] (S) (H) Q) : W0 rm 120 [l0, l1, l2, l3, l4, l5, l6, l7, l8, l9, l10, l11, l12, l13, l14, l15] (S) H Q := W.goto at_120 (by decide) (by decide) h
theorem s0_123 {rm : Room} {S : List Value} {H : AHeap} {Q : Option Value → AHeap → Prop} {l0 l1 l2 l3 l4 l5 l6 l7 l8 l9 l10 l11 l12 l13 l14 l15 : Slot}  (h : W0 rm 124 [l0, l1, l2, l3, l4, l5, l6, l7, l8, l9, l10, l11, l12, l13, l14, l15] (.int 0 :: S) (H) Q) : W0 rm 123 [l0, l1, l2, l3, l4, l5, l6, l7, l8, l9, l10, l11, l12, l13, l14, l15] (S) H Q := W.iconst' at_123 (by decide) h
theorem s0_124 {rm : Room} {S : List Value} {H : AHeap} {Q : Option Value → AHeap → Prop} {l0 l1 l2 l3 l4 l5 l6 l7 l8 l9 l10 l11 l12 l13 l14 l15 : Slot} {x : Int32} (ho : one l9 = true) (h : W0 rm 126 [l0, l1, l2, l3, l4, l5, l6, l7, l8, .val (.int x), l10, l11, l12, l13, l14, l15] (S) (H) Q) : W0 rm 124 [l0, l1, l2, l3, l4, l5, l6, l7, l8, l9, l10, l11, l12, l13, l14, l15] (.int x :: S) H Q := W.istore at_124 rfl ho h
theorem s0_124w {rm : Room} {S : List Value} {H : AHeap} {Q : Option Value → AHeap → Prop} {l0 l1 l2 l3 l4 l5 l6 l7 l8 l10 l11 l12 l13 l14 l15 : Slot} {w : Value} {x : Int32} (ho : w.category = 2) (h : W0 rm 126 [l0, l1, l2, l3, l4, l5, l6, l7, l8, .val (.int x), .unset, l11, l12, l13, l14, l15] (S) (H) Q) : W0 rm 124 [l0, l1, l2, l3, l4, l5, l6, l7, l8, .val w, l10, l11, l12, l13, l14, l15] (.int x :: S) H Q := W.istoreW at_124 rfl ho (Nat.le_of_ble_eq_true rfl) h
theorem s0_124s {rm : Room} {S : List Value} {H : AHeap} {Q : Option Value → AHeap → Prop} {l0 l1 l2 l3 l4 l5 l6 l7 l8 l10 l11 l12 l13 l14 l15 : Slot} {x : Int32} (h : W0 rm 126 [l0, l1, l2, l3, l4, l5, l6, l7, .unset, .val (.int x), l10, l11, l12, l13, l14, l15] (S) (H) Q) : W0 rm 124 [l0, l1, l2, l3, l4, l5, l6, l7, l8, .second, l10, l11, l12, l13, l14, l15] (.int x :: S) H Q := W.istoreS at_124 rfl (by decide) h
theorem s0_126 {rm : Room} {S : List Value} {H : AHeap} {Q : Option Value → AHeap → Prop} {l0 l1 l2 l3 l4 l5 l6 l7 l8 l9 l10 l11 l12 l13 l14 l15 : Slot}  (h : W0 rm 127 [l0, l1, l2, l3, l4, l5, l6, l7, l8, l9, l10, l11, l12, l13, l14, l15] (.int 3 :: S) (H) Q) : W0 rm 126 [l0, l1, l2, l3, l4, l5, l6, l7, l8, l9, l10, l11, l12, l13, l14, l15] (S) H Q := W.iconst' at_126 (by decide) h
theorem s0_127 {rm : Room} {S : List Value} {H : AHeap} {Q : Option Value → AHeap → Prop} {l0 l1 l2 l3 l4 l5 l6 l7 l8 l9 l10 l11 l12 l13 l14 l15 : Slot} {n : Int32} (i N : Nat) (hn : ix n N) (hi : H.length = i) (hr : nok rm N = true) (h : W0 ⟨rm.frames, rm.cells - 1, rm.slots - N, rm.locals⟩ 129 [l0, l1, l2, l3, l4, l5, l6, l7, l8, l9, l10, l11, l12, l13, l14, l15] (.ref i :: S) (H ++ [.inr (.int, List.replicate N (.int 0))]) Q) : W0 rm 127 [l0, l1, l2, l3, l4, l5, l6, l7, l8, l9, l10, l11, l12, l13, l14, l15] (.int n :: S) H Q := W.newarray (ty := .int) (d := .int 0) at_127 rfl (List.mem_of_getElem? (i := 1) rfl) rfl hn hi hr h
theorem s0_129 {rm : Room} {S : List Value} {H : AHeap} {Q : Option Value → AHeap → Prop} {l0 l1 l2 l3 l4 l5 l6 l7 l8 l9 l10 l11 l12 l13 l14 l15 : Slot} {i : Nat} (ho : one l10 = true) (h : W0 rm 131 [l0, l1, l2, l3, l4, l5, l6, l7, l8, l9, .val (.ref i), l11, l12, l13, l14, l15] (S) (H) Q) : W0 rm 129 [l0, l1, l2, l3, l4, l5, l6, l7, l8, l9, l10, l11, l12, l13, l14, l15] (.ref i :: S) H Q := W.astore at_129 rfl ho rfl h
theorem s0_131 {rm : Room} {S : List Value} {H : AHeap} {Q : Option Value → AHeap → Prop} {l0 l1 l2 l3 l4 l5 l6 l7 l8 l9 l10 l11 l12 l13 l14 l15 : Slot}  (h : W0 rm 132 [l0, l1, l2, l3, l4, l5, l6, l7, l8, l9, l10, l11, l12, l13, l14, l15] (.int 0 :: S) (H) Q) : W0 rm 131 [l0, l1, l2, l3, l4, l5, l6, l7, l8, l9, l10, l11, l12, l13, l14, l15] (S) H Q := W.iconst' at_131 (by decide) h
theorem s0_132 {rm : Room} {S : List Value} {H : AHeap} {Q : Option Value → AHeap → Prop} {l0 l1 l2 l3 l4 l5 l6 l7 l8 l9 l10 l11 l12 l13 l14 l15 : Slot} {x : Int32} (ho : one l11 = true) (h : W0 rm 134 [l0, l1, l2, l3, l4, l5, l6, l7, l8, l9, l10, .val (.int x), l12, l13, l14, l15] (S) (H) Q) : W0 rm 132 [l0, l1, l2, l3, l4, l5, l6, l7, l8, l9, l10, l11, l12, l13, l14, l15] (.int x :: S) H Q := W.istore at_132 rfl ho h
theorem s0_132w {rm : Room} {S : List Value} {H : AHeap} {Q : Option Value → AHeap → Prop} {l0 l1 l2 l3 l4 l5 l6 l7 l8 l9 l10 l12 l13 l14 l15 : Slot} {w : Value} {x : Int32} (ho : w.category = 2) (h : W0 rm 134 [l0, l1, l2, l3, l4, l5, l6, l7, l8, l9, l10, .val (.int x), .unset, l13, l14, l15] (S) (H) Q) : W0 rm 132 [l0, l1, l2, l3, l4, l5, l6, l7, l8, l9, l10, .val w, l12, l13, l14, l15] (.int x :: S) H Q := W.istoreW at_132 rfl ho (Nat.le_of_ble_eq_true rfl) h
theorem s0_132s {rm : Room} {S : List Value} {H : AHeap} {Q : Option Value → AHeap → Prop} {l0 l1 l2 l3 l4 l5 l6 l7 l8 l9 l10 l12 l13 l14 l15 : Slot} {x : Int32} (h : W0 rm 134 [l0, l1, l2, l3, l4, l5, l6, l7, l8, l9, .unset, .val (.int x), l12, l13, l14, l15] (S) (H) Q) : W0 rm 132 [l0, l1, l2, l3, l4, l5, l6, l7, l8, l9, l10, .second, l12, l13, l14, l15] (.int x :: S) H Q := W.istoreS at_132 rfl (by decide) h
theorem s0_134 {rm : Room} {S : List Value} {H : AHeap} {Q : Option Value → AHeap → Prop} {l0 l1 l2 l3 l4 l6 l7 l8 l9 l10 l11 l12 l13 l14 l15 : Slot} {x : Int32} (h : W0 rm 136 [l0, l1, l2, l3, l4, .val (.int x), l6, l7, l8, l9, l10, l11, l12, l13, l14, l15] (.int x :: S) (H) Q) : W0 rm 134 [l0, l1, l2, l3, l4, .val (.int x), l6, l7, l8, l9, l10, l11, l12, l13, l14, l15] (S) H Q := W.iload at_134 rfl h
theorem s0_136 {rm : Room} {S : List Value} {H : AHeap} {Q : Option Value → AHeap → Prop} {l0 l1 l2 l3 l4 l5 l6 l7 l8 l9 l10 l11 l12 l13 l14 l15 : Slot}  (h : W0 rm 137 [l0, l1, l2, l3, l4, l5, l6, l7, l8, l9, l10, l11, l12, l13, l14, l15] (.int 1 :: S) (H) Q) : W0 rm 136 [l0, l1, l2, l3, l4, l5, l6, l7, l8, l9, l10, l11, l12, l13, l14, l15] (S) H Q := W.iconst' at_136 (by decide) h
theorem s0_137 {rm : Room} {S : List Value} {H : AHeap} {Q : Option Value → AHeap → Prop} {l0 l1 l2 l3 l4 l5 l6 l7 l8 l9 l10 l11 l12 l13 l14 l15 : Slot} {x y : Int32} (h1 : x = y → W0 rm 155 [l0, l1, l2, l3, l4, l5, l6, l7, l8, l9, l10, l11, l12, l13, l14, l15] S H Q) (h2 : ¬ x = y → W0 rm 140 [l0, l1, l2, l3, l4, l5, l6, l7, l8, l9, l10, l11, l12, l13, l14, l15] S H Q) : W0 rm 137 [l0, l1, l2, l3, l4, l5, l6, l7, l8, l9, l10, l11, l12, l13, l14, l15] (.int y :: .int x :: S) H Q := W.icmp at_137 (by decide) (by decide) h1 h2
theorem s0_140 {rm : Room} {S : List Value} {H : AHeap} {Q : Option Value → AHeap → Prop} {l0 l1 l2 l3 l4 l5 l6 l7 l8 l10 l11 l12 l13 l14 l15 : Slot} {x : Int32} (h : W0 rm 142 [l0, l1, l2, l3, l4, l5, l6, l7, l8, .val (.int x), l10, l11, l12, l13, l14, l15] (.int x :: S) (H) Q) : W0 rm 140 [l0, l1, l2, l3, l4, l5, l6, l7, l8, .val (.int x), l10, l11, l12, l13, l14, l15] (S) H Q := W.iload at_140 rfl h
theorem s0_142 {rm : Room} {S : List Value} {H : AHeap} {Q : Option Value → AHeap → Prop} {l0 l1 l2 l3 l4 l5 l6 l7 l8 l9 l10 l11 l12 l13 l14 l15 : Slot}  (h : W0 rm 143 [l0, l1, l2, l3, l4, l5, l6, l7, l8, l9, l10, l11, l12, l13, l14, l15] (.int 1 :: S) (H) Q) : W0 rm 142 [l0, l1, l2, l3, l4, l5, l6, l7, l8, l9, l10, l11, l12, l13, l14, l15] (S) H Q := W.iconst' at_142 (by decide) h
theorem s0_143 {rm : Room} {S : List Value} {H : AHeap} {Q : Option Value → AHeap → Prop} {l0 l1 l2 l3 l4 l5 l6 l7 l8 l9 l10 l11 l12 l13 l14 l15 : Slot} {x y : Int32} (h1 : x = y → W0 rm 155 [l0, l1, l2, l3, l4, l5, l6, l7, l8, l9, l10, l11, l12, l13, l14, l15] S H Q) (h2 : ¬ x = y → W0 rm 146 [l0, l1, l2, l3, l4, l5, l6, l7, l8, l9, l10, l11, l12, l13, l14, l15] S H Q) : W0 rm 143 [l0, l1, l2, l3, l4, l5, l6, l7, l8, l9, l10, l11, l12, l13, l14, l15] (.int y :: .int x :: S) H Q := W.icmp at_143 (by decide) (by decide) h1 h2
theorem s0_146 {rm : Room} {S : List Value} {H : AHeap} {Q : Option Value → AHeap → Prop} {l0 l1 l2 l3 l4 l5 l6 l7 l8 l9 l11 l12 l13 l14 l15 : Slot} {i : Nat} (h : W0 rm 148 [l0, l1, l2, l3, l4, l5, l6, l7, l8, l9, .val (.ref i), l11, l12, l13, l14, l15] (.ref i :: S) (H) Q) : W0 rm 146 [l0, l1, l2, l3, l4, l5, l6, l7, l8, l9, .val (.ref i), l11, l12, l13, l14, l15] (S) H Q := W.aload at_146 rfl rfl h
theorem s0_146n {rm : Room} {S : List Value} {H : AHeap} {Q : Option Value → AHeap → Prop} {l0 l1 l2 l3 l4 l5 l6 l7 l8 l9 l11 l12 l13 l14 l15 : Slot}  (h : W0 rm 148 [l0, l1, l2, l3, l4, l5, l6, l7, l8, l9, .val .null, l11, l12, l13, l14, l15] (.null :: S) (H) Q) : W0 rm 146 [l0, l1, l2, l3, l4, l5, l6, l7, l8, l9, .val .null, l11, l12, l13, l14, l15] (S) H Q := W.aload at_146 rfl rfl h
theorem s0_148 {rm : Room} {S : List Value} {H : AHeap} {Q : Option Value → AHeap → Prop} {l0 l1 l2 l3 l4 l5 l6 l7 l8 l9 l10 l12 l13 l14 l15 : Slot} {x : Int32} (h : W0 rm 150 [l0, l1, l2, l3, l4, l5, l6, l7, l8, l9, l10, .val (.int x), l12, l13, l14, l15] (.int x :: S) (H) Q) : W0 rm 148 [l0, l1, l2, l3, l4, l5, l6, l7, l8, l9, l10, .val (.int x), l12, l13, l14, l15] (S) H Q := W.iload at_148 rfl h
theorem s0_150 {rm : Room} {S : List Value} {H : AHeap} {Q : Option Value → AHeap → Prop} {l0 l1 l2 l3 l4 l5 l6 l7 l8 l9 l10 l11 l12 l13 l14 l15 : Slot}  (h : W0 rm 151 [l0, l1, l2, l3, l4, l5, l6, l7, l8, l9, l10, l11, l12, l13, l14, l15] (.int 1 :: S) (H) Q) : W0 rm 150 [l0, l1, l2, l3, l4, l5, l6, l7, l8, l9, l10, l11, l12, l13, l14, l15] (S) H Q := W.iconst' at_150 (by decide) h
theorem s0_151 {rm : Room} {S : List Value} {H : AHeap} {Q : Option Value → AHeap → Prop} {l0 l1 l2 l3 l4 l5 l6 l7 l8 l9 l10 l11 l12 l13 l14 l15 : Slot} {i : Nat} {j : Int32} {x : Int32} {vs : List Value} (N : Nat) (hH : H[i]? = some (.inr (.int, vs))) (hj : ix j N) (hl : Nat.blt N vs.length = true) (h : W0 rm 152 [l0, l1, l2, l3, l4, l5, l6, l7, l8, l9, l10, l11, l12, l13, l14, l15] (S) (H.set i (.inr (.int, vs.set N (.int x)))) Q) : W0 rm 151 [l0, l1, l2, l3, l4, l5, l6, l7, l8, l9, l10, l11, l12, l13, l14, l15] (.int x :: .int j :: .ref i :: S) H Q := W.iastore at_151 hH hj hl h
theorem s0_152 {rm : Room} {S : List Value} {H : AHeap} {Q : Option Value → AHeap → Prop} {l0 l1 l2 l3 l4 l5 l6 l7 l8 l9 l10 l12 l13 l14 l15 : Slot} {x : Int32} (h : W0 rm 155 [l0, l1, l2, l3, l4, l5, l6, l7, l8, l9, l10, .val (.int (x + 1)), l12, l13, l14, l15] (S) (H) Q) : W0 rm 152 [l0, l1, l2, l3, l4, l5, l6, l7, l8, l9, l10, .val (.int x), l12, l13, l14, l15] (S) H Q := W.iinc at_152 (by decide) rfl h
theorem s0_155 {rm : Room} {S : List Value} {H : AHeap} {Q : Option Value → AHeap → Prop} {l0 l1 l2 l3 l5 l6 l7 l8 l9 l10 l11 l12 l13 l14 l15 : Slot} {x : Int32} (h : W0 rm 157 [l0, l1, l2, l3, .val (.int x), l5, l6, l7, l8, l9, l10, l11, l12, l13, l14, l15] (.int x :: S) (H) Q) : W0 rm 155 [l0, l1, l2, l3, .val (.int x), l5, l6, l7, l8, l9, l10, l11, l12, l13, l14, l15] (S) H Q := W.iload at_155 rfl h
theorem s0_157 {rm : Room} {S : List Value} {H : AHeap} {Q : Option Value → AHeap → Prop} {l0 l1 l2 l3 l4 l5 l6 l7 l8 l9 l10 l11 l12 l13 l14 l15 : Slot}  (h : W0 rm 158 [l0, l1, l2, l3, l4, l5, l6, l7, l8, l9, l10, l11, l12, l13, l14, l15] (.int 2 :: S) (H) Q) : W0 rm 157 [l0, l1, l2, l3, l4, l5, l6, l7, l8, l9, l10, l11, l12, l13, l14, l15] (S) H Q := W.iconst' at_157 (by decide) h
theorem s0_158 {rm : Room} {S : List Value} {H : AHeap} {Q : Option Value → AHeap → Prop} {l0 l1 l2 l3 l4 l5 l6 l7 l8 l9 l10 l11 l12 l13 l14 l15 : Slot} {x y : Int32} (h1 : x < y → W0 rm 182 [l0, l1, l2, l3, l4, l5, l6, l7, l8, l9, l10, l11, l12, l13, l14, l15] S H Q) (h2 : ¬ x < y → W0 rm 161 [l0, l1, l2, l3, l4, l5, l6, l7, l8, l9, l10, l11, l12, l13, l14, l15] S H Q) : W0 rm 158 [l0, l1, l2, l3, l4, l5, l6, l7, l8, l9, l10, l11, l12, l13, l14, l15] (.int y :: .int x :: S) H Q := W.icmp at_158 (by decide) (by decide) h1 h2
theorem s0_161 {rm : Room} {S : List Value} {H : AHeap} {Q : Option Value → AHeap → Prop} {l0 l1 l2 l3 l4 l6 l7 l8 l9 l10 l11 l12 l13 l14 l15 : Slot} {x : Int32} (h : W0 rm 163 [l0, l1, l2, l3, l4, .val (.int x), l6, l7, l8, l9, l10, l11, l12, l13, l14, l15] (.int x :: S) (H) Q) : W0 rm 161 [l0, l1, l2, l3, l4, .val (.int x), l6, l7, l8, l9, l10, l11, l12, l13, l14, l15] (S) H Q := W.iload at_161 rfl h
theorem s0_163 {rm : Room} {S : List Value} {H : AHeap} {Q : Option Value → AHeap → Prop} {l0 l1 l2 l3 l4 l5 l6 l7 l8 l9 l10 l11 l12 l13 l14 l15 : Slot}  (h : W0 rm 164 [l0, l1, l2, l3, l4, l5, l6, l7, l8, l9, l10, l11, l12, l13, l14, l15] (.int 2 :: S) (H) Q) : W0 rm 163 [l0, l1, l2, l3, l4, l5, l6, l7, l8, l9, l10, l11, l12, l13, l14, l15] (S) H Q := W.iconst' at_163 (by decide) h
theorem s0_164 {rm : Room} {S : List Value} {H : AHeap} {Q : Option Value → AHeap → Prop} {l0 l1 l2 l3 l4 l5 l6 l7 l8 l9 l10 l11 l12 l13 l14 l15 : Slot} {x y : Int32} (h1 : x = y → W0 rm 182 [l0, l1, l2, l3, l4, l5, l6, l7, l8, l9, l10, l11, l12, l13, l14, l15] S H Q) (h2 : ¬ x = y → W0 rm 167 [l0, l1, l2, l3, l4, l5, l6, l7, l8, l9, l10, l11, l12, l13, l14, l15] S H Q) : W0 rm 164 [l0, l1, l2, l3, l4, l5, l6, l7, l8, l9, l10, l11, l12, l13, l14, l15] (.int y :: .int x :: S) H Q := W.icmp at_164 (by decide) (by decide) h1 h2
theorem s0_167 {rm : Room} {S : List Value} {H : AHeap} {Q : Option Value → AHeap → Prop} {l0 l1 l2 l3 l4 l5 l6 l7 l8 l10 l11 l12 l13 l14 l15 : Slot} {x : Int32} (h : W0 rm 169 [l0, l1, l2, l3, l4, l5, l6, l7, l8, .val (.int x), l10, l11, l12, l13, l14, l15] (.int x :: S) (H) Q) : W0 rm 167 [l0, l1, l2, l3, l4, l5, l6, l7, l8, .val (.int x), l10, l11, l12, l13, l14, l15] (S) H Q := W.iload at_167 rfl h
theorem s0_169 {rm : Room} {S : List Value} {H : AHeap} {Q : Option Value → AHeap → Prop} {l0 l1 l2 l3 l4 l5 l6 l7 l8 l9 l10 l11 l12 l13 l14 l15 : Slot}  (h : W0 rm 170 [l0, l1, l2, l3, l4, l5, l6, l7, l8, l9, l10, l11, l12, l13, l14, l15] (.int 2 :: S) (H) Q) : W0 rm 169 [l0, l1, l2, l3, l4, l5, l6, l7, l8, l9, l10, l11, l12, l13, l14, l15] (S) H Q := W.iconst' at_169 (by decide) h
theorem s0_170 {rm : Room} {S : List Value} {H : AHeap} {Q : Option Value → AHeap → Prop} {l0 l1 l2 l3 l4 l5 l6 l7 l8 l9 l10 l11 l12 l13 l14 l15 : Slot} {x y : Int32} (h1 : x = y → W0 rm 182 [l0, l1, l2, l3, l4, l5, l6, l7, l8, l9, l10, l11, l12, l13, l14, l15] S H Q) (h2 : ¬ x = y → W0 rm 173 [l0, l1, l2, l3, l4, l5, l6, l7, l8, l9, l10, l11, l12, l13, l14, l15] S H Q) : W0 rm 170 [l0, l1, l2, l3, l4, l5, l6, l7, l8, l9, l10, l11, l12, l13, l14, l15] (.int y :: .int x :: S) H Q := W.icmp at_170 (by decide) (by decide) h1 h2
theorem s0_173 {rm : Room} {S : List Value} {H : AHeap} {Q : Option Value → AHeap → Prop} {l0 l1 l2 l3 l4 l5 l6 l7 l8 l9 l11 l12 l13 l14 l15 : Slot} {i : Nat} (h : W0 rm 175 [l0, l1, l2, l3, l4, l5, l6, l7, l8, l9, .val (.ref i), l11, l12, l13, l14, l15] (.ref i :: S) (H) Q) : W0 rm 173 [l0, l1, l2, l3, l4, l5, l6, l7, l8, l9, .val (.ref i), l11, l12, l13, l14, l15] (S) H Q := W.aload at_173 rfl rfl h
theorem s0_173n {rm : Room} {S : List Value} {H : AHeap} {Q : Option Value → AHeap → Prop} {l0 l1 l2 l3 l4 l5 l6 l7 l8 l9 l11 l12 l13 l14 l15 : Slot}  (h : W0 rm 175 [l0, l1, l2, l3, l4, l5, l6, l7, l8, l9, .val .null, l11, l12, l13, l14, l15] (.null :: S) (H) Q) : W0 rm 173 [l0, l1, l2, l3, l4, l5, l6, l7, l8, l9, .val .null, l11, l12, l13, l14, l15] (S) H Q := W.aload at_173 rfl rfl h
theorem s0_175 {rm : Room} {S : List Value} {H : AHeap} {Q : Option Value → AHeap → Prop} {l0 l1 l2 l3 l4 l5 l6 l7 l8 l9 l10 l12 l13 l14 l15 : Slot} {x : Int32} (h : W0 rm 177 [l0, l1, l2, l3, l4, l5, l6, l7, l8, l9, l10, .val (.int x), l12, l13, l14, l15] (.int x :: S) (H) Q) : W0 rm 175 [l0, l1, l2, l3, l4, l5, l6, l7, l8, l9, l10, .val (.int x), l12, l13, l14, l15] (S) H Q := W.iload at_175 rfl h
theorem s0_177 {rm : Room} {S : List Value} {H : AHeap} {Q : Option Value → AHeap → Prop} {l0 l1 l2 l3 l4 l5 l6 l7 l8 l9 l10 l11 l12 l13 l14 l15 : Slot}  (h : W0 rm 178 [l0, l1, l2, l3, l4, l5, l6, l7, l8, l9, l10, l11, l12, l13, l14, l15] (.int 2 :: S) (H) Q) : W0 rm 177 [l0, l1, l2, l3, l4, l5, l6, l7, l8, l9, l10, l11, l12, l13, l14, l15] (S) H Q := W.iconst' at_177 (by decide) h
theorem s0_178 {rm : Room} {S : List Value} {H : AHeap} {Q : Option Value → AHeap → Prop} {l0 l1 l2 l3 l4 l5 l6 l7 l8 l9 l10 l11 l12 l13 l14 l15 : Slot} {i : Nat} {j : Int32} {x : Int32} {vs : List Value} (N : Nat) (hH : H[i]? = some (.inr (.int, vs))) (hj : ix j N) (hl : Nat.blt N vs.length = true) (h : W0 rm 179 [l0, l1, l2, l3, l4, l5, l6, l7, l8, l9, l10, l11, l12, l13, l14, l15] (S) (H.set i (.inr (.int, vs.set N (.int x)))) Q) : W0 rm 178 [l0, l1, l2, l3, l4, l5, l6, l7, l8, l9, l10, l11, l12, l13, l14, l15] (.int x :: .int j :: .ref i :: S) H Q := W.iastore at_178 hH hj hl h
theorem s0_179 {rm : Room} {S : List Value} {H : AHeap} {Q : Option Value → AHeap → Prop} {l0 l1 l2 l3 l4 l5 l6 l7 l8 l9 l10 l12 l13 l14 l15 : Slot} {x : Int32} (h : W0 rm 182 [l0, l1, l2, l3, l4, l5, l6, l7, l8, l9, l10, .val (.int (x + 1)), l12, l13, l14, l15] (S) (H) Q) : W0 rm 179 [l0, l1, l2, l3, l4, l5, l6, l7, l8, l9, l10, .val (.int x), l12, l13, l14, l15] (S) H Q := W.iinc at_179 (by decide) rfl h
theorem s0_182 {rm : Room} {S : List Value} {H : AHeap} {Q : Option Value → AHeap → Prop} {l0 l1 l2 l3 l5 l6 l7 l8 l9 l10 l11 l12 l13 l14 l15 : Slot} {x : Int32} (h : W0 rm 184 [l0, l1, l2, l3, .val (.int x), l5, l6, l7, l8, l9, l10, l11, l12, l13, l14, l15] (.int x :: S) (H) Q) : W0 rm 182 [l0, l1, l2, l3, .val (.int x), l5, l6, l7, l8, l9, l10, l11, l12, l13, l14, l15] (S) H Q := W.iload at_182 rfl h
theorem s0_184 {rm : Room} {S : List Value} {H : AHeap} {Q : Option Value → AHeap → Prop} {l0 l1 l2 l3 l4 l5 l6 l7 l8 l9 l10 l11 l12 l13 l14 l15 : Slot}  (h : W0 rm 185 [l0, l1, l2, l3, l4, l5, l6, l7, l8, l9, l10, l11, l12, l13, l14, l15] (.int 3 :: S) (H) Q) : W0 rm 184 [l0, l1, l2, l3, l4, l5, l6, l7, l8, l9, l10, l11, l12, l13, l14, l15] (S) H Q := W.iconst' at_184 (by decide) h
theorem s0_185 {rm : Room} {S : List Value} {H : AHeap} {Q : Option Value → AHeap → Prop} {l0 l1 l2 l3 l4 l5 l6 l7 l8 l9 l10 l11 l12 l13 l14 l15 : Slot} {x y : Int32} (h1 : x < y → W0 rm 209 [l0, l1, l2, l3, l4, l5, l6, l7, l8, l9, l10, l11, l12, l13, l14, l15] S H Q) (h2 : ¬ x < y → W0 rm 188 [l0, l1, l2, l3, l4, l5, l6, l7, l8, l9, l10, l11, l12, l13, l14, l15] S H Q) : W0 rm 185 [l0, l1, l2, l3, l4, l5, l6, l7, l8, l9, l10, l11, l12, l13, l14, l15] (.int y :: .int x :: S) H Q := W.icmp at_185 (by decide) (by decide) h1 h2
theorem s0_188 {rm : Room} {S : List Value} {H : AHeap} {Q : Option Value → AHeap → Prop} {l0 l1 l2 l3 l4 l6 l7 l8 l9 l10 l11 l12 l13 l14 l15 : Slot} {x : Int32} (h : W0 rm 190 [l0, l1, l2, l3, l4, .val (.int x), l6, l7, l8, l9, l10, l11, l12, l13, l14, l15] (.int x :: S) (H) Q) : W0 rm 188 [l0, l1, l2, l3, l4, .val (.int x), l6, l7, l8, l9, l10, l11, l12, l13, l14, l15] (S) H Q := W.iload at_188 rfl h
theorem s0_190 {rm : Room} {S : List Value} {H : AHeap} {Q : Option Value → AHeap → Prop} {l0 l1 l2 l3 l4 l5 l6 l7 l8 l9 l10 l11 l12 l13 l14 l15 : Slot}  (h : W0 rm 191 [l0, l1, l2, l3, l4, l5, l6, l7, l8, l9, l10, l11, l12, l13, l14, l15] (.int 3 :: S) (H) Q) : W0 rm 190 [l0, l1, l2, l3, l4, l5, l6, l7, l8, l9, l10, l11, l12, l13, l14, l15] (S) H Q := W.iconst' at_190 (by decide) h
theorem s0_191 {rm : Room} {S : List Value} {H : AHeap} {Q : Option Value → AHeap → Prop} {l0 l1 l2 l3 l4 l5 l6 l7 l8 l9 l10 l11 l12 l13 l14 l15 : Slot} {x y : Int32} (h1 : x = y → W0 rm 209 [l0, l1, l2, l3, l4, l5, l6, l7, l8, l9, l10, l11, l12, l13, l14, l15] S H Q) (h2 : ¬ x = y → W0 rm 194 [l0, l1, l2, l3, l4, l5, l6, l7, l8, l9, l10, l11, l12, l13, l14, l15] S H Q) : W0 rm 191 [l0, l1, l2, l3, l4, l5, l6, l7, l8, l9, l10, l11, l12, l13, l14, l15] (.int y :: .int x :: S) H Q := W.icmp at_191 (by decide) (by decide) h1 h2
theorem s0_194 {rm : Room} {S : List Value} {H : AHeap} {Q : Option Value → AHeap → Prop} {l0 l1 l2 l3 l4 l5 l6 l7 l8 l10 l11 l12 l13 l14 l15 : Slot} {x : Int32} (h : W0 rm 196 [l0, l1, l2, l3, l4, l5, l6, l7, l8, .val (.int x), l10, l11, l12, l13, l14, l15] (.int x :: S) (H) Q) : W0 rm 194 [l0, l1, l2, l3, l4, l5, l6, l7, l8, .val (.int x), l10, l11, l12, l13, l14, l15] (S) H Q := W.iload at_194 rfl h
theorem s0_196 {rm : Room} {S : List Value} {H : AHeap} {Q : Option Value → AHeap → Prop} {l0 l1 l2 l3 l4 l5 l6 l7 l8 l9 l10 l11 l12 l13 l14 l15 : Slot}  (h : W0 rm 197 [l0, l1, l2, l3, l4, l5, l6, l7, l8, l9, l10, l11, l12, l13, l14, l15] (.int 3 :: S) (H) Q) : W0 rm 196 [l0, l1, l2, l3, l4, l5, l6, l7, l8, l9, l10, l11, l12, l13, l14, l15] (S) H Q := W.iconst' at_196 (by decide) h
theorem s0_197 {rm : Room} {S : List Value} {H : AHeap} {Q : Option Value → AHeap → Prop} {l0 l1 l2 l3 l4 l5 l6 l7 l8 l9 l10 l11 l12 l13 l14 l15 : Slot} {x y : Int32} (h1 : x = y → W0 rm 209 [l0, l1, l2, l3, l4, l5, l6, l7, l8, l9, l10, l11, l12, l13, l14, l15] S H Q) (h2 : ¬ x = y → W0 rm 200 [l0, l1, l2, l3, l4, l5, l6, l7, l8, l9, l10, l11, l12, l13, l14, l15] S H Q) : W0 rm 197 [l0, l1, l2, l3, l4, l5, l6, l7, l8, l9, l10, l11, l12, l13, l14, l15] (.int y :: .int x :: S) H Q := W.icmp at_197 (by decide) (by decide) h1 h2
theorem s0_200 {rm : Room} {S : List Value} {H : AHeap} {Q : Option Value → AHeap → Prop} {l0 l1 l2 l3 l4 l5 l6 l7 l8 l9 l11 l12 l13 l14 l15 : Slot} {i : Nat} (h : W0 rm 202 [l0, l1, l2, l3, l4, l5, l6, l7, l8, l9, .val (.ref i), l11, l12, l13, l14, l15] (.ref i :: S) (H) Q) : W0 rm 200 [l0, l1, l2, l3, l4, l5, l6, l7, l8, l9, .val (.ref i), l11, l12, l13, l14, l15] (S) H Q := W.aload at_200 rfl rfl h
theorem s0_200n {rm : Room} {S : List Value} {H : AHeap} {Q : Option Value → AHeap → Prop} {l0 l1 l2 l3 l4 l5 l6 l7 l8 l9 l11 l12 l13 l14 l15 : Slot}  (h : W0 rm 202 [l0, l1, l2, l3, l4, l5, l6, l7, l8, l9, .val .null, l11, l12, l13, l14, l15] (.null :: S) (H) Q) : W0 rm 200 [l0, l1, l2, l3, l4, l5, l6, l7, l8, l9, .val .null, l11, l12, l13, l14, l15] (S) H Q := W.aload at_200 rfl rfl h
theorem s0_202 {rm : Room} {S : List Value} {H : AHeap} {Q : Option Value → AHeap → Prop} {l0 l1 l2 l3 l4 l5 l6 l7 l8 l9 l10 l12 l13 l14 l15 : Slot} {x : Int32} (h : W0 rm 204 [l0, l1, l2, l3, l4, l5, l6, l7, l8, l9, l10, .val (.int x), l12, l13, l14, l15] (.int x :: S) (H) Q) : W0 rm 202 [l0, l1, l2, l3, l4, l5, l6, l7, l8, l9, l10, .val (.int x), l12, l13, l14, l15] (S) H Q := W.iload at_202 rfl h
theorem s0_204 {rm : Room} {S : List Value} {H : AHeap} {Q : Option Value → AHeap → Prop} {l0 l1 l2 l3 l4 l5 l6 l7 l8 l9 l10 l11 l12 l13 l14 l15 : Slot}  (h : W0 rm 205 [l0, l1, l2, l3, l4, l5, l6, l7, l8, l9, l10, l11, l12, l13, l14, l15] (.int 3 :: S) (H) Q) : W0 rm 204 [l0, l1, l2, l3, l4, l5, l6, l7, l8, l9, l10, l11, l12, l13, l14, l15] (S) H Q := W.iconst' at_204 (by decide) h
theorem s0_205 {rm : Room} {S : List Value} {H : AHeap} {Q : Option Value → AHeap → Prop} {l0 l1 l2 l3 l4 l5 l6 l7 l8 l9 l10 l11 l12 l13 l14 l15 : Slot} {i : Nat} {j : Int32} {x : Int32} {vs : List Value} (N : Nat) (hH : H[i]? = some (.inr (.int, vs))) (hj : ix j N) (hl : Nat.blt N vs.length = true) (h : W0 rm 206 [l0, l1, l2, l3, l4, l5, l6, l7, l8, l9, l10, l11, l12, l13, l14, l15] (S) (H.set i (.inr (.int, vs.set N (.int x)))) Q) : W0 rm 205 [l0, l1, l2, l3, l4, l5, l6, l7, l8, l9, l10, l11, l12, l13, l14, l15] (.int x :: .int j :: .ref i :: S) H Q := W.iastore at_205 hH hj hl h
theorem s0_206 {rm : Room} {S : List Value} {H : AHeap} {Q : Option Value → AHeap → Prop} {l0 l1 l2 l3 l4 l5 l6 l7 l8 l9 l10 l12 l13 l14 l15 : Slot} {x : Int32} (h : W0 rm 209 [l0, l1, l2, l3, l4, l5, l6, l7, l8, l9, l10, .val (.int (x + 1)), l12, l13, l14, l15] (S) (H) Q) : W0 rm 206 [l0, l1, l2, l3, l4, l5, l6, l7, l8, l9, l10, .val (.int x), l12, l13, l14, l15] (S) H Q := W.iinc at_206 (by decide) rfl h
theorem s0_209 {rm : Room} {S : List Value} {H : AHeap} {Q : Option Value → AHeap → Prop} {l0 l1 l2 l3 l4 l5 l6 l7 l8 l9 l11 l12 l13 l14 l15 : Slot} {i : Nat} (h : W0 rm 211 [l0, l1, l2, l3, l4, l5, l6, l7, l8, l9, .val (.ref i), l11, l12, l13, l14, l15] (.ref i :: S) (H) Q) : W0 rm 209 [l0, l1, l2, l3, l4, l5, l6, l7, l8, l9, .val (.ref i), l11, l12, l13, l14, l15] (S) H Q := W.aload at_209 rfl rfl h
theorem s0_209n {rm : Room} {S : List Value} {H : AHeap} {Q : Option Value → AHeap → Prop} {l0 l1 l2 l3 l4 l5 l6 l7 l8 l9 l11 l12 l13 l14 l15 : Slot}  (h : W0 rm 211 [l0, l1, l2, l3, l4, l5, l6, l7, l8, l9, .val .null, l11, l12, l13, l14, l15] (.null :: S) (H) Q) : W0 rm 209 [l0, l1, l2, l3, l4, l5, l6, l7, l8, l9, .val .null, l11, l12, l13, l14, l15] (S) H Q := W.aload at_209 rfl rfl h
theorem s0_211 {rm : Room} {S : List Value} {H : AHeap} {Q : Option Value → AHeap → Prop} {l0 l1 l2 l3 l4 l5 l6 l7 l8 l9 l10 l12 l13 l14 l15 : Slot} {x : Int32} (h : W0 rm 213 [l0, l1, l2, l3, l4, l5, l6, l7, l8, l9, l10, .val (.int x), l12, l13, l14, l15] (.int x :: S) (H) Q) : W0 rm 211 [l0, l1, l2, l3, l4, l5, l6, l7, l8, l9, l10, .val (.int x), l12, l13, l14, l15] (S) H Q := W.iload at_211 rfl h
theorem s0_213 {rm : Room} {S : List Value} {H : AHeap} {Q : Option Value → AHeap → Prop} {l0 l1 l2 l3 l4 l6 l7 l8 l9 l10 l11 l12 l13 l14 l15 : Slot} {x : Int32} (h : W0 rm 215 [l0, l1, l2, l3, l4, .val (.int x), l6, l7, l8, l9, l10, l11, l12, l13, l14, l15] (.int x :: S) (H) Q) : W0 rm 213 [l0, l1, l2, l3, l4, .val (.int x), l6, l7, l8, l9, l10, l11, l12, l13, l14, l15] (S) H Q := W.iload at_213 rfl h
theorem s0_215 {rm : Room} {S : List Value} {H : AHeap} {Q : Option Value → AHeap → Prop} {l0 l1 l2 l3 l4 l5 l6 l7 l8 l9 l10 l11 l12 l13 l14 l15 : Slot} {i : Nat} {j : Int32} {x : Int32} {vs : List Value} (N : Nat) (hH : H[i]? = some (.inr (.int, vs))) (hj : ix j N) (hl : Nat.blt N vs.length = true) (h : W0 rm 216 [l0, l1, l2, l3, l4, l5, l6, l7, l8, l9, l10, l11, l12, l13, l14, l15] (S) (H.set i (.inr (.int, vs.set N (.int x)))) Q) : W0 rm 215 [l0, l1, l2, l3, l4, l5, l6, l7, l8, l9, l10, l11, l12, l13, l14, l15] (.int x :: .int j :: .ref i :: S) H Q := W.iastore at_215 hH hj hl h
theorem s0_216 {rm : Room} {S : List Value} {H : AHeap} {Q : Option Value → AHeap → Prop} {l0 l1 l2 l3 l4 l5 l6 l7 l8 l9 l10 l12 l13 l14 l15 : Slot} {x : Int32} (h : W0 rm 219 [l0, l1, l2, l3, l4, l5, l6, l7, l8, l9, l10, .val (.int (x + 1)), l12, l13, l14, l15] (S) (H) Q) : W0 rm 216 [l0, l1, l2, l3, l4, l5, l6, l7, l8, l9, l10, .val (.int x), l12, l13, l14, l15] (S) H Q := W.iinc at_216 (by decide) rfl h
theorem s0_219 {rm : Room} {S : List Value} {H : AHeap} {Q : Option Value → AHeap → Prop} {l0 l1 l2 l3 l4 l5 l6 l7 l8 l9 l10 l11 l12 l13 l14 l15 : Slot} (i : Nat) (hi : H.length = i) (hr : nok rm 5 = true) (h : W0 ⟨rm.frames, rm.cells - 1, rm.slots - 5, rm.locals⟩ 222 [l0, l1, l2, l3, l4, l5, l6, l7, l8, l9, l10, l11, l12, l13, l14, l15] (.ref i :: S) (H ++ [.inl (0, [.null, .null, .null, .null, .null])]) Q) : W0 rm 219 [l0, l1, l2, l3, l4, l5, l6, l7, l8, l9, l10, l11, l12, l13, l14, l15] (S) H Q := W.new (c := 0) kt at_219 (List.mem_of_getElem? (i := 2) rfl) (List.mem_of_getElem? (i := 4) rfl) rfl hi hr h
theorem s0_222 {rm : Room} {S : List Value} {H : AHeap} {Q : Option Value → AHeap → Prop} {l0 l1 l2 l3 l4 l5 l6 l7 l8 l9 l10 l11 l12 l13 l14 l15 : Slot} {v : Value} (hc : v.category = 1) (h : W0 rm 223 [l0, l1, l2, l3, l4, l5, l6, l7, l8, l9, l10, l11, l12, l13, l14, l15] (v :: v :: S) (H) Q) : W0 rm 222 [l0, l1, l2, l3, l4, l5, l6, l7, l8, l9, l10, l11, l12, l13, l14, l15] (v :: S) H Q := W.dup at_222 hc h
theorem s0_223 {rm : Room} {S : List Value} {H : AHeap} {Q : Option Value → AHeap → Prop} {l0 l1 l2 l3 l4 l5 l6 l7 l8 l9 l10 l11 l12 l13 l14 l15 : Slot}  (h : W0 rm 224 [l0, l1, l2, l3, l4, l5, l6, l7, l8, l9, l10, l11, l12, l13, l14, l15] (.int 4 :: S) (H) Q) : W0 rm 223 [l0, l1, l2, l3, l4, l5, l6, l7, l8, l9, l10, l11, l12, l13, l14, l15] (S) H Q := W.iconst' at_223 (by decide) h
theorem s0_224 {rm : Room} {S : List Value} {H : AHeap} {Q : Option Value → AHeap → Prop} {l0 l1 l2 l3 l4 l5 l6 l7 l8 l9 l10 l11 l12 l13 l14 l15 : Slot} {rm' : Room} {H' : AHeap} {i : Nat} {a0 : Int32}  (hM : M1 rm' [.ref i, .int a0] H (Is none H')) (hr : rok rm rm' 2 S = true) (h : W0 (less rm rm') 227 [l0, l1, l2, l3, l4, l5, l6, l7, l8, l9, l10, l11, l12, l13, l14, l15] (S) H' Q) : W0 rm 224 [l0, l1, l2, l3, l4, l5, l6, l7, l8, l9, l10, l11, l12, l13, l14, l15] (.int a0 :: .ref i :: S) H Q := W.callI (S := S) (as := [.int a0]) (rm' := rm') at_224 rfl rfl (List.mem_of_getElem? (i := 5) rfl) (List.mem_of_getElem? (i := 6) rfl) (List.mem_of_getElem? (i := 4) rfl) (List.mem_of_getElem? (i := 7) rfl) (by decide) pd1 rfl rfl hM hr (fun _ _ q => by obtain ⟨rfl, rfl⟩ := q; exact h)
theorem s0_224q {rm : Room} {S : List Value} {H : AHeap} {Q : Option Value → AHeap → Prop} {l0 l1 l2 l3 l4 l5 l6 l7 l8 l9 l10 l11 l12 l13 l14 l15 : Slot} {rm' : Room} {Q' : Option Value → AHeap → Prop} {i : Nat} {a0 : Value} (hM : M1 rm' [.ref i, a0] H Q') (hr : rok rm rm' 2 S = true) (h : ∀ v H', Q' v H' → W0 (less rm rm') 227 [l0, l1, l2, l3, l4, l5, l6, l7, l8, l9, l10, l11, l12, l13, l14, l15] (v.toList ++ S) H' Q) : W0 rm 224 [l0, l1, l2, l3, l4, l5, l6, l7, l8, l9, l10, l11, l12, l13, l14, l15] (a0 :: .ref i :: S) H Q := W.callI (S := S) (as := [a0]) (rm' := rm') at_224 rfl rfl (List.mem_of_getElem? (i := 5) rfl) (List.mem_of_getElem? (i := 6) rfl) (List.mem_of_getElem? (i := 4) rfl) (List.mem_of_getElem? (i := 7) rfl) (by decide) pd1 rfl rfl hM hr h
theorem s0_227 {rm : Room} {S : List Value} {H : AHeap} {Q : Option Value → AHeap → Prop} {l0 l1 l2 l3 l4 l5 l6 l7 l8 l9 l10 l11 l12 l13 l14 l15 : Slot} {i : Nat} (ho : one l12 = true) (h : W0 rm 229 [l0, l1, l2, l3, l4, l5, l6, l7, l8, l9, l10, l11, .val (.ref i), l13, l14, l15] (S) (H) Q) : W0 rm 227 [l0, l1, l2, l3, l4, l5, l6, l7, l8, l9, l10, l11, l12, l13, l14, l15] (.ref i :: S) H Q := W.astore at_227 rfl ho rfl h
theorem s0_229 {rm : Room} {S : List Value} {H : AHeap} {Q : Option Value → AHeap → Prop} {l0 l1 l2 l3 l4 l5 l6 l7 l8 l9 l10 l11 l13 l14 l15 : Slot} {i : Nat} (h : W0 rm 231 [l0, l1, l2, l3, l4, l5, l6, l7, l8, l9, l10, l11, .val (.ref i), l13, l14, l15] (.ref i :: S) (H) Q) : W0 rm 229 [l0, l1, l2, l3, l4, l5, l6, l7, l8, l9, l10, l11, .val (.ref i), l13, l14, l15] (S) H Q := W.aload at_229 rfl rfl h
theorem s0_229n {rm : Room} {S : List Value} {H : AHeap} {Q : Option Value → AHeap → Prop} {l0 l1 l2 l3 l4 l5 l6 l7 l8 l9 l10 l11 l13 l14 l15 : Slot}  (h : W0 rm 231 [l0, l1, l2, l3, l4, l5, l6, l7, l8, l9, l10, l11, .val .null, l13, l14, l15] (.null :: S) (H) Q) : W0 rm 229 [l0, l1, l2, l3, l4, l5, l6, l7, l8, l9, l10, l11, .val .null, l13, l14, l15] (S) H Q := W.aload at_229 rfl rfl h
theorem s0_231 {rm : Room} {S : List Value} {H : AHeap} {Q : Option Value → AHeap → Prop} {l0 l1 l2 l3 l4 l5 l6 l7 l8 l9 l10 l11 l12 l13 l14 l15 : Slot}  (h : W0 rm 232 [l0, l1, l2, l3, l4, l5, l6, l7, l8, l9, l10, l11, l12, l13, l14, l15] (.int 1 :: S) (H) Q) : W0 rm 231 [l0, l1, l2, l3, l4, l5, l6, l7, l8, l9, l10, l11, l12, l13, l14, l15] (S) H Q := W.iconst' at_231 (by decide) h
theorem s0_232 {rm : Room} {S : List Value} {H : AHeap} {Q : Option Value → AHeap → Prop} {l0 l1 l2 l3 l4 l5 l6 l7 l8 l9 l10 l11 l12 l13 l14 l15 : Slot}  (h : W0 rm 233 [l0, l1, l2, l3, l4, l5, l6, l7, l8, l9, l10, l11, l12, l13, l14, l15] (.int 1 :: S) (H) Q) : W0 rm 232 [l0, l1, l2, l3, l4, l5, l6, l7, l8, l9, l10, l11, l12, l13, l14, l15] (S) H Q := W.iconst' at_232 (by decide) h
theorem s0_233 {rm : Room} {S : List Value} {H : AHeap} {Q : Option Value → AHeap → Prop} {l0 l1 l2 l3 l4 l5 l6 l7 l8 l9 l10 l11 l12 l13 l14 l15 : Slot} {rm' : Room} {H' : AHeap} {i : Nat} {vs : List Value} {a0 : Int32} {a1 : Int32}  (hH : H[i]? = some (.inl (0, vs))) (hM : M2 rm' [.ref i, .int a0, .int a1] H (Is none H')) (hr : rok rm rm' 3 S = true) (h : W0 (less rm rm') 236 [l0, l1, l2, l3, l4, l5, l6, l7, l8, l9, l10, l11, l12, l13, l14, l15] (S) H' Q) : W0 rm 233 [l0, l1, l2, l3, l4, l5, l6, l7, l8, l9, l10, l11, l12, l13, l14, l15] (.int a1 :: .int a0 :: .ref i :: S) H Q := W.callV (c := 0) (S := S) (as := [.int a0, .int a1]) (rm' := rm') at_233 (List.mem_of_getElem? (i := 21) rfl) (List.mem_of_getElem? (i := 22) rfl) (List.mem_of_getElem? (i := 24) rfl) (Or.inl rfl) kt (List.mem_of_getElem? (i := 23) rfl) (List.mem_of_getElem? (i := 4) rfl) (List.mem_of_getElem? (i := 25) rfl) (by decide) rfl pd2 rfl rfl hH hM hr (fun _ _ q => by obtain ⟨rfl, rfl⟩ := q; exact h)
theorem s0_233q {rm : Room} {S : List Value} {H : AHeap} {Q : Option Value → AHeap → Prop} {l0 l1 l2 l3 l4 l5 l6 l7 l8 l9 l10 l11 l12 l13 l14 l15 : Slot} {rm' : Room} {Q' : Option Value → AHeap → Prop} {i : Nat} {vs : List Value} {a0 a1 : Value} (hH : H[i]? = some (.inl (0, vs))) (hM : M2 rm' [.ref i, a0, a1] H Q') (hr : rok rm rm' 3 S = true) (h : ∀ v H', Q' v H' → W0 (less rm rm') 236 [l0, l1, l2, l3, l4, l5, l6, l7, l8, l9, l10, l11, l12, l13, l14, l15] (v.toList ++ S) H' Q) : W0 rm 233 [l0, l1, l2, l3, l4, l5, l6, l7, l8, l9, l10, l11, l12, l13, l14, l15] (a1 :: a0 :: .ref i :: S) H Q := W.callV (c := 0) (S := S) (as := [a0, a1]) (rm' := rm') at_233 (List.mem_of_getElem? (i := 21) rfl) (List.mem_of_getElem? (i := 22) rfl) (List.mem_of_getElem? (i := 24) rfl) (Or.inl rfl) kt (List.mem_of_getElem? (i := 23) rfl) (List.mem_of_getElem? (i := 4) rfl) (List.mem_of_getElem? (i := 25) rfl) (by decide) rfl pd2 rfl rfl hH hM hr h
theorem s0_236 {rm : Room} {S : List Value} {H : AHeap} {Q : Option Value → AHeap → Prop} {l0 l1 l2 l3 l5 l6 l7 l8 l9 l10 l11 l12 l13 l14 l15 : Slot} {x : Int32} (h : W0 rm 238 [l0, l1, l2, l3, .val (.int x), l5, l6, l7, l8, l9, l10, l11, l12, l13, l14, l15] (.int x :: S) (H) Q) : W0 rm 236 [l0, l1, l2, l3, .val (.int x), l5, l6, l7, l8, l9, l10, l11, l12, l13, l14, l15] (S) H Q := W.iload at_236 rfl h
theorem s0_238 {rm : Room} {S : List Value} {H : AHeap} {Q : Option Value → AHeap → Prop} {l0 l1 l2 l3 l4 l5 l6 l7 l8 l9 l10 l11 l12 l13 l14 l15 : Slot}  (h : W0 rm 239 [l0, l1, l2, l3, l4, l5, l6, l7, l8, l9, l10, l11, l12, l13, l14, l15] (.int 2 :: S) (H) Q) : W0 rm 238 [l0, l1, l2, l3, l4, l5, l6, l7, l8, l9, l10, l11, l12, l13, l14, l15] (S) H Q := W.iconst' at_238 (by decide) h
theorem s0_239 {rm : Room} {S : List Value} {H : AHeap} {Q : Option Value → AHeap → Prop} {l0 l1 l2 l3 l4 l5 l6 l7 l8 l9 l10 l11 l12 l13 l14 l15 : Slot} {x y : Int32} (h1 : x < y → W0 rm 249 [l0, l1, l2, l3, l4, l5, l6, l7, l8, l9, l10, l11, l12, l13, l14, l15] S H Q) (h2 : ¬ x < y → W0 rm 242 [l0, l1, l2, l3, l4, l5, l6, l7, l8, l9, l10, l11, l12, l13, l14, l15] S H Q) : W0 rm 239 [l0, l1, l2, l3, l4, l5, l6, l7, l8, l9, l10, l11, l12, l13, l14, l15] (.int y :: .int x :: S) H Q := W.icmp at_239 (by decide) (by decide) h1 h2
theorem s0_242 {rm : Room} {S : List Value} {H : AHeap} {Q : Option Value → AHeap → Prop} {l0 l1 l2 l3 l4 l5 l6 l7 l8 l9 l10 l11 l13 l14 l15 : Slot} {i : Nat} (h : W0 rm 244 [l0, l1, l2, l3, l4, l5, l6, l7, l8, l9, l10, l11, .val (.ref i), l13, l14, l15] (.ref i :: S) (H) Q) : W0 rm 242 [l0, l1, l2, l3, l4, l5, l6, l7, l8, l9, l10, l11, .val (.ref i), l13, l14, l15] (S) H Q := W.aload at_242 rfl rfl h
theorem s0_242n {rm : Room} {S : List Value} {H : AHeap} {Q : Option Value → AHeap → Prop} {l0 l1 l2 l3 l4 l5 l6 l7 l8 l9 l10 l11 l13 l14 l15 : Slot}  (h : W0 rm 244 [l0, l1, l2, l3, l4, l5, l6, l7, l8, l9, l10, l11, .val .null, l13, l14, l15] (.null :: S) (H) Q) : W0 rm 242 [l0, l1, l2, l3, l4, l5, l6, l7, l8, l9, l10, l11, .val .null, l13, l14, l15] (S) H Q := W.aload at_242 rfl rfl h
theorem s0_244 {rm : Room} {S : List Value} {H : AHeap} {Q : Option Value → AHeap → Prop} {l0 l1 l2 l3 l4 l5 l6 l7 l8 l9 l10 l11 l12 l13 l14 l15 : Slot}  (h : W0 rm 245 [l0, l1, l2, l3, l4, l5, l6, l7, l8, l9, l10, l11, l12, l13, l14, l15] (.int 2 :: S) (H) Q) : W0 rm 244 [l0, l1, l2, l3, l4, l5, l6, l7, l8, l9, l10, l11, l12, l13, l14, l15] (S) H Q := W.iconst' at_244 (by decide) h
theorem s0_245 {rm : Room} {S : List Value} {H : AHeap} {Q : Option Value → AHeap → Prop} {l0 l1 l2 l3 l4 l5 l6 l7 l8 l9 l10 l11 l12 l13 l14 l15 : Slot}  (h : W0 rm 246 [l0, l1, l2, l3, l4, l5, l6, l7, l8, l9, l10, l11, l12, l13, l14, l15] (.int 1 :: S) (H) Q) : W0 rm 245 [l0, l1, l2, l3, l4, l5, l6, l7, l8, l9, l10, l11, l12, l13, l14, l15] (S) H Q := W.iconst' at_245 (by decide) h
theorem s0_246 {rm : Room} {S : List Value} {H : AHeap} {Q : Option Value → AHeap → Prop} {l0 l1 l2 l3 l4 l5 l6 l7 l8 l9 l10 l11 l12 l13 l14 l15 : Slot} {rm' : Room} {H' : AHeap} {i : Nat} {vs : List Value} {a0 : Int32} {a1 : Int32}  (hH : H[i]? = some (.inl (0, vs))) (hM : M2 rm' [.ref i, .int a0, .int a1] H (Is none H')) (hr : rok rm rm' 3 S = true) (h : W0 (less rm rm') 249 [l0, l1, l2, l3, l4, l5, l6, l7, l8, l9, l10, l11, l12, l13, l14, l15] (S) H' Q) : W0 rm 246 [l0, l1, l2, l3, l4, l5, l6, l7, l8, l9, l10, l11, l12, l13, l14, l15] (.int a1 :: .int a0 :: .ref i :: S) H Q := W.callV (c := 0) (S := S) (as := [.int a0, .int a1]) (rm' := rm') at_246 (List.mem_of_getElem? (i := 21) rfl) (List.mem_of_getElem? (i := 22) rfl) (List.mem_of_getElem? (i := 24) rfl) (Or.inl rfl) kt (List.mem_of_getElem? (i := 23) rfl) (List.mem_of_getElem? (i := 4) rfl) (List.mem_of_getElem? (i := 25) rfl) (by decide) rfl pd2 rfl rfl hH hM hr (fun _ _ q => by obtain ⟨rfl, rfl⟩ := q; exact h)
theorem s0_246q {rm : Room} {S : List Value} {H : AHeap} {Q : Option Value → AHeap → Prop} {l0 l1 l2 l3 l4 l5 l6 l7 l8 l9 l10 l11 l12 l13 l14 l15 : Slot} {rm' : Room} {Q' : Option Value → AHeap → Prop} {i : Nat} {vs : List Value} {a0 a1 : Value} (hH : H[i]? = some (.inl (0, vs))) (hM : M2 rm' [.ref i, a0, a1] H Q') (hr : rok rm rm' 3 S = true) (h : ∀ v H', Q' v H' → W0 (less rm rm') 249 [l0, l1, l2, l3, l4, l5, l6, l7, l8, l9, l10, l11, l12, l13, l14, l15] (v.toList ++ S) H' Q) : W0 rm 246 [l0, l1, l2, l3, l4, l5, l6, l7, l8, l9, l10, l11, l12, l13, l14, l15] (a1 :: a0 :: .ref i :: S) H Q := W.callV (c := 0) (S := S) (as := [a0, a1]) (rm' := rm') at_246 (List.mem_of_getElem? (i := 21) rfl) (List.mem_of_getElem? (i := 22) rfl) (List.mem_of_getElem? (i := 24) rfl) (Or.inl rfl) kt (List.mem_of_getElem? (i := 23) rfl) (List.mem_of_getElem? (i := 4) rfl) (List.mem_of_getElem? (i := 25) rfl) (by decide) rfl pd2 rfl rfl hH hM hr h
theorem s0_249 {rm : Room} {S : List Value} {H : AHeap} {Q : Option Value → AHeap → Prop} {l0 l1 l2 l3 l5 l6 l7 l8 l9 l10 l11 l12 l13 l14 l15 : Slot} {x : Int32} (h : W0 rm 251 [l0, l1, l2, l3, .val (.int x), l5, l6, l7, l8, l9, l10, l11, l12, l13, l14, l15] (.int x :: S) (H) Q) : W0 rm 249 [l0, l1, l2, l3, .val (.int x), l5, l6, l7, l8, l9, l10, l11, l12, l13, l14, l15] (S) H Q := W.iload at_249 rfl h
theorem s0_251 {rm : Room} {S : List Value} {H : AHeap} {Q : Option Value → AHeap → Prop} {l0 l1 l2 l3 l4 l5 l6 l7 l8 l9 l10 l11 l12 l13 l14 l15 : Slot}  (h : W0 rm 252 [l0, l1, l2, l3, l4, l5, l6, l7, l8, l9, l10, l11, l12, l13, l14, l15] (.int 3 :: S) (H) Q) : W0 rm 251 [l0, l1, l2, l3, l4, l5, l6, l7, l8, l9, l10, l11, l12, l13, l14, l15] (S) H Q := W.iconst' at_251 (by decide) h
theorem s0_252 {rm : Room} {S : List Value} {H : AHeap} {Q : Option Value → AHeap → Prop} {l0 l1 l2 l3 l4 l5 l6 l7 l8 l9 l10 l11 l12 l13 l14 l15 : Slot} {x y : Int32} (h1 : x < y → W0 rm 262 [l0, l1, l2, l3, l4, l5, l6, l7, l8, l9, l10, l11, l12, l13, l14, l15] S H Q) (h2 : ¬ x < y → W0 rm 255 [l0, l1, l2, l3, l4, l5, l6, l7, l8, l9, l10, l11, l12, l13, l14, l15] S H Q) : W0 rm 252 [l0, l1, l2, l3, l4, l5, l6, l7, l8, l9, l10, l11, l12, l13, l14, l15] (.int y :: .int x :: S) H Q := W.icmp at_252 (by decide) (by decide) h1 h2
theorem s0_255 {rm : Room} {S : List Value} {H : AHeap} {Q : Option Value → AHeap → Prop} {l0 l1 l2 l3 l4 l5 l6 l7 l8 l9 l10 l11 l13 l14 l15 : Slot} {i : Nat} (h : W0 rm 257 [l0, l1, l2, l3, l4, l5, l6, l7, l8, l9, l10, l11, .val (.ref i), l13, l14, l15] (.ref i :: S) (H) Q) : W0 rm 255 [l0, l1, l2, l3, l4, l5, l6, l7, l8, l9, l10, l11, .val (.ref i), l13, l14, l15] (S) H Q := W.aload at_255 rfl rfl h
theorem s0_255n {rm : Room} {S : List Value} {H : AHeap} {Q : Option Value → AHeap → Prop} {l0 l1 l2 l3 l4 l5 l6 l7 l8 l9 l10 l11 l13 l14 l15 : Slot}  (h : W0 rm 257 [l0, l1, l2, l3, l4, l5, l6, l7, l8, l9, l10, l11, .val .null, l13, l14, l15] (.null :: S) (H) Q) : W0 rm 255 [l0, l1, l2, l3, l4, l5, l6, l7, l8, l9, l10, l11, .val .null, l13, l14, l15] (S) H Q := W.aload at_255 rfl rfl h
theorem s0_257 {rm : Room} {S : List Value} {H : AHeap} {Q : Option Value → AHeap → Prop} {l0 l1 l2 l3 l4 l5 l6 l7 l8 l9 l10 l11 l12 l13 l14 l15 : Slot}  (h : W0 rm 258 [l0, l1, l2, l3, l4, l5, l6, l7, l8, l9, l10, l11, l12, l13, l14, l15] (.int 3 :: S) (H) Q) : W0 rm 257 [l0, l1, l2, l3, l4, l5, l6, l7, l8, l9, l10, l11, l12, l13, l14, l15] (S) H Q := W.iconst' at_257 (by decide) h
theorem s0_258 {rm : Room} {S : List Value} {H : AHeap} {Q : Option Value → AHeap → Prop} {l0 l1 l2 l3 l4 l5 l6 l7 l8 l9 l10 l11 l12 l13 l14 l15 : Slot}  (h : W0 rm 259 [l0, l1, l2, l3, l4, l5, l6, l7, l8, l9, l10, l11, l12, l13, l14, l15] (.int 1 :: S) (H) Q) : W0 rm 258 [l0, l1, l2, l3, l4, l5, l6, l7, l8, l9, l10, l11, l12, l13, l14, l15] (S) H Q := W.iconst' at_258 (by decide) h
theorem s0_259 {rm : Room} {S : List Value} {H : AHeap} {Q : Option Value → AHeap → Prop} {l0 l1 l2 l3 l4 l5 l6 l7 l8 l9 l10 l11 l12 l13 l14 l15 : Slot} {rm' : Room} {H' : AHeap} {i : Nat} {vs : List Value} {a0 : Int32} {a1 : Int32}  (hH : H[i]? = some (.inl (0, vs))) (hM : M2 rm' [.ref i, .int a0, .int a1] H (Is none H')) (hr : rok rm rm' 3 S = true) (h : W0 (less rm rm') 262 [l0, l1, l2, l3, l4, l5, l6, l7, l8, l9, l10, l11, l12, l13, l14, l15] (S) H' Q) : W0 rm 259 [l0, l1, l2, l3, l4, l5, l6, l7, l8, l9, l10, l11, l12, l13, l14, l15] (.int a1 :: .int a0 :: .ref i :: S) H Q := W.callV (c := 0) (S := S) (as := [.int a0, .int a1]) (rm' := rm') at_259 (List.mem_of_getElem? (i := 21) rfl) (List.mem_of_getElem? (i := 22) rfl) (List.mem_of_getElem? (i := 24) rfl) (Or.inl rfl) kt (List.mem_of_getElem? (i := 23) rfl) (List.mem_of_getElem? (i := 4) rfl) (List.mem_of_getElem? (i := 25) rfl) (by decide) rfl pd2 rfl rfl hH hM hr (fun _ _ q => by obtain ⟨rfl, rfl⟩ := q; exact h)
theorem s0_259q {rm : Room} {S : List Value} {H : AHeap} {Q : Option Value → AHeap → Prop} {l0 l1 l2 l3 l4 l5 l6 l7 l8 l9 l10 l11 l12 l13 l14 l15 : Slot} {rm' : Room} {Q' : Option Value → AHeap → Prop} {i : Nat} {vs : List Value} {a0 a1 : Value} (hH : H[i]? = some (.inl (0, vs))) (hM : M2 rm' [.ref i, a0, a1] H Q') (hr : rok rm rm' 3 S = true) (h : ∀ v H', Q' v H' → W0 (less rm rm') 262 [l0, l1, l2, l3, l4, l5, l6, l7, l8, l9, l10, l11, l12, l13, l14, l15] (v.toList ++ S) H' Q) : W0 rm 259 [l0, l1, l2, l3, l4, l5, l6, l7, l8, l9, l10, l11, l12, l13, l14, l15] (a1 :: a0 :: .ref i :: S) H Q := W.callV (c := 0) (S := S) (as := [a0, a1]) (rm' := rm') at_259 (List.mem_of_getElem? (i := 21) rfl) (List.mem_of_getElem? (i := 22) rfl) (List.mem_of_getElem? (i := 24) rfl) (Or.inl rfl) kt (List.mem_of_getElem? (i := 23) rfl) (List.mem_of_getElem? (i := 4) rfl) (List.mem_of_getElem? (i := 25) rfl) (by decide) rfl pd2 rfl rfl hH hM hr h
theorem s0_262 {rm : Room} {S : List Value} {H : AHeap} {Q : Option Value → AHeap → Prop} {l0 l1 l2 l3 l4 l5 l6 l7 l8 l9 l10 l11 l13 l14 l15 : Slot} {i : Nat} (h : W0 rm 264 [l0, l1, l2, l3, l4, l5, l6, l7, l8, l9, l10, l11, .val (.ref i), l13, l14, l15] (.ref i :: S) (H) Q) : W0 rm 262 [l0, l1, l2, l3, l4, l5, l6, l7, l8, l9, l10, l11, .val (.ref i), l13, l14, l15] (S) H Q := W.aload at_262 rfl rfl h
theorem s0_262n {rm : Room} {S : List Value} {H : AHeap} {Q : Option Value → AHeap → Prop} {l0 l1 l2 l3 l4 l5 l6 l7 l8 l9 l10 l11 l13 l14 l15 : Slot}  (h : W0 rm 264 [l0, l1, l2, l3, l4, l5, l6, l7, l8, l9, l10, l11, .val .null, l13, l14, l15] (.null :: S) (H) Q) : W0 rm 262 [l0, l1, l2, l3, l4, l5, l6, l7, l8, l9, l10, l11, .val .null, l13, l14, l15] (S) H Q := W.aload at_262 rfl rfl h
theorem s0_264 {rm : Room} {S : List Value} {H : AHeap} {Q : Option Value → AHeap → Prop} {l0 l1 l2 l3 l4 l5 l6 l7 l8 l9 l10 l11 l12 l13 l14 l15 : Slot}  (h : W0 rm 265 [l0, l1, l2, l3, l4, l5, l6, l7, l8, l9, l10, l11, l12, l13, l14, l15] (.int 4 :: S) (H) Q) : W0 rm 264 [l0, l1, l2, l3, l4, l5, l6, l7, l8, l9, l10, l11, l12, l13, l14, l15] (S) H Q := W.iconst' at_264 (by decide) h
theorem s0_265 {rm : Room} {S : List Value} {H : AHeap} {Q : Option Value → AHeap → Prop} {l0 l1 l2 l3 l4 l5 l6 l7 l8 l9 l10 l11 l12 l13 l14 l15 : Slot}  (h : W0 rm 266 [l0, l1, l2, l3, l4, l5, l6, l7, l8, l9, l10, l11, l12, l13, l14, l15] (.int 2 :: S) (H) Q) : W0 rm 265 [l0, l1, l2, l3, l4, l5, l6, l7, l8, l9, l10, l11, l12, l13, l14, l15] (S) H Q := W.iconst' at_265 (by decide) h
theorem s0_266 {rm : Room} {S : List Value} {H : AHeap} {Q : Option Value → AHeap → Prop} {l0 l1 l2 l3 l4 l5 l6 l7 l8 l9 l10 l11 l12 l13 l14 l15 : Slot} {rm' : Room} {H' : AHeap} {i : Nat} {vs : List Value} {a0 : Int32} {a1 : Int32}  (hH : H[i]? = some (.inl (0, vs))) (hM : M2 rm' [.ref i, .int a0, .int a1] H (Is none H')) (hr : rok rm rm' 3 S = true) (h : W0 (less rm rm') 269 [l0, l1, l2, l3, l4, l5, l6, l7, l8, l9, l10, l11, l12, l13, l14, l15] (S) H' Q) : W0 rm 266 [l0, l1, l2, l3, l4, l5, l6, l7, l8, l9, l10, l11, l12, l13, l14, l15] (.int a1 :: .int a0 :: .ref i :: S) H Q := W.callV (c := 0) (S := S) (as := [.int a0, .int a1]) (rm' := rm') at_266 (List.mem_of_getElem? (i := 21) rfl) (List.mem_of_getElem? (i := 22) rfl) (List.mem_of_getElem? (i := 24) rfl) (Or.inl rfl) kt (List.mem_of_getElem? (i := 23) rfl) (List.mem_of_getElem? (i := 4) rfl) (List.mem_of_getElem? (i := 25) rfl) (by decide) rfl pd2 rfl rfl hH hM hr (fun _ _ q => by obtain ⟨rfl, rfl⟩ := q; exact h)
theorem s0_266q {rm : Room} {S : List Value} {H : AHeap} {Q : Option Value → AHeap → Prop} {l0 l1 l2 l3 l4 l5 l6 l7 l8 l9 l10 l11 l12 l13 l14 l15 : Slot} {rm' : Room} {Q' : Option Value → AHeap → Prop} {i : Nat} {vs : List Value} {a0 a1 : Value} (hH : H[i]? = some (.inl (0, vs))) (hM : M2 rm' [.ref i, a0, a1] H Q') (hr : rok rm rm' 3 S = true) (h : ∀ v H', Q' v H' → W0 (less rm rm') 269 [l0, l1, l2, l3, l4, l5, l6, l7, l8, l9, l10, l11, l12, l13, l14, l15] (v.toList ++ S) H' Q) : W0 rm 266 [l0, l1, l2, l3, l4, l5, l6, l7, l8, l9, l10, l11, l12, l13, l14, l15] (a1 :: a0 :: .ref i :: S) H Q := W.callV (c := 0) (S := S) (as := [a0, a1]) (rm' := rm') at_266 (List.mem_of_getElem? (i := 21) rfl) (List.mem_of_getElem? (i := 22) rfl) (List.mem_of_getElem? (i := 24) rfl) (Or.inl rfl) kt (List.mem_of_getElem? (i := 23) rfl) (List.mem_of_getElem? (i := 4) rfl) (List.mem_of_getElem? (i := 25) rfl) (by decide) rfl pd2 rfl rfl hH hM hr h
theorem s0_269 {rm : Room} {S : List Value} {H : AHeap} {Q : Option Value → AHeap → Prop} {l0 l1 l2 l3 l4 l5 l6 l7 l8 l9 l10 l11 l13 l14 l15 : Slot} {i : Nat} (h : W0 rm 271 [l0, l1, l2, l3, l4, l5, l6, l7, l8, l9, l10, l11, .val (.ref i), l13, l14, l15] (.ref i :: S) (H) Q) : W0 rm 269 [l0, l1, l2, l3, l4, l5, l6, l7, l8, l9, l10, l11, .val (.ref i), l13, l14, l15] (S) H Q := W.aload at_269 rfl rfl h
theorem s0_269n {rm : Room} {S : List Value} {H : AHeap} {Q : Option Value → AHeap → Prop} {l0 l1 l2 l3 l4 l5 l6 l7 l8 l9 l10 l11 l13 l14 l15 : Slot}  (h : W0 rm 271 [l0, l1, l2, l3, l4, l5, l6, l7, l8, l9, l10, l11, .val .null, l13, l14, l15] (.null :: S) (H) Q) : W0 rm 269 [l0, l1, l2, l3, l4, l5, l6, l7, l8, l9, l10, l11, .val .null, l13, l14, l15] (S) H Q := W.aload at_269 rfl rfl h
theorem s0_271 {rm : Room} {S : List Value} {H : AHeap} {Q : Option Value → AHeap → Prop} {l0 l1 l2 l3 l4 l6 l7 l8 l9 l10 l11 l12 l13 l14 l15 : Slot} {x : Int32} (h : W0 rm 273 [l0, l1, l2, l3, l4, .val (.int x), l6, l7, l8, l9, l10, l11, l12, l13, l14, l15] (.int x :: S) (H) Q) : W0 rm 271 [l0, l1, l2, l3, l4, .val (.int x), l6, l7, l8, l9, l10, l11, l12, l13, l14, l15] (S) H Q := W.iload at_271 rfl h
theorem s0_273 {rm : Room} {S : List Value} {H : AHeap} {Q : Option Value → AHeap → Prop} {l0 l1 l2 l3 l4 l5 l6 l7 l8 l9 l10 l11 l12 l13 l14 l15 : Slot} {rm' : Room} {H' : AHeap} {i : Nat} {vs : List Value} {a0 : Int32}  (hH : H[i]? = some (.inl (0, vs))) (hM : M3 rm' [.ref i, .int a0] H (Is none H')) (hr : rok rm rm' 3 S = true) (h : W0 (less rm rm') 276 [l0, l1, l2, l3, l4, l5, l6, l7, l8, l9, l10, l11, l12, l13, l14, l15] (S) H' Q) : W0 rm 273 [l0, l1, l2, l3, l4, l5, l6, l7, l8, l9, l10, l11, l12, l13, l14, l15] (.int a0 :: .ref i :: S) H Q := W.callV (c := 0) (S := S) (as := [.int a0]) (rm' := rm') at_273 (List.mem_of_getElem? (i := 26) rfl) (List.mem_of_getElem? (i := 27) rfl) (List.mem_of_getElem? (i := 29) rfl) (Or.inl rfl) kt (List.mem_of_getElem? (i := 28) rfl) (List.mem_of_getElem? (i := 4) rfl) (List.mem_of_getElem? (i := 30) rfl) (by decide) rfl pd1 rfl rfl hH hM hr (fun _ _ q => by obtain ⟨rfl, rfl⟩ := q; exact h)
theorem s0_273q {rm : Room} {S : List Value} {H : AHeap} {Q : Option Value → AHeap → Prop} {l0 l1 l2 l3 l4 l5 l6 l7 l8 l9 l10 l11 l12 l13 l14 l15 : Slot} {rm' : Room} {Q' : Option Value → AHeap → Prop} {i : Nat} {vs : List Value} {a0 : Value} (hH : H[i]? = some (.inl (0, vs))) (hM : M3 rm' [.ref i, a0] H Q') (hr : rok rm rm' 3 S = true) (h : ∀ v H', Q' v H' → W0 (less rm rm') 276 [l0, l1, l2, l3, l4, l5, l6, l7, l8, l9, l10, l11, l12, l13, l14, l15] (v.toList ++ S) H' Q) : W0 rm 273 [l0, l1, l2, l3, l4, l5, l6, l7, l8, l9, l10, l11, l12, l13, l14, l15] (a0 :: .ref i :: S) H Q := W.callV (c := 0) (S := S) (as := [a0]) (rm' := rm') at_273 (List.mem_of_getElem? (i := 26) rfl) (List.mem_of_getElem? (i := 27) rfl) (List.mem_of_getElem? (i := 29) rfl) (Or.inl rfl) kt (List.mem_of_getElem? (i := 28) rfl) (List.mem_of_getElem? (i := 4) rfl) (List.mem_of_getElem? (i := 30) rfl) (by decide) rfl pd1 rfl rfl hH hM hr h
theorem s0_276 {rm : Room} {S : List Value} {H : AHeap} {Q : Option Value → AHeap → Prop} {l0 l1 l2 l3 l4 l5 l6 l7 l8 l9 l10 l11 l13 l14 l15 : Slot} {i : Nat} (h : W0 rm 278 [l0, l1, l2, l3, l4, l5, l6, l7, l8, l9, l10, l11, .val (.ref i), l13, l14, l15] (.ref i :: S) (H) Q) : W0 rm 276 [l0, l1, l2, l3, l4, l5, l6, l7, l8, l9, l10, l11, .val (.ref i), l13, l14, l15] (S) H Q := W.aload at_276 rfl rfl h
theorem s0_276n {rm : Room} {S : List Value} {H : AHeap} {Q : Option Value → AHeap → Prop} {l0 l1 l2 l3 l4 l5 l6 l7 l8 l9 l10 l11 l13 l14 l15 : Slot}  (h : W0 rm 278 [l0, l1, l2, l3, l4, l5, l6, l7, l8, l9, l10, l11, .val .null, l13, l14, l15] (.null :: S) (H) Q) : W0 rm 276 [l0, l1, l2, l3, l4, l5, l6, l7, l8, l9, l10, l11, .val .null, l13, l14, l15] (S) H Q := W.aload at_276 rfl rfl h
theorem s0_278 {rm : Room} {S : List Value} {H : AHeap} {Q : Option Value → AHeap → Prop} {l0 l1 l2 l3 l4 l6 l7 l8 l9 l10 l11 l12 l13 l14 l15 : Slot} {x : Int32} (h : W0 rm 280 [l0, l1, l2, l3, l4, .val (.int x), l6, l7, l8, l9, l10, l11, l12, l13, l14, l15] (.int x :: S) (H) Q) : W0 rm 278 [l0, l1, l2, l3, l4, .val (.int x), l6, l7, l8, l9, l10, l11, l12, l13, l14, l15] (S) H Q := W.iload at_278 rfl h
theorem s0_280 {rm : Room} {S : List Value} {H : AHeap} {Q : Option Value → AHeap → Prop} {l0 l1 l2 l3 l4 l5 l6 l7 l8 l9 l10 l11 l12 l13 l14 l15 : Slot} {rm' : Room} {H' : AHeap} {i : Nat} {vs : List Value} {a0 : Int32} {r : Int32} (hH : H[i]? = some (.inl (0, vs))) (hM : M4 rm' [.ref i, .int a0] H (Is (some (.int r)) H')) (hr : rok rm rm' 2 S = true) (h : W0 (less rm rm') 283 [l0, l1, l2, l3, l4, l5, l6, l7, l8, l9, l10, l11, l12, l13, l14, l15] (.int r :: S) H' Q) : W0 rm 280 [l0, l1, l2, l3, l4, l5, l6, l7, l8, l9, l10, l11, l12, l13, l14, l15] (.int a0 :: .ref i :: S) H Q := W.callV (c := 0) (S := S) (as := [.int a0]) (rm' := rm') at_280 (List.mem_of_getElem? (i := 31) rfl) (List.mem_of_getElem? (i := 32) rfl) (List.mem_of_getElem? (i := 34) rfl) (Or.inl rfl) kt (List.mem_of_getElem? (i := 33) rfl) (List.mem_of_getElem? (i := 4) rfl) (List.mem_of_getElem? (i := 35) rfl) (by decide) rfl pd3 rfl rfl hH hM hr (fun _ _ q => by obtain ⟨rfl, rfl⟩ := q; exact h)
theorem s0_280q {rm : Room} {S : List Value} {H : AHeap} {Q : Option Value → AHeap → Prop} {l0 l1 l2 l3 l4 l5 l6 l7 l8 l9 l10 l11 l12 l13 l14 l15 : Slot} {rm' : Room} {Q' : Option Value → AHeap → Prop} {i : Nat} {vs : List Value} {a0 : Value} (hH : H[i]? = some (.inl (0, vs))) (hM : M4 rm' [.ref i, a0] H Q') (hr : rok rm rm' 2 S = true) (h : ∀ v H', Q' v H' → W0 (less rm rm') 283 [l0, l1, l2, l3, l4, l5, l6, l7, l8, l9, l10, l11, l12, l13, l14, l15] (v.toList ++ S) H' Q) : W0 rm 280 [l0, l1, l2, l3, l4, l5, l6, l7, l8, l9, l10, l11, l12, l13, l14, l15] (a0 :: .ref i :: S) H Q := W.callV (c := 0) (S := S) (as := [a0]) (rm' := rm') at_280 (List.mem_of_getElem? (i := 31) rfl) (List.mem_of_getElem? (i := 32) rfl) (List.mem_of_getElem? (i := 34) rfl) (Or.inl rfl) kt (List.mem_of_getElem? (i := 33) rfl) (List.mem_of_getElem? (i := 4) rfl) (List.mem_of_getElem? (i := 35) rfl) (by decide) rfl pd3 rfl rfl hH hM hr h
theorem s0_283 {rm : Room} {S : List Value} {H : AHeap} {Q : Option Value → AHeap → Prop} {l0 l1 l2 l3 l4 l5 l6 l7 l8 l9 l10 l11 l12 l13 l14 l15 : Slot} {x : Int32} (h1 : ¬ x = 0 → W0 rm 290 [l0, l1, l2, l3, l4, l5, l6, l7, l8, l9, l10, l11, l12, l13, l14, l15] S H Q) (h2 : x = 0 → W0 rm 286 [l0, l1, l2, l3, l4, l5, l6, l7, l8, l9, l10, l11, l12, l13, l14, l15] S H Q) : W0 rm 283 [l0, l1, l2, l3, l4, l5, l6, l7, l8, l9, l10, l11, l12, l13, l14, l15] (.int x :: S) H Q := W.ifc at_283 (by decide) (by decide) h1 h2
theorem s0_286 {rm : Room} {S : List Value} {H : AHeap} {Q : Option Value → AHeap → Prop} {l0 l1 l2 l3 l4 l5 l6 l7 l8 l9 l10 l11 l12 l13 l14 l15 : Slot}  (h : W0 rm 287 [l0, l1, l2, l3, l4, l5, l6, l7, l8, l9, l10, l11, l12, l13, l14, l15] (.int 1 :: S) (H) Q) : W0 rm 286 [l0, l1, l2, l3, l4, l5, l6, l7, l8, l9, l10, l11, l12, l13, l14, l15] (S) H Q := W.iconst' at_286 (by decide) h
theorem s0_287 {rm : Room} {S : List Value} {H : AHeap} {Q : Option Value → AHeap → Prop} {l0 l1 l2 l3 l4 l5 l6 l7 l8 l9 l10 l11 l12 l13 l14 l15 : Slot}  (h : W0 rm 291 [l0, l1, l2, l3, l4, l5, l6, l7, l8, l9, l10, l11, l12, l13, l14, l15] (S) (H) Q) : W0 rm 287 [l0, l1, l2, l3, l4, l5, l6, l7, l8, l9, l10, l11, l12, l13, l14, l15] (S) H Q := W.goto at_287 (by decide) (by decide) h
theorem s0_290 {rm : Room} {S : List Value} {H : AHeap} {Q : Option Value → AHeap → Prop} {l0 l1 l2 l3 l4 l5 l6 l7 l8 l9 l10 l11 l12 l13 l14 l15 : Slot}  (h : W0 rm 291 [l0, l1, l2, l3, l4, l5, l6, l7, l8, l9, l10, l11, l12, l13, l14, l15] (.int 0 :: S) (H) Q) : W0 rm 290 [l0, l1, l2, l3, l4, l5, l6, l7, l8, l9, l10, l11, l12, l13, l14, l15] (S) H Q := W.iconst' at_290 (by decide) h
theorem s0_291 {rm : Room} {S : List Value} {H : AHeap} {Q : Option Value → AHeap → Prop} {l0 l1 l2 l3 l4 l5 l6 l7 l8 l9 l10 l11 l12 l13 l14 l15 : Slot} {x : Int32} (ho : one l13 = true) (h : W0 rm 293 [l0, l1, l2, l3, l4, l5, l6, l7, l8, l9, l10, l11, l12, .val (.int x), l14, l15] (S) (H) Q) : W0 rm 291 [l0, l1, l2, l3, l4, l5, l6, l7, l8, l9, l10, l11, l12, l13, l14, l15] (.int x :: S) H Q := W.istore at_291 rfl ho h
theorem s0_291w {rm : Room} {S : List Value} {H : AHeap} {Q : Option Value → AHeap → Prop} {l0 l1 l2 l3 l4 l5 l6 l7 l8 l9 l10 l11 l12 l14 l15 : Slot} {w : Value} {x : Int32} (ho : w.category = 2) (h : W0 rm 293 [l0, l1, l2, l3, l4, l5, l6, l7, l8, l9, l10, l11, l12, .val (.int x), .unset, l15] (S) (H) Q) : W0 rm 291 [l0, l1, l2, l3, l4, l5, l6, l7, l8, l9, l10, l11, l12, .val w, l14, l15] (.int x :: S) H Q := W.istoreW at_291 rfl ho (Nat.le_of_ble_eq_true rfl) h
theorem s0_291s {rm : Room} {S : List Value} {H : AHeap} {Q : Option Value → AHeap → Prop} {l0 l1 l2 l3 l4 l5 l6 l7 l8 l9 l10 l11 l12 l14 l15 : Slot} {x : Int32} (h : W0 rm 293 [l0, l1, l2, l3, l4, l5, l6, l7, l8, l9, l10, l11, .unset, .val (.int x), l14, l15] (S) (H) Q) : W0 rm 291 [l0, l1, l2, l3, l4, l5, l6, l7, l8, l9, l10, l11, l12, .second, l14, l15] (.int x :: S) H Q := W.istoreS at_291 rfl (by decide) h
theorem s0_293 {rm : Room} {S : List Value} {H : AHeap} {Q : Option Value → AHeap → Prop} {l0 l1 l2 l3 l4 l5 l6 l7 l9 l10 l11 l12 l13 l14 l15 : Slot} {x : Int32} (h : W0 rm 295 [l0, l1, l2, l3, l4, l5, l6, l7, .val (.int x), l9, l10, l11, l12, l13, l14, l15] (.int x :: S) (H) Q) : W0 rm 293 [l0, l1, l2, l3, l4, l5, l6, l7, .val (.int x), l9, l10, l11, l12, l13, l14, l15] (S) H Q := W.iload at_293 rfl h
theorem s0_295 {rm : Room} {S : List Value} {H : AHeap} {Q : Option Value → AHeap → Prop} {l0 l1 l2 l3 l4 l5 l6 l7 l8 l9 l10 l11 l12 l13 l14 l15 : Slot} {x : Int32} (h1 : x = 0 → W0 rm 305 [l0, l1, l2, l3, l4, l5, l6, l7, l8, l9, l10, l11, l12, l13, l14, l15] S H Q) (h2 : ¬ x = 0 → W0 rm 298 [l0, l1, l2, l3, l4, l5, l6, l7, l8, l9, l10, l11, l12, l13, l14, l15] S H Q) : W0 rm 295 [l0, l1, l2, l3, l4, l5, l6, l7, l8, l9, l10, l11, l12, l13, l14, l15] (.int x :: S) H Q := W.ifc at_295 (by decide) (by decide) h1 h2
theorem s0_298 {rm : Room} {S : List Value} {H : AHeap} {Q : Option Value → AHeap → Prop} {l0 l1 l2 l3 l4 l5 l6 l7 l8 l9 l10 l11 l13 l14 l15 : Slot} {i : Nat} (h : W0 rm 300 [l0, l1, l2, l3, l4, l5, l6, l7, l8, l9, l10, l11, .val (.ref i), l13, l14, l15] (.ref i :: S) (H) Q) : W0 rm 298 [l0, l1, l2, l3, l4, l5, l6, l7, l8, l9, l10, l11, .val (.ref i), l13, l14, l15] (S) H Q := W.aload at_298 rfl rfl h
theorem s0_298n {rm : Room} {S : List Value} {H : AHeap} {Q : Option Value → AHeap → Prop} {l0 l1 l2 l3 l4 l5 l6 l7 l8 l9 l10 l11 l13 l14 l15 : Slot}  (h : W0 rm 300 [l0, l1, l2, l3, l4, l5, l6, l7, l8, l9, l10, l11, .val .null, l13, l14, l15] (.null :: S) (H) Q) : W0 rm 298 [l0, l1, l2, l3, l4, l5, l6, l7, l8, l9, l10, l11, .val .null, l13, l14, l15] (S) H Q := W.aload at_298 rfl rfl h
theorem s0_300 {rm : Room} {S : List Value} {H : AHeap} {Q : Option Value → AHeap → Prop} {l0 l1 l2 l3 l4 l5 l6 l7 l8 l10 l11 l12 l13 l14 l15 : Slot} {x : Int32} (h : W0 rm 302 [l0, l1, l2, l3, l4, l5, l6, l7, l8, .val (.int x), l10, l11, l12, l13, l14, l15] (.int x :: S) (H) Q) : W0 rm 300 [l0, l1, l2, l3, l4, l5, l6, l7, l8, .val (.int x), l10, l11, l12, l13, l14, l15] (S) H Q := W.iload at_300 rfl h
theorem s0_302 {rm : Room} {S : List Value} {H : AHeap} {Q : Option Value → AHeap → Prop} {l0 l1 l2 l3 l4 l5 l6 l7 l8 l9 l10 l11 l12 l13 l14 l15 : Slot} {rm' : Room} {H' : AHeap} {i : Nat} {vs : List Value} {a0 : Int32}  (hH : H[i]? = some (.inl (0, vs))) (hM : M3 rm' [.ref i, .int a0] H (Is none H')) (hr : rok rm rm' 3 S = true) (h : W0 (less rm rm') 305 [l0, l1, l2, l3, l4, l5, l6, l7, l8, l9, l10, l11, l12, l13, l14, l15] (S) H' Q) : W0 rm 302 [l0, l1, l2, l3, l4, l5, l6, l7, l8, l9, l10, l11, l12, l13, l14, l15] (.int a0 :: .ref i :: S) H Q := W.callV (c := 0) (S := S) (as := [.int a0]) (rm' := rm') at_302 (List.mem_of_getElem? (i := 26) rfl) (List.mem_of_getElem? (i := 27) rfl) (List.mem_of_getElem? (i := 29) rfl) (Or.inl rfl) kt (List.mem_of_getElem? (i := 28) rfl) (List.mem_of_getElem? (i := 4) rfl) (List.mem_of_getElem? (i := 30) rfl) (by decide) rfl pd1 rfl rfl hH hM hr (fun _ _ q => by obtain ⟨rfl, rfl⟩ := q; exact h)
theorem s0_302q {rm : Room} {S : List Value} {H : AHeap} {Q : Option Value → AHeap → Prop} {l0 l1 l2 l3 l4 l5 l6 l7 l8 l9 l10 l11 l12 l13 l14 l15 : Slot} {rm' : Room} {Q' : Option Value → AHeap → Prop} {i : Nat} {vs : List Value} {a0 : Value} (hH : H[i]? = some (.inl (0, vs))) (hM : M3 rm' [.ref i, a0] H Q') (hr : rok rm rm' 3 S = true) (h : ∀ v H', Q' v H' → W0 (less rm rm') 305 [l0, l1, l2, l3, l4, l5, l6, l7, l8, l9, l10, l11, l12, l13, l14, l15] (v.toList ++ S) H' Q) : W0 rm 302 [l0, l1, l2, l3, l4, l5, l6, l7, l8, l9, l10, l11, l12, l13, l14, l15] (a0 :: .ref i :: S) H Q := W.callV (c := 0) (S := S) (as := [a0]) (rm' := rm') at_302 (List.mem_of_getElem? (i := 26) rfl) (List.mem_of_getElem? (i := 27) rfl) (List.mem_of_getElem? (i := 29) rfl) (Or.inl rfl) kt (List.mem_of_getElem? (i := 28) rfl) (List.mem_of_getElem? (i := 4) rfl) (List.mem_of_getElem? (i := 30) rfl) (by decide) rfl pd1 rfl rfl hH hM hr h
theorem s0_305 {rm : Room} {S : List Value} {H : AHeap} {Q : Option Value → AHeap → Prop} {l0 l1 l2 l3 l4 l5 l6 l7 l8 l9 l10 l11 l13 l14 l15 : Slot} {i : Nat} (h : W0 rm 307 [l0, l1, l2, l3, l4, l5, l6, l7, l8, l9, l10, l11, .val (.ref i), l13, l14, l15] (.ref i :: S) (H) Q) : W0 rm 305 [l0, l1, l2, l3, l4, l5, l6, l7, l8, l9, l10, l11, .val (.ref i), l13, l14, l15] (S) H Q := W.aload at_305 rfl rfl h
theorem s0_305n {rm : Room} {S : List Value} {H : AHeap} {Q : Option Value → AHeap → Prop} {l0 l1 l2 l3 l4 l5 l6 l7 l8 l9 l10 l11 l13 l14 l15 : Slot}  (h : W0 rm 307 [l0, l1, l2, l3, l4, l5, l6, l7, l8, l9, l10, l11, .val .null, l13, l14, l15] (.null :: S) (H) Q) : W0 rm 305 [l0, l1, l2, l3, l4, l5, l6, l7, l8, l9, l10, l11, .val .null, l13, l14, l15] (S) H Q := W.aload at_305 rfl rfl h
theorem s0_307 {rm : Room} {S : List Value} {H : AHeap} {Q : Option Value → AHeap → Prop} {l0 l1 l2 l3 l4 l6 l7 l8 l9 l10 l11 l12 l13 l14 l15 : Slot} {x : Int32} (h : W0 rm 309 [l0, l1, l2, l3, l4, .val (.int x), l6, l7, l8, l9, l10, l11, l12, l13, l14, l15] (.int x :: S) (H) Q) : W0 rm 307 [l0, l1, l2, l3, l4, .val (.int x), l6, l7, l8, l9, l10, l11, l12, l13, l14, l15] (S) H Q := W.iload at_307 rfl h
theorem s0_309 {rm : Room} {S : List Value} {H : AHeap} {Q : Option Value → AHeap → Prop} {l0 l1 l2 l3 l4 l5 l6 l7 l8 l9 l10 l11 l12 l13 l14 l15 : Slot}  (h : W0 rm 310 [l0, l1, l2, l3, l4, l5, l6, l7, l8, l9, l10, l11, l12, l13, l14, l15] (.int 1 :: S) (H) Q) : W0 rm 309 [l0, l1, l2, l3, l4, l5, l6, l7, l8, l9, l10, l11, l12, l13, l14, l15] (S) H Q := W.iconst' at_309 (by decide) h
theorem s0_310 {rm : Room} {S : List Value} {H : AHeap} {Q : Option Value → AHeap → Prop} {l0 l1 l2 l3 l4 l5 l6 l7 l8 l9 l10 l11 l12 l13 l14 l15 : Slot} {rm' : Room} {H' : AHeap} {i : Nat} {vs : List Value} {a0 : Int32} {a1 : Int32}  (hH : H[i]? = some (.inl (0, vs))) (hM : M2 rm' [.ref i, .int a0, .int a1] H (Is none H')) (hr : rok rm rm' 3 S = true) (h : W0 (less rm rm') 313 [l0, l1, l2, l3, l4, l5, l6, l7, l8, l9, l10, l11, l12, l13, l14, l15] (S) H' Q) : W0 rm 310 [l0, l1, l2, l3, l4, l5, l6, l7, l8, l9, l10, l11, l12, l13, l14, l15] (.int a1 :: .int a0 :: .ref i :: S) H Q := W.callV (c := 0) (S := S) (as := [.int a0, .int a1]) (rm' := rm') at_310 (List.mem_of_getElem? (i := 21) rfl) (List.mem_of_getElem? (i := 22) rfl) (List.mem_of_getElem? (i := 24) rfl) (Or.inl rfl) kt (List.mem_of_getElem? (i := 23) rfl) (List.mem_of_getElem? (i := 4) rfl) (List.mem_of_getElem? (i := 25) rfl) (by decide) rfl pd2 rfl rfl hH hM hr (fun _ _ q => by obtain ⟨rfl, rfl⟩ := q; exact h)
theorem s0_310q {rm : Room} {S : List Value} {H : AHeap} {Q : Option Value → AHeap → Prop} {l0 l1 l2 l3 l4 l5 l6 l7 l8 l9 l10 l11 l12 l13 l14 l15 : Slot} {rm' : Room} {Q' : Option Value → AHeap → Prop} {i : Nat} {vs : List Value} {a0 a1 : Value} (hH : H[i]? = some (.inl (0, vs))) (hM : M2 rm' [.ref i, a0, a1] H Q') (hr : rok rm rm' 3 S = true) (h : ∀ v H', Q' v H' → W0 (less rm rm') 313 [l0, l1, l2, l3, l4, l5, l6, l7, l8, l9, l10, l11, l12, l13, l14, l15] (v.toList ++ S) H' Q) : W0 rm 310 [l0, l1, l2, l3, l4, l5, l6, l7, l8, l9, l10, l11, l12, l13, l14, l15] (a1 :: a0 :: .ref i :: S) H Q := W.callV (c := 0) (S := S) (as := [a0, a1]) (rm' := rm') at_310 (List.mem_of_getElem? (i := 21) rfl) (List.mem_of_getElem? (i := 22) rfl) (List.mem_of_getElem? (i := 24) rfl) (Or.inl rfl) kt (List.mem_of_getElem? (i := 23) rfl) (List.mem_of_getElem? (i := 4) rfl) (List.mem_of_getElem? (i := 25) rfl) (by decide) rfl pd2 rfl rfl hH hM hr h
theorem s0_313 {rm : Room} {S : List Value} {H : AHeap} {Q : Option Value → AHeap → Prop} {l0 l1 l2 l3 l4 l5 l6 l7 l8 l9 l10 l11 l13 l14 l15 : Slot} {i : Nat} (h : W0 rm 315 [l0, l1, l2, l3, l4, l5, l6, l7, l8, l9, l10, l11, .val (.ref i), l13, l14, l15] (.ref i :: S) (H) Q) : W0 rm 313 [l0, l1, l2, l3, l4, l5, l6, l7, l8, l9, l10, l11, .val (.ref i), l13, l14, l15] (S) H Q := W.aload at_313 rfl rfl h
theorem s0_313n {rm : Room} {S : List Value} {H : AHeap} {Q : Option Value → AHeap → Prop} {l0 l1 l2 l3 l4 l5 l6 l7 l8 l9 l10 l11 l13 l14 l15 : Slot}  (h : W0 rm 315 [l0, l1, l2, l3, l4, l5, l6, l7, l8, l9, l10, l11, .val .null, l13, l14, l15] (.null :: S) (H) Q) : W0 rm 313 [l0, l1, l2, l3, l4, l5, l6, l7, l8, l9, l10, l11, .val .null, l13, l14, l15] (S) H Q := W.aload at_313 rfl rfl h
theorem s0_315 {rm : Room} {S : List Value} {H : AHeap} {Q : Option Value → AHeap → Prop} {l0 l1 l2 l3 l4 l5 l6 l7 l8 l9 l10 l11 l12 l13 l14 l15 : Slot}  (h : W0 rm 316 [l0, l1, l2, l3, l4, l5, l6, l7, l8, l9, l10, l11, l12, l13, l14, l15] (.int 1 :: S) (H) Q) : W0 rm 315 [l0, l1, l2, l3, l4, l5, l6, l7, l8, l9, l10, l11, l12, l13, l14, l15] (S) H Q := W.iconst' at_315 (by decide) h
theorem s0_316 {rm : Room} {S : List Value} {H : AHeap} {Q : Option Value → AHeap → Prop} {l0 l1 l2 l3 l4 l5 l6 l7 l8 l9 l10 l11 l12 l13 l14 l15 : Slot} {rm' : Room} {H' : AHeap} {i : Nat} {vs : List Value} {a0 : Int32} {r : Nat} (hH : H[i]? = some (.inl (0, vs))) (hM : M5 rm' [.ref i, .int a0] H (Is (some (.ref r)) H')) (hr : rok rm rm' 6 S = true) (h : W0 (less rm rm') 319 [l0, l1, l2, l3, l4, l5, l6, l7, l8, l9, l10, l11, l12, l13, l14, l15] (.ref r :: S) H' Q) : W0 rm 316 [l0, l1, l2, l3, l4, l5, l6, l7, l8, l9, l10, l11, l12, l13, l14, l15] (.int a0 :: .ref i :: S) H Q := W.callV (c := 0) (S := S) (as := [.int a0]) (rm' := rm') at_316 (List.mem_of_getElem? (i := 36) rfl) (List.mem_of_getElem? (i := 37) rfl) (List.mem_of_getElem? (i := 39) rfl) (Or.inl rfl) kt (List.mem_of_getElem? (i := 38) rfl) (List.mem_of_getElem? (i := 4) rfl) (List.mem_of_getElem? (i := 40) rfl) (by decide) rfl pd4 rfl rfl hH hM hr (fun _ _ q => by obtain ⟨rfl, rfl⟩ := q; exact h)
theorem s0_316q {rm : Room} {S : List Value} {H : AHeap} {Q : Option Value → AHeap → Prop} {l0 l1 l2 l3 l4 l5 l6 l7 l8 l9 l10 l11 l12 l13 l14 l15 : Slot} {rm' : Room} {Q' : Option Value → AHeap → Prop} {i : Nat} {vs : List Value} {a0 : Value} (hH : H[i]? = some (.inl (0, vs))) (hM : M5 rm' [.ref i, a0] H Q') (hr : rok rm rm' 6 S = true) (h : ∀ v H', Q' v H' → W0 (less rm rm') 319 [l0, l1, l2, l3, l4, l5, l6, l7, l8, l9, l10, l11, l12, l13, l14, l15] (v.toList ++ S) H' Q) : W0 rm 316 [l0, l1, l2, l3, l4, l5, l6, l7, l8, l9, l10, l11, l12, l13, l14, l15] (a0 :: .ref i :: S) H Q := W.callV (c := 0) (S := S) (as := [a0]) (rm' := rm') at_316 (List.mem_of_getElem? (i := 36) rfl) (List.mem_of_getElem? (i := 37) rfl) (List.mem_of_getElem? (i := 39) rfl) (Or.inl rfl) kt (List.mem_of_getElem? (i := 38) rfl) (List.mem_of_getElem? (i := 4) rfl) (List.mem_of_getElem? (i := 40) rfl) (by decide) rfl pd4 rfl rfl hH hM hr h
theorem s0_319 {rm : Room} {S : List Value} {H : AHeap} {Q : Option Value → AHeap → Prop} {l0 l1 l2 l3 l4 l5 l6 l7 l8 l9 l10 l11 l12 l13 l14 l15 : Slot} {i : Nat} (ho : one l14 = true) (h : W0 rm 321 [l0, l1, l2, l3, l4, l5, l6, l7, l8, l9, l10, l11, l12, l13, .val (.ref i), l15] (S) (H) Q) : W0 rm 319 [l0, l1, l2, l3, l4, l5, l6, l7, l8, l9, l10, l11, l12, l13, l14, l15] (.ref i :: S) H Q := W.astore at_319 rfl ho rfl h
theorem s0_321 {rm : Room} {S : List Value} {H : AHeap} {Q : Option Value → AHeap → Prop} {l0 l1 l2 l3 l4 l5 l6 l7 l8 l9 l10 l11 l13 l14 l15 : Slot} {i : Nat} (h : W0 rm 323 [l0, l1, l2, l3, l4, l5, l6, l7, l8, l9, l10, l11, .val (.ref i), l13, l14, l15] (.ref i :: S) (H) Q) : W0 rm 321 [l0, l1, l2, l3, l4, l5, l6, l7, l8, l9, l10, l11, .val (.ref i), l13, l14, l15] (S) H Q := W.aload at_321 rfl rfl h
theorem s0_321n {rm : Room} {S : List Value} {H : AHeap} {Q : Option Value → AHeap → Prop} {l0 l1 l2 l3 l4 l5 l6 l7 l8 l9 l10 l11 l13 l14 l15 : Slot}  (h : W0 rm 323 [l0, l1, l2, l3, l4, l5, l6, l7, l8, l9, l10, l11, .val .null, l13, l14, l15] (.null :: S) (H) Q) : W0 rm 321 [l0, l1, l2, l3, l4, l5, l6, l7, l8, l9, l10, l11, .val .null, l13, l14, l15] (S) H Q := W.aload at_321 rfl rfl h
theorem s0_323 {rm : Room} {S : List Value} {H : AHeap} {Q : Option Value → AHeap → Prop} {l0 l1 l2 l3 l4 l5 l6 l7 l8 l9 l10 l11 l12 l13 l14 l15 : Slot}  (h : W0 rm 324 [l0, l1, l2, l3, l4, l5, l6, l7, l8, l9, l10, l11, l12, l13, l14, l15] (.int 2 :: S) (H) Q) : W0 rm 323 [l0, l1, l2, l3, l4, l5, l6, l7, l8, l9, l10, l11, l12, l13, l14, l15] (S) H Q := W.iconst' at_323 (by decide) h
theorem s0_324 {rm : Room} {S : List Value} {H : AHeap} {Q : Option Value → AHeap → Prop} {l0 l1 l2 l3 l4 l5 l6 l7 l8 l9 l10 l11 l12 l13 l14 l15 : Slot} {rm' : Room} {H' : AHeap} {i : Nat} {vs : List Value} {a0 : Int32} {r : Nat} (hH : H[i]? = some (.inl (0, vs))) (hM : M5 rm' [.ref i, .int a0] H (Is (some (.ref r)) H')) (hr : rok rm rm' 6 S = true) (h : W0 (less rm rm') 327 [l0, l1, l2, l3, l4, l5, l6, l7, l8, l9, l10, l11, l12, l13, l14, l15] (.ref r :: S) H' Q) : W0 rm 324 [l0, l1, l2, l3, l4, l5, l6, l7, l8, l9, l10, l11, l12, l13, l14, l15] (.int a0 :: .ref i :: S) H Q := W.callV (c := 0) (S := S) (as := [.int a0]) (rm' := rm') at_324 (List.mem_of_getElem? (i := 36) rfl) (List.mem_of_getElem? (i := 37) rfl) (List.mem_of_getElem? (i := 39) rfl) (Or.inl rfl) kt (List.mem_of_getElem? (i := 38) rfl) (List.mem_of_getElem? (i := 4) rfl) (List.mem_of_getElem? (i := 40) rfl) (by decide) rfl pd4 rfl rfl hH hM hr (fun _ _ q => by obtain ⟨rfl, rfl⟩ := q; exact h)
theorem s0_324q {rm : Room} {S : List Value} {H : AHeap} {Q : Option Value → AHeap → Prop} {l0 l1 l2 l3 l4 l5 l6 l7 l8 l9 l10 l11 l12 l13 l14 l15 : Slot} {rm' : Room} {Q' : Option Value → AHeap → Prop} {i : Nat} {vs : List Value} {a0 : Value} (hH : H[i]? = some (.inl (0, vs))) (hM : M5 rm' [.ref i, a0] H Q') (hr : rok rm rm' 6 S = true) (h : ∀ v H', Q' v H' → W0 (less rm rm') 327 [l0, l1, l2, l3, l4, l5, l6, l7, l8, l9, l10, l11, l12, l13, l14, l15] (v.toList ++ S) H' Q) : W0 rm 324 [l0, l1, l2, l3, l4, l5, l6, l7, l8, l9, l10, l11, l12, l13, l14, l15] (a0 :: .ref i :: S) H Q := W.callV (c := 0) (S := S) (as := [a0]) (rm' := rm') at_324 (List.mem_of_getElem? (i := 36) rfl) (List.mem_of_getElem? (i := 37) rfl) (List.mem_of_getElem? (i := 39) rfl) (Or.inl rfl) kt (List.mem_of_getElem? (i := 38) rfl) (List.mem_of_getElem? (i := 4) rfl) (List.mem_of_getElem? (i := 40) rfl) (by decide) rfl pd4 rfl rfl hH hM hr h
theorem s0_327 {rm : Room} {S : List Value} {H : AHeap} {Q : Option Value → AHeap → Prop} {l0 l1 l2 l3 l4 l5 l6 l7 l8 l9 l10 l11 l12 l13 l14 l15 : Slot} {i : Nat} (ho : one l15 = true) (h : W0 rm 329 [l0, l1, l2, l3, l4, l5, l6, l7, l8, l9, l10, l11, l12, l13, l14, .val (.ref i)] (S) (H) Q) : W0 rm 327 [l0, l1, l2, l3, l4, l5, l6, l7, l8, l9, l10, l11, l12, l13, l14, l15] (.ref i :: S) H Q := W.astore at_327 rfl ho rfl h
theorem s0_329 {rm : Room} {S : List Value} {H : AHeap} {Q : Option Value → AHeap → Prop} {l0 l1 l2 l3 l4 l5 l6 l7 l8 l9 l10 l11 l12 l14 l15 : Slot} {x : Int32} (h : W0 rm 331 [l0, l1, l2, l3, l4, l5, l6, l7, l8, l9, l10, l11, l12, .val (.int x), l14, l15] (.int x :: S) (H) Q) : W0 rm 329 [l0, l1, l2, l3, l4, l5, l6, l7, l8, l9, l10, l11, l12, .val (.int x), l14, l15] (S) H Q := W.iload at_329 rfl h
theorem s0_331 {rm : Room} {S : List Value} {H : AHeap} {Q : Option Value → AHeap → Prop} {l0 l1 l2 l3 l4 l5 l6 l7 l8 l9 l10 l11 l12 l13 l14 l15 : Slot} {x : Int32} (h1 : x = 0 → W0 rm 365 [l0, l1, l2, l3, l4, l5, l6, l7, l8, l9, l10, l11, l12, l13, l14, l15] S H Q) (h2 : ¬ x = 0 → W0 rm 334 [l0, l1, l2, l3, l4, l5, l6, l7, l8, l9, l10, l11, l12, l13, l14, l15] S H Q) : W0 rm 331 [l0, l1, l2, l3, l4, l5, l6, l7, l8, l9, l10, l11, l12, l13, l14, l15] (.int x :: S) H Q := W.ifc at_331 (by decide) (by decide) h1 h2
theorem s0_334 {rm : Room} {S : List Value} {H : AHeap} {Q : Option Value → AHeap → Prop} {l0 l1 l2 l3 l4 l5 l6 l7 l8 l9 l10 l11 l12 l13 l15 : Slot} {i : Nat} (h : W0 rm 336 [l0, l1, l2, l3, l4, l5, l6, l7, l8, l9, l10, l11, l12, l13, .val (.ref i), l15] (.ref i :: S) (H) Q) : W0 rm 334 [l0, l1, l2, l3, l4, l5, l6, l7, l8, l9, l10, l11, l12, l13, .val (.ref i), l15] (S) H Q := W.aload at_334 rfl rfl h
theorem s0_334n {rm : Room} {S : List Value} {H : AHeap} {Q : Option Value → AHeap → Prop} {l0 l1 l2 l3 l4 l5 l6 l7 l8 l9 l10 l11 l12 l13 l15 : Slot}  (h : W0 rm 336 [l0, l1, l2, l3, l4, l5, l6, l7, l8, l9, l10, l11, l12, l13, .val .null, l15] (.null :: S) (H) Q) : W0 rm 334 [l0, l1, l2, l3, l4, l5, l6, l7, l8, l9, l10, l11, l12, l13, .val .null, l15] (S) H Q := W.aload at_334 rfl rfl h
theorem s0_336 {rm : Room} {S : List Value} {H : AHeap} {Q : Option Value → AHeap → Prop} {l0 l1 l2 l3 l4 l5 l6 l7 l8 l9 l11 l12 l13 l14 l15 : Slot} {i : Nat} (h : W0 rm 338 [l0, l1, l2, l3, l4, l5, l6, l7, l8, l9, .val (.ref i), l11, l12, l13, l14, l15] (.ref i :: S) (H) Q) : W0 rm 336 [l0, l1, l2, l3, l4, l5, l6, l7, l8, l9, .val (.ref i), l11, l12, l13, l14, l15] (S) H Q := W.aload at_336 rfl rfl h
theorem s0_336n {rm : Room} {S : List Value} {H : AHeap} {Q : Option Value → AHeap → Prop} {l0 l1 l2 l3 l4 l5 l6 l7 l8 l9 l11 l12 l13 l14 l15 : Slot}  (h : W0 rm 338 [l0, l1, l2, l3, l4, l5, l6, l7, l8, l9, .val .null, l11, l12, l13, l14, l15] (.null :: S) (H) Q) : W0 rm 336 [l0, l1, l2, l3, l4, l5, l6, l7, l8, l9, .val .null, l11, l12, l13, l14, l15] (S) H Q := W.aload at_336 rfl rfl h
theorem s0_338 {rm : Room} {S : List Value} {H : AHeap} {Q : Option Value → AHeap → Prop} {l0 l1 l2 l3 l4 l5 l6 l7 l8 l9 l10 l12 l13 l14 l15 : Slot} {x : Int32} (h : W0 rm 340 [l0, l1, l2, l3, l4, l5, l6, l7, l8, l9, l10, .val (.int x), l12, l13, l14, l15] (.int x :: S) (H) Q) : W0 rm 338 [l0, l1, l2, l3, l4, l5, l6, l7, l8, l9, l10, .val (.int x), l12, l13, l14, l15] (S) H Q := W.iload at_338 rfl h
theorem s0_340 {rm : Room} {S : List Value} {H : AHeap} {Q : Option Value → AHeap → Prop} {l0 l1 l2 l3 l4 l5 l6 l7 l8 l9 l10 l11 l12 l13 l14 l15 : Slot} {rm' : Room} {H' : AHeap} {a0 : Nat} {a1 : Nat} {a2 : Int32} {r : Int32} (hM : M6 rm' [.ref a0, .ref a1, .int a2] H (Is (some (.int r)) H')) (hr : rok rm rm' 3 S = true) (h : W0 (less rm rm') 343 [l0, l1, l2, l3, l4, l5, l6, l7, l8, l9, l10, l11, l12, l13, l14, l15] (.int r :: S) H' Q) : W0 rm 340 [l0, l1, l2, l3, l4, l5, l6, l7, l8, l9, l10, l11, l12, l13, l14, l15] (.int a2 :: .ref a1 :: .ref a0 :: S) H Q := W.callS (S := S) (as := [.ref a0, .ref a1, .int a2]) (rm' := rm') at_340 (List.mem_of_getElem? (i := 41) rfl) (List.mem_of_getElem? (i := 42) rfl) (List.mem_of_getElem? (i := 43) rfl) (List.mem_of_getElem? (i := 44) rfl) (by decide) pd5 rfl rfl hM hr (fun _ _ q => by obtain ⟨rfl, rfl⟩ := q; exact h)
theorem s0_340q {rm : Room} {S : List Value} {H : AHeap} {Q : Option Value → AHeap → Prop} {l0 l1 l2 l3 l4 l5 l6 l7 l8 l9 l10 l11 l12 l13 l14 l15 : Slot} {rm' : Room} {Q' : Option Value → AHeap → Prop} {a0 a1 a2 : Value} (hM : M6 rm' [a0, a1, a2] H Q') (hr : rok rm rm' 3 S = true) (h : ∀ v H', Q' v H' → W0 (less rm rm') 343 [l0, l1, l2, l3, l4, l5, l6, l7, l8, l9, l10, l11, l12, l13, l14, l15] (v.toList ++ S) H' Q) : W0 rm 340 [l0, l1, l2, l3, l4, l5, l6, l7, l8, l9, l10, l11, l12, l13, l14, l15] (a2 :: a1 :: a0 :: S) H Q := W.callS (S := S) (as := [a0, a1, a2]) (rm' := rm') at_340 (List.mem_of_getElem? (i := 41) rfl) (List.mem_of_getElem? (i := 42) rfl) (List.mem_of_getElem? (i := 43) rfl) (List.mem_of_getElem? (i := 44) rfl) (by decide) pd5 rfl rfl hM hr h
theorem s0_343 {rm : Room} {S : List Value} {H : AHeap} {Q : Option Value → AHeap → Prop} {l0 l1 l2 l3 l4 l5 l6 l7 l8 l9 l10 l11 l12 l13 l14 l15 : Slot} {x : Int32} (h1 : x = 0 → W0 rm 365 [l0, l1, l2, l3, l4, l5, l6, l7, l8, l9, l10, l11, l12, l13, l14, l15] S H Q) (h2 : ¬ x = 0 → W0 rm 346 [l0, l1, l2, l3, l4, l5, l6, l7, l8, l9, l10, l11, l12, l13, l14, l15] S H Q) : W0 rm 343 [l0, l1, l2, l3, l4, l5, l6, l7, l8, l9, l10, l11, l12, l13, l14, l15] (.int x :: S) H Q := W.ifc at_343 (by decide) (by decide) h1 h2
theorem s0_346 {rm : Room} {S : List Value} {H : AHeap} {Q : Option Value → AHeap → Prop} {l0 l1 l2 l3 l4 l5 l6 l7 l8 l9 l10 l11 l12 l13 l14 : Slot} {i : Nat} (h : W0 rm 348 [l0, l1, l2, l3, l4, l5, l6, l7, l8, l9, l10, l11, l12, l13, l14, .val (.ref i)] (.ref i :: S) (H) Q) : W0 rm 346 [l0, l1, l2, l3, l4, l5, l6, l7, l8, l9, l10, l11, l12, l13, l14, .val (.ref i)] (S) H Q := W.aload at_346 rfl rfl h
theorem s0_346n {rm : Room} {S : List Value} {H : AHeap} {Q : Option Value → AHeap → Prop} {l0 l1 l2 l3 l4 l5 l6 l7 l8 l9 l10 l11 l12 l13 l14 : Slot}  (h : W0 rm 348 [l0, l1, l2, l3, l4, l5, l6, l7, l8, l9, l10, l11, l12, l13, l14, .val .null] (.null :: S) (H) Q) : W0 rm 346 [l0, l1, l2, l3, l4, l5, l6, l7, l8, l9, l10, l11, l12, l13, l14, .val .null] (S) H Q := W.aload at_346 rfl rfl h
theorem s0_348 {rm : Room} {S : List Value} {H : AHeap} {Q : Option Value → AHeap → Prop} {l0 l1 l2 l3 l4 l5 l6 l7 l8 l9 l10 l11 l12 l13 l14 l15 : Slot} {i : Nat} {ty : FieldType} {vs : List Value} (hH : H[i]? = some (.inr (ty, vs))) (h : W0 rm 349 [l0, l1, l2, l3, l4, l5, l6, l7, l8, l9, l10, l11, l12, l13, l14, l15] (.int (Int32.ofNat vs.length) :: S) (H) Q) : W0 rm 348 [l0, l1, l2, l3, l4, l5, l6, l7, l8, l9, l10, l11, l12, l13, l14, l15] (.ref i :: S) H Q := W.arraylength at_348 hH h
theorem s0_348k {rm : Room} {S : List Value} {H : AHeap} {Q : Option Value → AHeap → Prop} {l0 l1 l2 l3 l4 l5 l6 l7 l8 l9 l10 l11 l12 l13 l14 l15 : Slot} {i : Nat} {ty : FieldType} {vs : List Value} (n : Int32) (hH : H[i]? = some (.inr (ty, vs))) (hn : Int32.ofNat vs.length = n) (h : W0 rm 349 [l0, l1, l2, l3, l4, l5, l6, l7, l8, l9, l10, l11, l12, l13, l14, l15] (.int n :: S) (H) Q) : W0 rm 348 [l0, l1, l2, l3, l4, l5, l6, l7, l8, l9, l10, l11, l12, l13, l14, l15] (.ref i :: S) H Q := W.arraylength at_348 hH (by rw [hn]; exact h)
theorem s0_349 {rm : Room} {S : List Value} {H : AHeap} {Q : Option Value → AHeap → Prop} {l0 l1 l2 l3 l4 l5 l6 l7 l8 l9 l10 l11 l12 l13 l14 l15 : Slot}  (h : W0 rm 350 [l0, l1, l2, l3, l4, l5, l6, l7, l8, l9, l10, l11, l12, l13, l14, l15] (.int 1 :: S) (H) Q) : W0 rm 349 [l0, l1, l2, l3, l4, l5, l6, l7, l8, l9, l10, l11, l12, l13, l14, l15] (S) H Q := W.iconst' at_349 (by decide) h
theorem s0_350 {rm : Room} {S : List Value} {H : AHeap} {Q : Option Value → AHeap → Prop} {l0 l1 l2 l3 l4 l5 l6 l7 l8 l9 l10 l11 l12 l13 l14 l15 : Slot} {x y : Int32} (h1 : ¬ x = y → W0 rm 365 [l0, l1, l2, l3, l4, l5, l6, l7, l8, l9, l10, l11, l12, l13, l14, l15] S H Q) (h2 : x = y → W0 rm 353 [l0, l1, l2, l3, l4, l5, l6, l7, l8, l9, l10, l11, l12, l13, l14, l15] S H Q) : W0 rm 350 [l0, l1, l2, l3, l4, l5, l6, l7, l8, l9, l10, l11, l12, l13, l14, l15] (.int y :: .int x :: S) H Q := W.icmp at_350 (by decide) (by decide) h1 h2
theorem s0_353 {rm : Room} {S : List Value} {H : AHeap} {Q : Option Value → AHeap → Prop} {l0 l1 l2 l3 l4 l5 l6 l7 l8 l9 l10 l11 l12 l13 l14 : Slot} {i : Nat} (h : W0 rm 355 [l0, l1, l2, l3, l4, l5, l6, l7, l8, l9, l10, l11, l12, l13, l14, .val (.ref i)] (.ref i :: S) (H) Q) : W0 rm 353 [l0, l1, l2, l3, l4, l5, l6, l7, l8, l9, l10, l11, l12, l13, l14, .val (.ref i)] (S) H Q := W.aload at_353 rfl rfl h
theorem s0_353n {rm : Room} {S : List Value} {H : AHeap} {Q : Option Value → AHeap → Prop} {l0 l1 l2 l3 l4 l5 l6 l7 l8 l9 l10 l11 l12 l13 l14 : Slot}  (h : W0 rm 355 [l0, l1, l2, l3, l4, l5, l6, l7, l8, l9, l10, l11, l12, l13, l14, .val .null] (.null :: S) (H) Q) : W0 rm 353 [l0, l1, l2, l3, l4, l5, l6, l7, l8, l9, l10, l11, l12, l13, l14, .val .null] (S) H Q := W.aload at_353 rfl rfl h
theorem s0_355 {rm : Room} {S : List Value} {H : AHeap} {Q : Option Value → AHeap → Prop} {l0 l1 l2 l3 l4 l5 l6 l7 l8 l9 l10 l11 l12 l13 l14 l15 : Slot}  (h : W0 rm 356 [l0, l1, l2, l3, l4, l5, l6, l7, l8, l9, l10, l11, l12, l13, l14, l15] (.int 0 :: S) (H) Q) : W0 rm 355 [l0, l1, l2, l3, l4, l5, l6, l7, l8, l9, l10, l11, l12, l13, l14, l15] (S) H Q := W.iconst' at_355 (by decide) h
theorem s0_356 {rm : Room} {S : List Value} {H : AHeap} {Q : Option Value → AHeap → Prop} {l0 l1 l2 l3 l4 l5 l6 l7 l8 l9 l10 l11 l12 l13 l14 l15 : Slot} {i : Nat} {j : Int32} {vs : List Value} {v : Value} (N : Nat) (hH : H[i]? = some (.inr (.int, vs))) (hj : ix j N) (hv : vs[N]? = some v) (h : W0 rm 357 [l0, l1, l2, l3, l4, l5, l6, l7, l8, l9, l10, l11, l12, l13, l14, l15] (v :: S) (H) Q) : W0 rm 356 [l0, l1, l2, l3, l4, l5, l6, l7, l8, l9, l10, l11, l12, l13, l14, l15] (.int j :: .ref i :: S) H Q := W.xaload (Or.inl ⟨rfl, rfl⟩) at_356 hH hj hv h
theorem s0_357 {rm : Room} {S : List Value} {H : AHeap} {Q : Option Value → AHeap → Prop} {l0 l1 l2 l3 l4 l5 l6 l7 l8 l9 l10 l11 l12 l13 l14 l15 : Slot}  (h : W0 rm 358 [l0, l1, l2, l3, l4, l5, l6, l7, l8, l9, l10, l11, l12, l13, l14, l15] (.int 4 :: S) (H) Q) : W0 rm 357 [l0, l1, l2, l3, l4, l5, l6, l7, l8, l9, l10, l11, l12, l13, l14, l15] (S) H Q := W.iconst' at_357 (by decide) h
theorem s0_358 {rm : Room} {S : List Value} {H : AHeap} {Q : Option Value → AHeap → Prop} {l0 l1 l2 l3 l4 l5 l6 l7 l8 l9 l10 l11 l12 l13 l14 l15 : Slot} {x y : Int32} (h1 : ¬ x = y → W0 rm 365 [l0, l1, l2, l3, l4, l5, l6, l7, l8, l9, l10, l11, l12, l13, l14, l15] S H Q) (h2 : x = y → W0 rm 361 [l0, l1, l2, l3, l4, l5, l6, l7, l8, l9, l10, l11, l12, l13, l14, l15] S H Q) : W0 rm 358 [l0, l1, l2, l3, l4, l5, l6, l7, l8, l9, l10, l11, l12, l13, l14, l15] (.int y :: .int x :: S) H Q := W.icmp at_358 (by decide) (by decide) h1 h2
theorem s0_361 {rm : Room} {S : List Value} {H : AHeap} {Q : Option Value → AHeap → Prop} {l0 l1 l2 l3 l4 l5 l6 l7 l8 l9 l10 l11 l12 l13 l14 l15 : Slot}  (h : W0 rm 362 [l0, l1, l2, l3, l4, l5, l6, l7, l8, l9, l10, l11, l12, l13, l14, l15] (.int 1 :: S) (H) Q) : W0 rm 361 [l0, l1, l2, l3, l4, l5, l6, l7, l8, l9, l10, l11, l12, l13, l14, l15] (S) H Q := W.iconst' at_361 (by decide) h
theorem s0_362 {rm : Room} {S : List Value} {H : AHeap} {Q : Option Value → AHeap → Prop} {l0 l1 l2 l3 l4 l5 l6 l7 l8 l9 l10 l11 l12 l13 l14 l15 : Slot}  (h : W0 rm 366 [l0, l1, l2, l3, l4, l5, l6, l7, l8, l9, l10, l11, l12, l13, l14, l15] (S) (H) Q) : W0 rm 362 [l0, l1, l2, l3, l4, l5, l6, l7, l8, l9, l10, l11, l12, l13, l14, l15] (S) H Q := W.goto at_362 (by decide) (by decide) h
theorem s0_365 {rm : Room} {S : List Value} {H : AHeap} {Q : Option Value → AHeap → Prop} {l0 l1 l2 l3 l4 l5 l6 l7 l8 l9 l10 l11 l12 l13 l14 l15 : Slot}  (h : W0 rm 366 [l0, l1, l2, l3, l4, l5, l6, l7, l8, l9, l10, l11, l12, l13, l14, l15] (.int 0 :: S) (H) Q) : W0 rm 365 [l0, l1, l2, l3, l4, l5, l6, l7, l8, l9, l10, l11, l12, l13, l14, l15] (S) H Q := W.iconst' at_365 (by decide) h
theorem s0_366 {rm : Room} {S : List Value} {H : AHeap} {Q : Option Value → AHeap → Prop} {l0 l1 l2 l3 l4 l5 l6 l7 l8 l9 l10 l11 l12 l13 l14 l15 : Slot} {x : Int32} (hQ : Q (some (.int (x &&& 1))) H) : W0 rm 366 [l0, l1, l2, l3, l4, l5, l6, l7, l8, l9, l10, l11, l12, l13, l14, l15] (.int x :: S) H Q := W.ireturnZ at_366 rfl hQ
theorem e1 {rm : Room} {H : AHeap} {Q : Option Value → AHeap → Prop} {a0 : Nat} {a1 : Int32} (h : W1 rm 0 [.val (.ref a0), .val (.int a1)] [] H Q) : M1 rm [.ref a0, .int a1] H Q := M.of pf1 rfl rfl h
theorem e1L {rm : Room} {H : AHeap} {Q : Option Value → AHeap → Prop} {L : List Slot} {as : List Value} (h : W1 rm 0 L [] H Q) (hl : ent as ++ List.replicate (2 - (ent as).length) .unset = L := by rfl) (hn : L.length = 2 := by rfl) : M1 rm as H Q := M.of pf1 hl hn h
theorem d1_0 : decode prog_20_method_1_code 0 = .ok (.aload_n 0, 1) := by decide +kernel
theorem s1_0 {rm : Room} {S : List Value} {H : AHeap} {Q : Option Value → AHeap → Prop} {l1 : Slot} {i : Nat} (h : W1 rm 1 [.val (.ref i), l1] (.ref i :: S) (H) Q) : W1 rm 0 [.val (.ref i), l1] (S) H Q := W.aload_n d1_0 rfl rfl h
theorem s1_0n {rm : Room} {S : List Value} {H : AHeap} {Q : Option Value → AHeap → Prop} {l1 : Slot}  (h : W1 rm 1 [.val .null, l1] (.null :: S) (H) Q) : W1 rm 0 [.val .null, l1] (S) H Q := W.aload_n d1_0 rfl rfl h
theorem d1_1 : decode prog_20_method_1_code 1 = .ok (.invokespecial 1, 3) := by decide +kernel
theorem s1_1 {rm : Room} {S : List Value} {H : AHeap} {Q : Option Value → AHeap → Prop} {l0 l1 : Slot} {i : Nat} (hr : iok rm S = true) (h : W1 rm 4 [l0, l1] (S) (H) Q) : W1 rm 1 [l0, l1] (.ref i :: S) H Q := W.initO d1_1 (List.mem_of_getElem? (i := 8) rfl) (List.mem_of_getElem? (i := 9) rfl) (List.mem_of_getElem? (i := 10) rfl) hr h
theorem d1_4 : decode prog_20_method_1_code 4 = .ok (.aload_n 0, 1) := by decide +kernel
theorem s1_4 {rm : Room} {S : List Value} {H : AHeap} {Q : Option Value → AHeap → Prop} {l1 : Slot} {i : Nat} (h : W1 rm 5 [.val (.ref i), l1] (.ref i :: S) (H) Q) : W1 rm 4 [.val (.ref i), l1] (S) H Q := W.aload_n d1_4 rfl rfl h
theorem s1_4n {rm : Room} {S : List Value} {H : AHeap} {Q : Option Value → AHeap → Prop} {l1 : Slot}  (h : W1 rm 5 [.val .null, l1] (.null :: S) (H) Q) : W1 rm 4 [.val .null, l1] (S) H Q := W.aload_n d1_4 rfl rfl h
theorem d1_5 : decode prog_20_method_1_code 5 = .ok (.bipush 16, 2) := by decide +kernel
theorem s1_5 {rm : Room} {S : List Value} {H : AHeap} {Q : Option Value → AHeap → Prop} {l0 l1 : Slot}  (h : W1 rm 7 [l0, l1] (.int 16 :: S) (H) Q) : W1 rm 5 [l0, l1] (S) H Q := W.bipush' d1_5 (by decide) h
theorem d1_7 : decode prog_20_method_1_code 7 = .ok (.newarray .int, 2) := by decide +kernel
theorem s1_7 {rm : Room} {S : List Value} {H : AHeap} {Q : Option Value → AHeap → Prop} {l0 l1 : Slot} {n : Int32} (i N : Nat) (hn : ix n N) (hi : H.length = i) (hr : nok rm N = true) (h : W1 ⟨rm.frames, rm.cells - 1, rm.slots - N, rm.locals⟩ 9 [l0, l1] (.ref i :: S) (H ++ [.inr (.int, List.replicate N (.int 0))]) Q) : W1 rm 7 [l0, l1] (.int n :: S) H Q := W.newarray (ty := .int) (d := .int 0) d1_7 rfl (List.mem_of_getElem? (i := 1) rfl) rfl hn hi hr h
theorem d1_9 : decode prog_20_method_1_code 9 = .ok (.putfield 9, 3) := by decide +kernel
theorem s1_9 {rm : Room} {S : List Value} {H : AHeap} {Q : Option Value → AHeap → Prop} {l0 l1 : Slot} {i : Nat} {f0 f1 f2 f3 f4 : Value} {x : Nat} (hH : H[i]? = some (.inl (0, [f0, f1, f2, f3, f4]))) (h : W1 rm 12 [l0, l1] (S) (H.set i (.inl (0, [.ref x, f1, f2, f3, f4]))) Q) : W1 rm 9 [l0, l1] (.ref x :: .ref i :: S) H Q := W.putF (c := 0) (j := 0) kt d1_9 (host := "") (Or.inl (List.mem_of_getElem? (i := 11) rfl)) (Or.inl rfl) rfl rfl (Or.inl (List.mem_of_getElem? (i := 12) rfl)) rfl rfl hH h
theorem d1_12 : decode prog_20_method_1_code 12 = .ok (.aload_n 0, 1) := by decide +kernel
theorem s1_12 {rm : Room} {S : List Value} {H : AHeap} {Q : Option Value → AHeap → Prop} {l1 : Slot} {i : Nat} (h : W1 rm 13 [.val (.ref i), l1] (.ref i :: S) (H) Q) : W1 rm 12 [.val (.ref i), l1] (S) H Q := W.aload_n d1_12 rfl rfl h
theorem s1_12n {rm : Room} {S : List Value} {H : AHeap} {Q : Option Value → AHeap → Prop} {l1 : Slot}  (h : W1 rm 13 [.val .null, l1] (.null :: S) (H) Q) : W1 rm 12 [.val .null, l1] (S) H Q := W.aload_n d1_12 rfl rfl h
theorem d1_13 : decode prog_20_method_1_code 13 = .ok (.bipush 16, 2) := by decide +kernel
theorem s1_13 {rm : Room} {S : List Value} {H : AHeap} {Q : Option Value → AHeap → Prop} {l0 l1 : Slot}  (h : W1 rm 15 [l0, l1] (.int 16 :: S) (H) Q) : W1 rm 13 [l0, l1] (S) H Q := W.bipush' d1_13 (by decide) h
theorem d1_15 : decode prog_20_method_1_code 15 = .ok (.newarray .int, 2) := by decide +kernel
theorem s1_15 {rm : Room} {S : List Value} {H : AHeap} {Q : Option Value → AHeap → Prop} {l0 l1 : Slot} {n : Int32} (i N : Nat) (hn : ix n N) (hi : H.length = i) (hr : nok rm N = true) (h : W1 ⟨rm.frames, rm.cells - 1, rm.slots - N, rm.locals⟩ 17 [l0, l1] (.ref i :: S) (H ++ [.inr (.int, List.replicate N (.int 0))]) Q) : W1 rm 15 [l0, l1] (.int n :: S) H Q := W.newarray (ty := .int) (d := .int 0) d1_15 rfl (List.mem_of_getElem? (i := 1) rfl) rfl hn hi hr h
theorem d1_17 : decode prog_20_method_1_code 17 = .ok (.putfield 13, 3) := by decide +kernel
theorem s1_17 {rm : Room} {S : List Value} {H : AHeap} {Q : Option Value → AHeap → Prop} {l0 l1 : Slot} {i : Nat} {f0 f1 f2 f3 f4 : Value} {x : Nat} (hH : H[i]? = some (.inl (0, [f0, f1, f2, f3, f4]))) (h : W1 rm 20 [l0, l1] (S) (H.set i (.inl (0, [f0, .ref x, f2, f3, f4]))) Q) : W1 rm 17 [l0, l1] (.ref x :: .ref i :: S) H Q := W.putF (c := 0) (j := 1) kt d1_17 (host := "") (Or.inl (List.mem_of_getElem? (i := 13) rfl)) (Or.inl rfl) rfl rfl (Or.inl (List.mem_of_getElem? (i := 14) rfl)) rfl rfl hH h
theorem d1_20 : decode prog_20_method_1_code 20 = .ok (.aload_n 0, 1) := by decide +kernel
theorem s1_20 {rm : Room} {S : List Value} {H : AHeap} {Q : Option Value → AHeap → Prop} {l1 : Slot} {i : Nat} (h : W1 rm 21 [.val (.ref i), l1] (.ref i :: S) (H) Q) : W1 rm 20 [.val (.ref i), l1] (S) H Q := W.aload_n d1_20 rfl rfl h
theorem s1_20n {rm : Room} {S : List Value} {H : AHeap} {Q : Option Value → AHeap → Prop} {l1 : Slot}  (h : W1 rm 21 [.val .null, l1] (.null :: S) (H) Q) : W1 rm 20 [.val .null, l1] (S) H Q := W.aload_n d1_20 rfl rfl h
theorem d1_21 : decode prog_20_method_1_code 21 = .ok (.iload_n 1, 1) := by decide +kernel
theorem s1_21 {rm : Room} {S : List Value} {H : AHeap} {Q : Option Value → AHeap → Prop} {l0 : Slot} {x : Int32} (h : W1 rm 22 [l0, .val (.int x)] (.int x :: S) (H) Q) : W1 rm 21 [l0, .val (.int x)] (S) H Q := W.iload_n d1_21 rfl h
theorem d1_22 : decode prog_20_method_1_code 22 = .ok (.iconst 1, 1) := by decide +kernel
theorem s1_22 {rm : Room} {S : List Value} {H : AHeap} {Q : Option Value → AHeap → Prop} {l0 l1 : Slot}  (h : W1 rm 23 [l0, l1] (.int 1 :: S) (H) Q) : W1 rm 22 [l0, l1] (S) H Q := W.iconst' d1_22 (by decide) h
theorem d1_23 : decode prog_20_method_1_code 23 = .ok (.iadd, 1) := by decide +kernel
theorem s1_23 {rm : Room} {S : List Value} {H : AHeap} {Q : Option Value → AHeap → Prop} {l0 l1 : Slot} {x y : Int32} (h : W1 rm 24 [l0, l1] (.int (x + y) :: S) (H) Q) : W1 rm 23 [l0, l1] (.int y :: .int x :: S) H Q := W.iadd d1_23 h
theorem d1_24 : decode prog_20_method_1_code 24 = .ok (.newarray .int, 2) := by decide +kernel
theorem s1_24 {rm : Room} {S : List Value} {H : AHeap} {Q : Option Value → AHeap → Prop} {l0 l1 : Slot} {n : Int32} (i N : Nat) (hn : ix n N) (hi : H.length = i) (hr : nok rm N = true) (h : W1 ⟨rm.frames, rm.cells - 1, rm.slots - N, rm.locals⟩ 26 [l0, l1] (.ref i :: S) (H ++ [.inr (.int, List.replicate N (.int 0))]) Q) : W1 rm 24 [l0, l1] (.int n :: S) H Q := W.newarray (ty := .int) (d := .int 0) d1_24 rfl (List.mem_of_getElem? (i := 1) rfl) rfl hn hi hr h
theorem d1_26 : decode prog_20_method_1_code 26 = .ok (.putfield 16, 3) := by decide +kernel
theorem s1_26 {rm : Room} {S : List Value} {H : AHeap} {Q : Option Value → AHeap → Prop} {l0 l1 : Slot} {i : Nat} {f0 f1 f2 f3 f4 : Value} {x : Nat} (hH : H[i]? = some (.inl (0, [f0, f1, f2, f3, f4]))) (h : W1 rm 29 [l0, l1] (S) (H.set i (.inl (0, [f0, f1, .ref x, f3, f4]))) Q) : W1 rm 26 [l0, l1] (.ref x :: .ref i :: S) H Q := W.putF (c := 0) (j := 2) kt d1_26 (host := "") (Or.inl (List.mem_of_getElem? (i := 15) rfl)) (Or.inl rfl) rfl rfl (Or.inr ⟨(List.mem_of_getElem? (i := 16) rfl), rfl, rfl⟩) rfl rfl hH h
theorem d1_29 : decode prog_20_method_1_code 29 = .ok (.aload_n 0, 1) := by decide +kernel
theorem s1_29 {rm : Room} {S : List Value} {H : AHeap} {Q : Option Value → AHeap → Prop} {l1 : Slot} {i : Nat} (h : W1 rm 30 [.val (.ref i), l1] (.ref i :: S) (H) Q) : W1 rm 29 [.val (.ref i), l1] (S) H Q := W.aload_n d1_29 rfl rfl h
theorem s1_29n {rm : Room} {S : List Value} {H : AHeap} {Q : Option Value → AHeap → Prop} {l1 : Slot}  (h : W1 rm 30 [.val .null, l1] (.null :: S) (H) Q) : W1 rm 29 [.val .null, l1] (S) H Q := W.aload_n d1_29 rfl rfl h
theorem d1_30 : decode prog_20_method_1_code 30 = .ok (.iload_n 1, 1) := by decide +kernel
theorem s1_30 {rm : Room} {S : List Value} {H : AHeap} {Q : Option Value → AHeap → Prop} {l0 : Slot} {x : Int32} (h : W1 rm 31 [l0, .val (.int x)] (.int x :: S) (H) Q) : W1 rm 30 [l0, .val (.int x)] (S) H Q := W.iload_n d1_30 rfl h
theorem d1_31 : decode prog_20_method_1_code 31 = .ok (.iconst 1, 1) := by decide +kernel
theorem s1_31 {rm : Room} {S : List Value} {H : AHeap} {Q : Option Value → AHeap → Prop} {l0 l1 : Slot}  (h : W1 rm 32 [l0, l1] (.int 1 :: S) (H) Q) : W1 rm 31 [l0, l1] (S) H Q := W.iconst' d1_31 (by decide) h
theorem d1_32 : decode prog_20_method_1_code 32 = .ok (.iadd, 1) := by decide +kernel
theorem s1_32 {rm : Room} {S : List Value} {H : AHeap} {Q : Option Value → AHeap → Prop} {l0 l1 : Slot} {x y : Int32} (h : W1 rm 33 [l0, l1] (.int (x + y) :: S) (H) Q) : W1 rm 32 [l0, l1] (.int y :: .int x :: S) H Q := W.iadd d1_32 h
theorem d1_33 : decode prog_20_method_1_code 33 = .ok (.newarray .int, 2) := by decide +kernel
theorem s1_33 {rm : Room} {S : List Value} {H : AHeap} {Q : Option Value → AHeap → Prop} {l0 l1 : Slot} {n : Int32} (i N : Nat) (hn : ix n N) (hi : H.length = i) (hr : nok rm N = true) (h : W1 ⟨rm.frames, rm.cells - 1, rm.slots - N, rm.locals⟩ 35 [l0, l1] (.ref i :: S) (H ++ [.inr (.int, List.replicate N (.int 0))]) Q) : W1 rm 33 [l0, l1] (.int n :: S) H Q := W.newarray (ty := .int) (d := .int 0) d1_33 rfl (List.mem_of_getElem? (i := 1) rfl) rfl hn hi hr h
theorem d1_35 : decode prog_20_method_1_code 35 = .ok (.putfield 19, 3) := by decide +kernel
theorem s1_35 {rm : Room} {S : List Value} {H : AHeap} {Q : Option Value → AHeap → Prop} {l0 l1 : Slot} {i : Nat} {f0 f1 f2 f3 f4 : Value} {x : Nat} (hH : H[i]? = some (.inl (0, [f0, f1, f2, f3, f4]))) (h : W1 rm 38 [l0, l1] (S) (H.set i (.inl (0, [f0, f1, f2, .ref x, f4]))) Q) : W1 rm 35 [l0, l1] (.ref x :: .ref i :: S) H Q := W.putF (c := 0) (j := 3) kt d1_35 (host := "") (Or.inl (List.mem_of_getElem? (i := 17) rfl)) (Or.inl rfl) rfl rfl (Or.inr ⟨(List.mem_of_getElem? (i := 18) rfl), rfl, rfl⟩) rfl rfl hH h
theorem d1_38 : decode prog_20_method_1_code 38 = .ok (.aload_n 0, 1) := by decide +kernel
theorem s1_38 {rm : Room} {S : List Value} {H : AHeap} {Q : Option Value → AHeap → Prop} {l1 : Slot} {i : Nat} (h : W1 rm 39 [.val (.ref i), l1] (.ref i :: S) (H) Q) : W1 rm 38 [.val (.ref i), l1] (S) H Q := W.aload_n d1_38 rfl rfl h
theorem s1_38n {rm : Room} {S : List Value} {H : AHeap} {Q : Option Value → AHeap → Prop} {l1 : Slot}  (h : W1 rm 39 [.val .null, l1] (.null :: S) (H) Q) : W1 rm 38 [.val .null, l1] (S) H Q := W.aload_n d1_38 rfl rfl h
theorem d1_39 : decode prog_20_method_1_code 39 = .ok (.iload_n 1, 1) := by decide +kernel
theorem s1_39 {rm : Room} {S : List Value} {H : AHeap} {Q : Option Value → AHeap → Prop} {l0 : Slot} {x : Int32} (h : W1 rm 40 [l0, .val (.int x)] (.int x :: S) (H) Q) : W1 rm 39 [l0, .val (.int x)] (S) H Q := W.iload_n d1_39 rfl h
theorem d1_40 : decode prog_20_method_1_code 40 = .ok (.iconst 1, 1) := by decide +kernel
theorem s1_40 {rm : Room} {S : List Value} {H : AHeap} {Q : Option Value → AHeap → Prop} {l0 l1 : Slot}  (h : W1 rm 41 [l0, l1] (.int 1 :: S) (H) Q) : W1 rm 40 [l0, l1] (S) H Q := W.iconst' d1_40 (by decide) h
theorem d1_41 : decode prog_20_method_1_code 41 = .ok (.iadd, 1) := by decide +kernel
theorem s1_41 {rm : Room} {S : List Value} {H : AHeap} {Q : Option Value → AHeap → Prop} {l0 l1 : Slot} {x y : Int32} (h : W1 rm 42 [l0, l1] (.int (x + y) :: S) (H) Q) : W1 rm 41 [l0, l1] (.int y :: .int x :: S) H Q := W.iadd d1_41 h
theorem d1_42 : decode prog_20_method_1_code 42 = .ok (.newarray .int, 2) := by decide +kernel
theorem s1_42 {rm : Room} {S : List Value} {H : AHeap} {Q : Option Value → AHeap → Prop} {l0 l1 : Slot} {n : Int32} (i N : Nat) (hn : ix n N) (hi : H.length = i) (hr : nok rm N = true) (h : W1 ⟨rm.frames, rm.cells - 1, rm.slots - N, rm.locals⟩ 44 [l0, l1] (.ref i :: S) (H ++ [.inr (.int, List.replicate N (.int 0))]) Q) : W1 rm 42 [l0, l1] (.int n :: S) H Q := W.newarray (ty := .int) (d := .int 0) d1_42 rfl (List.mem_of_getElem? (i := 1) rfl) rfl hn hi hr h
theorem d1_44 : decode prog_20_method_1_code 44 = .ok (.putfield 22, 3) := by decide +kernel
theorem s1_44 {rm : Room} {S : List Value} {H : AHeap} {Q : Option Value → AHeap → Prop} {l0 l1 : Slot} {i : Nat} {f0 f1 f2 f3 f4 : Value} {x : Nat} (hH : H[i]? = some (.inl (0, [f0, f1, f2, f3, f4]))) (h : W1 rm 47 [l0, l1] (S) (H.set i (.inl (0, [f0, f1, f2, f3, .ref x]))) Q) : W1 rm 44 [l0, l1] (.ref x :: .ref i :: S) H Q := W.putF (c := 0) (j := 4) kt d1_44 (host := "") (Or.inl (List.mem_of_getElem? (i := 19) rfl)) (Or.inl rfl) rfl rfl (Or.inr ⟨(List.mem_of_getElem? (i := 20) rfl), rfl, rfl⟩) rfl rfl hH h
theorem d1_47 : decode prog_20_method_1_code 47 = .ok (.return_, 1) := by decide +kernel
theorem s1_47 {rm : Room} {H : AHeap} {Q : Option Value → AHeap → Prop} {l0 l1 : Slot} (hQ : Q none H) : W1 rm 47 [l0, l1] [] H Q := W.ret_ d1_47 rfl hQ
theorem e2 {rm : Room} {H : AHeap} {Q : Option Value → AHeap → Prop} {a0 : Nat} {a1 : Int32} {a2 : Int32} (h : W2 rm 0 [.val (.ref a0), .val (.int a1), .val (.int a2)] [] H Q) : M2 rm [.ref a0, .int a1, .int a2] H Q := M.of pf2 rfl rfl h
theorem e2L {rm : Room} {H : AHeap} {Q : Option Value → AHeap → Prop} {L : List Slot} {as : List Value} (h : W2 rm 0 L [] H Q) (hl : ent as ++ List.replicate (3 - (ent as).length) .unset = L := by rfl) (hn : L.length = 3 := by rfl) : M2 rm as H Q := M.of pf2 hl hn h
theorem d2_0 : decode prog_20_method_3_code 0 = .ok (.iload_n 2, 1) := by decide +kernel
theorem s2_0 {rm : Room} {S : List Value} {H : AHeap} {Q : Option Value → AHeap → Prop} {l0 l1 : Slot} {x : Int32} (h : W2 rm 1 [l0, l1, .val (.int x)] (.int x :: S) (H) Q) : W2 rm 0 [l0, l1, .val (.int x)] (S) H Q := W.iload_n d2_0 rfl h
theorem d2_1 : decode prog_20_method_3_code 1 = .ok (.aload_n 0, 1) := by decide +kernel
theorem s2_1 {rm : Room} {S : List Value} {H : AHeap} {Q : Option Value → AHeap → Prop} {l1 l2 : Slot} {i : Nat} (h : W2 rm 2 [.val (.ref i), l1, l2] (.ref i :: S) (H) Q) : W2 rm 1 [.val (.ref i), l1, l2] (S) H Q := W.aload_n d2_1 rfl rfl h
theorem s2_1n {rm : Room} {S : List Value} {H : AHeap} {Q : Option Value → AHeap → Prop} {l1 l2 : Slot}  (h : W2 rm 2 [.val .null, l1, l2] (.null :: S) (H) Q) : W2 rm 1 [.val .null, l1, l2] (S) H Q := W.aload_n d2_1 rfl rfl h
theorem d2_2 : decode prog_20_method_3_code 2 = .ok (.getfield 9, 3) := by decide +kernel
theorem s2_2 {rm : Room} {S : List Value} {H : AHeap} {Q : Option Value → AHeap → Prop} {l0 l1 l2 : Slot} {i : Nat} {f0 f1 f2 f3 f4 : Value} (hH : H[i]? = some (.inl (0, [f0, f1, f2, f3, f4]))) (h : W2 rm 5 [l0, l1, l2] (f0 :: S) (H) Q) : W2 rm 2 [l0, l1, l2] (.ref i :: S) H Q := W.getF (c := 0) (j := 0) d2_2 (host := "") (Or.inl (List.mem_of_getElem? (i := 11) rfl)) (Or.inl rfl) rfl rfl hH rfl h
theorem d2_5 : decode prog_20_method_3_code 5 = .ok (.arraylength, 1) := by decide +kernel
theorem s2_5 {rm : Room} {S : List Value} {H : AHeap} {Q : Option Value → AHeap → Prop} {l0 l1 l2 : Slot} {i : Nat} {ty : FieldType} {vs : List Value} (hH : H[i]? = some (.inr (ty, vs))) (h : W2 rm 6 [l0, l1, l2] (.int (Int32.ofNat vs.length) :: S) (H) Q) : W2 rm 5 [l0, l1, l2] (.ref i :: S) H Q := W.arraylength d2_5 hH h
theorem s2_5k {rm : Room} {S : List Value} {H : AHeap} {Q : Option Value → AHeap → Prop} {l0 l1 l2 : Slot} {i : Nat} {ty : FieldType} {vs : List Value} (n : Int32) (hH : H[i]? = some (.inr (ty, vs))) (hn : Int32.ofNat vs.length = n) (h : W2 rm 6 [l0, l1, l2] (.int n :: S) (H) Q) : W2 rm 5 [l0, l1, l2] (.ref i :: S) H Q := W.arraylength d2_5 hH (by rw [hn]; exact h)
theorem d2_6 : decode prog_20_method_3_code 6 = .ok (.if_icmp .ne 39, 3) := by decide +kernel
theorem s2_6 {rm : Room} {S : List Value} {H : AHeap} {Q : Option Value → AHeap → Prop} {l0 l1 l2 : Slot} {x y : Int32} (h1 : ¬ x = y → W2 rm 45 [l0, l1, l2] S H Q) (h2 : x = y → W2 rm 9 [l0, l1, l2] S H Q) : W2 rm 6 [l0, l1, l2] (.int y :: .int x :: S) H Q := W.icmp d2_6 (by decide) (by decide) h1 h2
theorem d2_9 : decode prog_20_method_3_code 9 = .ok (.aload_n 0, 1) := by decide +kernel
theorem s2_9 {rm : Room} {S : List Value} {H : AHeap} {Q : Option Value → AHeap → Prop} {l1 l2 : Slot} {i : Nat} (h : W2 rm 10 [.val (.ref i), l1, l2] (.ref i :: S) (H) Q) : W2 rm 9 [.val (.ref i), l1, l2] (S) H Q := W.aload_n d2_9 rfl rfl h
theorem s2_9n {rm : Room} {S : List Value} {H : AHeap} {Q : Option Value → AHeap → Prop} {l1 l2 : Slot}  (h : W2 rm 10 [.val .null, l1, l2] (.null :: S) (H) Q) : W2 rm 9 [.val .null, l1, l2] (S) H Q := W.aload_n d2_9 rfl rfl h
theorem d2_10 : decode prog_20_method_3_code 10 = .ok (.aload_n 0, 1) := by decide +kernel
theorem s2_10 {rm : Room} {S : List Value} {H : AHeap} {Q : Option Value → AHeap → Prop} {l1 l2 : Slot} {i : Nat} (h : W2 rm 11 [.val (.ref i), l1, l2] (.ref i :: S) (H) Q) : W2 rm 10 [.val (.ref i), l1, l2] (S) H Q := W.aload_n d2_10 rfl rfl h
theorem s2_10n {rm : Room} {S : List Value} {H : AHeap} {Q : Option Value → AHeap → Prop} {l1 l2 : Slot}  (h : W2 rm 11 [.val .null, l1, l2] (.null :: S) (H) Q) : W2 rm 10 [.val .null, l1, l2] (S) H Q := W.aload_n d2_10 rfl rfl h
theorem d2_11 : decode prog_20_method_3_code 11 = .ok (.getfield 9, 3) := by decide +kernel
theorem s2_11 {rm : Room} {S : List Value} {H : AHeap} {Q : Option Value → AHeap → Prop} {l0 l1 l2 : Slot} {i : Nat} {f0 f1 f2 f3 f4 : Value} (hH : H[i]? = some (.inl (0, [f0, f1, f2, f3, f4]))) (h : W2 rm 14 [l0, l1, l2] (f0 :: S) (H) Q) : W2 rm 11 [l0, l1, l2] (.ref i :: S) H Q := W.getF (c := 0) (j := 0) d2_11 (host := "") (Or.inl (List.mem_of_getElem? (i := 11) rfl)) (Or.inl rfl) rfl rfl hH rfl h
theorem d2_14 : decode prog_20_method_3_code 14 = .ok (.iconst 2, 1) := by decide +kernel
theorem s2_14 {rm : Room} {S : List Value} {H : AHeap} {Q : Option Value → AHeap → Prop} {l0 l1 l2 : Slot}  (h : W2 rm 15 [l0, l1, l2] (.int 2 :: S) (H) Q) : W2 rm 14 [l0, l1, l2] (S) H Q := W.iconst' d2_14 (by decide) h
theorem d2_15 : decode prog_20_method_3_code 15 = .ok (.aload_n 0, 1) := by decide +kernel
theorem s2_15 {rm : Room} {S : List Value} {H : AHeap} {Q : Option Value → AHeap → Prop} {l1 l2 : Slot} {i : Nat} (h : W2 rm 16 [.val (.ref i), l1, l2] (.ref i :: S) (H) Q) : W2 rm 15 [.val (.ref i), l1, l2] (S) H Q := W.aload_n d2_15 rfl rfl h
theorem s2_15n {rm : Room} {S : List Value} {H : AHeap} {Q : Option Value → AHeap → Prop} {l1 l2 : Slot}  (h : W2 rm 16 [.val .null, l1, l2] (.null :: S) (H) Q) : W2 rm 15 [.val .null, l1, l2] (S) H Q := W.aload_n d2_15 rfl rfl h
theorem d2_16 : decode prog_20_method_3_code 16 = .ok (.getfield 9, 3) := by decide +kernel
theorem s2_16 {rm : Room} {S : List Value} {H : AHeap} {Q : Option Value → AHeap → Prop} {l0 l1 l2 : Slot} {i : Nat} {f0 f1 f2 f3 f4 : Value} (hH : H[i]? = some (.inl (0, [f0, f1, f2, f3, f4]))) (h : W2 rm 19 [l0, l1, l2] (f0 :: S) (H) Q) : W2 rm 16 [l0, l1, l2] (.ref i :: S) H Q := W.getF (c := 0) (j := 0) d2_16 (host := "") (Or.inl (List.mem_of_getElem? (i := 11) rfl)) (Or.inl rfl) rfl rfl hH rfl h
theorem d2_19 : decode prog_20_method_3_code 19 = .ok (.arraylength, 1) := by decide +kernel
theorem s2_19 {rm : Room} {S : List Value} {H : AHeap} {Q : Option Value → AHeap → Prop} {l0 l1 l2 : Slot} {i : Nat} {ty : FieldType} {vs : List Value} (hH : H[i]? = some (.inr (ty, vs))) (h : W2 rm 20 [l0, l1, l2] (.int (Int32.ofNat vs.length) :: S) (H) Q) : W2 rm 19 [l0, l1, l2] (.ref i :: S) H Q := W.arraylength d2_19 hH h
theorem s2_19k {rm : Room} {S : List Value} {H : AHeap} {Q : Option Value → AHeap → Prop} {l0 l1 l2 : Slot} {i : Nat} {ty : FieldType} {vs : List Value} (n : Int32) (hH : H[i]? = some (.inr (ty, vs))) (hn : Int32.ofNat vs.length = n) (h : W2 rm 20 [l0, l1, l2] (.int n :: S) (H) Q) : W2 rm 19 [l0, l1, l2] (.ref i :: S) H Q := W.arraylength d2_19 hH (by rw [hn]; exact h)
theorem d2_20 : decode prog_20_method_3_code 20 = .ok (.imul, 1) := by decide +kernel
theorem s2_20 {rm : Room} {S : List Value} {H : AHeap} {Q : Option Value → AHeap → Prop} {l0 l1 l2 : Slot} {x y : Int32} (h : W2 rm 21 [l0, l1, l2] (.int (x * y) :: S) (H) Q) : W2 rm 20 [l0, l1, l2] (.int y :: .int x :: S) H Q := W.imul d2_20 h
theorem d2_21 : decode prog_20_method_3_code 21 = .ok (.invokestatic 25, 3) := by decide +kernel
theorem d2_24 : decode prog_20_method_3_code 24 = .ok (.putfield 9, 3) := by decide +kernel
theorem s2_24 {rm : Room} {S : List Value} {H : AHeap} {Q : Option Value → AHeap → Prop} {l0 l1 l2 : Slot} {i : Nat} {f0 f1 f2 f3 f4 : Value} {x : Nat} (hH : H[i]? = some (.inl (0, [f0, f1, f2, f3, f4]))) (h : W2 rm 27 [l0, l1, l2] (S) (H.set i (.inl (0, [.ref x, f1, f2, f3, f4]))) Q) : W2 rm 24 [l0, l1, l2] (.ref x :: .ref i :: S) H Q := W.putF (c := 0) (j := 0) kt d2_24 (host := "") (Or.inl (List.mem_of_getElem? (i := 11) rfl)) (Or.inl rfl) rfl rfl (Or.inl (List.mem_of_getElem? (i := 12) rfl)) rfl rfl hH h
theorem d2_27 : decode prog_20_method_3_code 27 = .ok (.aload_n 0, 1) := by decide +kernel
theorem s2_27 {rm : Room} {S : List Value} {H : AHeap} {Q : Option Value → AHeap → Prop} {l1 l2 : Slot} {i : Nat} (h : W2 rm 28 [.val (.ref i), l1, l2] (.ref i :: S) (H) Q) : W2 rm 27 [.val (.ref i), l1, l2] (S) H Q := W.aload_n d2_27 rfl rfl h
theorem s2_27n {rm : Room} {S : List Value} {H : AHeap} {Q : Option Value → AHeap → Prop} {l1 l2 : Slot}  (h : W2 rm 28 [.val .null, l1, l2] (.null :: S) (H) Q) : W2 rm 27 [.val .null, l1, l2] (S) H Q := W.aload_n d2_27 rfl rfl h
theorem d2_28 : decode prog_20_method_3_code 28 = .ok (.aload_n 0, 1) := by decide +kernel
theorem s2_28 {rm : Room} {S : List Value} {H : AHeap} {Q : Option Value → AHeap → Prop} {l1 l2 : Slot} {i : Nat} (h : W2 rm 29 [.val (.ref i), l1, l2] (.ref i :: S) (H) Q) : W2 rm 28 [.val (.ref i), l1, l2] (S) H Q := W.aload_n d2_28 rfl rfl h
theorem s2_28n {rm : Room} {S : List Value} {H : AHeap} {Q : Option Value → AHeap → Prop} {l1 l2 : Slot}  (h : W2 rm 29 [.val .null, l1, l2] (.null :: S) (H) Q) : W2 rm 28 [.val .null, l1, l2] (S) H Q := W.aload_n d2_28 rfl rfl h
theorem d2_29 : decode prog_20_method_3_code 29 = .ok (.getfield 13, 3) := by decide +kernel
theorem s2_29 {rm : Room} {S : List Value} {H : AHeap} {Q : Option Value → AHeap → Prop} {l0 l1 l2 : Slot} {i : Nat} {f0 f1 f2 f3 f4 : Value} (hH : H[i]? = some (.inl (0, [f0, f1, f2, f3, f4]))) (h : W2 rm 32 [l0, l1, l2] (f1 :: S) (H) Q) : W2 rm 29 [l0, l1, l2] (.ref i :: S) H Q := W.getF (c := 0) (j := 1) d2_29 (host := "") (Or.inl (List.mem_of_getElem? (i := 13) rfl)) (Or.inl rfl) rfl rfl hH rfl h
theorem d2_32 : decode prog_20_method_3_code 32 = .ok (.iconst 2, 1) := by decide +kernel
theorem s2_32 {rm : Room} {S : List Value} {H : AHeap} {Q : Option Value → AHeap → Prop} {l0 l1 l2 : Slot}  (h : W2 rm 33 [l0, l1, l2] (.int 2 :: S) (H) Q) : W2 rm 32 [l0, l1, l2] (S) H Q := W.iconst' d2_32 (by decide) h
theorem d2_33 : decode prog_20_method_3_code 33 = .ok (.aload_n 0, 1) := by decide +kernel
theorem s2_33 {rm : Room} {S : List Value} {H : AHeap} {Q : Option Value → AHeap → Prop} {l1 l2 : Slot} {i : Nat} (h : W2 rm 34 [.val (.ref i), l1, l2] (.ref i :: S) (H) Q) : W2 rm 33 [.val (.ref i), l1, l2] (S) H Q := W.aload_n d2_33 rfl rfl h
theorem s2_33n {rm : Room} {S : List Value} {H : AHeap} {Q : Option Value → AHeap → Prop} {l1 l2 : Slot}  (h : W2 rm 34 [.val .null, l1, l2] (.null :: S) (H) Q) : W2 rm 33 [.val .null, l1, l2] (S) H Q := W.aload_n d2_33 rfl rfl h
theorem d2_34 : decode prog_20_method_3_code 34 = .ok (.getfield 13, 3) := by decide +kernel
theorem s2_34 {rm : Room} {S : List Value} {H : AHeap} {Q : Option Value → AHeap → Prop} {l0 l1 l2 : Slot} {i : Nat} {f0 f1 f2 f3 f4 : Value} (hH : H[i]? = some (.inl (0, [f0, f1, f2, f3, f4]))) (h : W2 rm 37 [l0, l1, l2] (f1 :: S) (H) Q) : W2 rm 34 [l0, l1, l2] (.ref i :: S) H Q := W.getF (c := 0) (j := 1) d2_34 (host := "") (Or.inl (List.mem_of_getElem? (i := 13) rfl)) (Or.inl rfl) rfl rfl hH rfl h
theorem d2_37 : decode prog_20_method_3_code 37 = .ok (.arraylength, 1) := by decide +kernel
theorem s2_37 {rm : Room} {S : List Value} {H : AHeap} {Q : Option Value → AHeap → Prop} {l0 l1 l2 : Slot} {i : Nat} {ty : FieldType} {vs : List Value} (hH : H[i]? = some (.inr (ty, vs))) (h : W2 rm 38 [l0, l1, l2] (.int (Int32.ofNat vs.length) :: S) (H) Q) : W2 rm 37 [l0, l1, l2] (.ref i :: S) H Q := W.arraylength d2_37 hH h
theorem s2_37k {rm : Room} {S : List Value} {H : AHeap} {Q : Option Value → AHeap → Prop} {l0 l1 l2 : Slot} {i : Nat} {ty : FieldType} {vs : List Value} (n : Int32) (hH : H[i]? = some (.inr (ty, vs))) (hn : Int32.ofNat vs.length = n) (h : W2 rm 38 [l0, l1, l2] (.int n :: S) (H) Q) : W2 rm 37 [l0, l1, l2] (.ref i :: S) H Q := W.arraylength d2_37 hH (by rw [hn]; exact h)
theorem d2_38 : decode prog_20_method_3_code 38 = .ok (.imul, 1) := by decide +kernel
theorem s2_38 {rm : Room} {S : List Value} {H : AHeap} {Q : Option Value → AHeap → Prop} {l0 l1 l2 : Slot} {x y : Int32} (h : W2 rm 39 [l0, l1, l2] (.int (x * y) :: S) (H) Q) : W2 rm 38 [l0, l1, l2] (.int y :: .int x :: S) H Q := W.imul d2_38 h
theorem d2_39 : decode prog_20_method_3_code 39 = .ok (.invokestatic 25, 3) := by decide +kernel
theorem d2_42 : decode prog_20_method_3_code 42 = .ok (.putfield 13, 3) := by decide +kernel
theorem s2_42 {rm : Room} {S : List Value} {H : AHeap} {Q : Option Value → AHeap → Prop} {l0 l1 l2 : Slot} {i : Nat} {f0 f1 f2 f3 f4 : Value} {x : Nat} (hH : H[i]? = some (.inl (0, [f0, f1, f2, f3, f4]))) (h : W2 rm 45 [l0, l1, l2] (S) (H.set i (.inl (0, [f0, .ref x, f2, f3, f4]))) Q) : W2 rm 42 [l0, l1, l2] (.ref x :: .ref i :: S) H Q := W.putF (c := 0) (j := 1) kt d2_42 (host := "") (Or.inl (List.mem_of_getElem? (i := 13) rfl)) (Or.inl rfl) rfl rfl (Or.inl (List.mem_of_getElem? (i := 14) rfl)) rfl rfl hH h
theorem d2_45 : decode prog_20_method_3_code 45 = .ok (.aload_n 0, 1) := by decide +kernel
theorem s2_45 {rm : Room} {S : List Value} {H : AHeap} {Q : Option Value → AHeap → Prop} {l1 l2 : Slot} {i : Nat} (h : W2 rm 46 [.val (.ref i), l1, l2] (.ref i :: S) (H) Q) : W2 rm 45 [.val (.ref i), l1, l2] (S) H Q := W.aload_n d2_45 rfl rfl h
theorem s2_45n {rm : Room} {S : List Value} {H : AHeap} {Q : Option Value → AHeap → Prop} {l1 l2 : Slot}  (h : W2 rm 46 [.val .null, l1, l2] (.null :: S) (H) Q) : W2 rm 45 [.val .null, l1, l2] (S) H Q := W.aload_n d2_45 rfl rfl h
theorem d2_46 : decode prog_20_method_3_code 46 = .ok (.getfield 16, 3) := by decide +kernel
theorem s2_46 {rm : Room} {S : List Value} {H : AHeap} {Q : Option Value → AHeap → Prop} {l0 l1 l2 : Slot} {i : Nat} {f0 f1 f2 f3 f4 : Value} (hH : H[i]? = some (.inl (0, [f0, f1, f2, f3, f4]))) (h : W2 rm 49 [l0, l1, l2] (f2 :: S) (H) Q) : W2 rm 46 [l0, l1, l2] (.ref i :: S) H Q := W.getF (c := 0) (j := 2) d2_46 (host := "") (Or.inl (List.mem_of_getElem? (i := 15) rfl)) (Or.inl rfl) rfl rfl hH rfl h
theorem d2_49 : decode prog_20_method_3_code 49 = .ok (.iload_n 1, 1) := by decide +kernel
theorem s2_49 {rm : Room} {S : List Value} {H : AHeap} {Q : Option Value → AHeap → Prop} {l0 l2 : Slot} {x : Int32} (h : W2 rm 50 [l0, .val (.int x), l2] (.int x :: S) (H) Q) : W2 rm 49 [l0, .val (.int x), l2] (S) H Q := W.iload_n d2_49 rfl h
theorem d2_50 : decode prog_20_method_3_code 50 = .ok (.iload_n 2, 1) := by decide +kernel
theorem s2_50 {rm : Room} {S : List Value} {H : AHeap} {Q : Option Value → AHeap → Prop} {l0 l1 : Slot} {x : Int32} (h : W2 rm 51 [l0, l1, .val (.int x)] (.int x :: S) (H) Q) : W2 rm 50 [l0, l1, .val (.int x)] (S) H Q := W.iload_n d2_50 rfl h
theorem d2_51 : decode prog_20_method_3_code 51 = .ok (.iastore, 1) := by decide +kernel
theorem s2_51 {rm : Room} {S : List Value} {H : AHeap} {Q : Option Value → AHeap → Prop} {l0 l1 l2 : Slot} {i : Nat} {j : Int32} {x : Int32} {vs : List Value} (N : Nat) (hH : H[i]? = some (.inr (.int, vs))) (hj : ix j N) (hl : Nat.blt N vs.length = true) (h : W2 rm 52 [l0, l1, l2] (S) (H.set i (.inr (.int, vs.set N (.int x)))) Q) : W2 rm 51 [l0, l1, l2] (.int x :: .int j :: .ref i :: S) H Q := W.iastore d2_51 hH hj hl h
theorem d2_52 : decode prog_20_method_3_code 52 = .ok (.aload_n 0, 1) := by decide +kernel
theorem s2_52 {rm : Room} {S : List Value} {H : AHeap} {Q : Option Value → AHeap → Prop} {l1 l2 : Slot} {i : Nat} (h : W2 rm 53 [.val (.ref i), l1, l2] (.ref i :: S) (H) Q) : W2 rm 52 [.val (.ref i), l1, l2] (S) H Q := W.aload_n d2_52 rfl rfl h
theorem s2_52n {rm : Room} {S : List Value} {H : AHeap} {Q : Option Value → AHeap → Prop} {l1 l2 : Slot}  (h : W2 rm 53 [.val .null, l1, l2] (.null :: S) (H) Q) : W2 rm 52 [.val .null, l1, l2] (S) H Q := W.aload_n d2_52 rfl rfl h
theorem d2_53 : decode prog_20_method_3_code 53 = .ok (.getfield 19, 3) := by decide +kernel
theorem s2_53 {rm : Room} {S : List Value} {H : AHeap} {Q : Option Value → AHeap → Prop} {l0 l1 l2 : Slot} {i : Nat} {f0 f1 f2 f3 f4 : Value} (hH : H[i]? = some (.inl (0, [f0, f1, f2, f3, f4]))) (h : W2 rm 56 [l0, l1, l2] (f3 :: S) (H) Q) : W2 rm 53 [l0, l1, l2] (.ref i :: S) H Q := W.getF (c := 0) (j := 3) d2_53 (host := "") (Or.inl (List.mem_of_getElem? (i := 17) rfl)) (Or.inl rfl) rfl rfl hH rfl h
theorem d2_56 : decode prog_20_method_3_code 56 = .ok (.iload_n 1, 1) := by decide +kernel
theorem s2_56 {rm : Room} {S : List Value} {H : AHeap} {Q : Option Value → AHeap → Prop} {l0 l2 : Slot} {x : Int32} (h : W2 rm 57 [l0, .val (.int x), l2] (.int x :: S) (H) Q) : W2 rm 56 [l0, .val (.int x), l2] (S) H Q := W.iload_n d2_56 rfl h
theorem d2_57 : decode prog_20_method_3_code 57 = .ok (.aload_n 0, 1) := by decide +kernel
theorem s2_57 {rm : Room} {S : List Value} {H : AHeap} {Q : Option Value → AHeap → Prop} {l1 l2 : Slot} {i : Nat} (h : W2 rm 58 [.val (.ref i), l1, l2] (.ref i :: S) (H) Q) : W2 rm 57 [.val (.ref i), l1, l2] (S) H Q := W.aload_n d2_57 rfl rfl h
theorem s2_57n {rm : Room} {S : List Value} {H : AHeap} {Q : Option Value → AHeap → Prop} {l1 l2 : Slot}  (h : W2 rm 58 [.val .null, l1, l2] (.null :: S) (H) Q) : W2 rm 57 [.val .null, l1, l2] (S) H Q := W.aload_n d2_57 rfl rfl h
theorem d2_58 : decode prog_20_method_3_code 58 = .ok (.getfield 13, 3) := by decide +kernel
theorem s2_58 {rm : Room} {S : List Value} {H : AHeap} {Q : Option Value → AHeap → Prop} {l0 l1 l2 : Slot} {i : Nat} {f0 f1 f2 f3 f4 : Value} (hH : H[i]? = some (.inl (0, [f0, f1, f2, f3, f4]))) (h : W2 rm 61 [l0, l1, l2] (f1 :: S) (H) Q) : W2 rm 58 [l0, l1, l2] (.ref i :: S) H Q := W.getF (c := 0) (j := 1) d2_58 (host := "") (Or.inl (List.mem_of_getElem? (i := 13) rfl)) (Or.inl rfl) rfl rfl hH rfl h
theorem d2_61 : decode prog_20_method_3_code 61 = .ok (.iload_n 2, 1) := by decide +kernel
theorem s2_61 {rm : Room} {S : List Value} {H : AHeap} {Q : Option Value → AHeap → Prop} {l0 l1 : Slot} {x : Int32} (h : W2 rm 62 [l0, l1, .val (.int x)] (.int x :: S) (H) Q) : W2 rm 61 [l0, l1, .val (.int x)] (S) H Q := W.iload_n d2_61 rfl h
theorem d2_62 : decode prog_20_method_3_code 62 = .ok (.iaload, 1) := by decide +kernel
theorem s2_62 {rm : Room} {S : List Value} {H : AHeap} {Q : Option Value → AHeap → Prop} {l0 l1 l2 : Slot} {i : Nat} {j : Int32} {vs : List Value} {v : Value} (N : Nat) (hH : H[i]? = some (.inr (.int, vs))) (hj : ix j N) (hv : vs[N]? = some v) (h : W2 rm 63 [l0, l1, l2] (v :: S) (H) Q) : W2 rm 62 [l0, l1, l2] (.int j :: .ref i :: S) H Q := W.xaload (Or.inl ⟨rfl, rfl⟩) d2_62 hH hj hv h
theorem d2_63 : decode prog_20_method_3_code 63 = .ok (.iastore, 1) := by decide +kernel
theorem s2_63 {rm : Room} {S : List Value} {H : AHeap} {Q : Option Value → AHeap → Prop} {l0 l1 l2 : Slot} {i : Nat} {j : Int32} {x : Int32} {vs : List Value} (N : Nat) (hH : H[i]? = some (.inr (.int, vs))) (hj : ix j N) (hl : Nat.blt N vs.length = true) (h : W2 rm 64 [l0, l1, l2] (S) (H.set i (.inr (.int, vs.set N (.int x)))) Q) : W2 rm 63 [l0, l1, l2] (.int x :: .int j :: .ref i :: S) H Q := W.iastore d2_63 hH hj hl h
theorem d2_64 : decode prog_20_method_3_code 64 = .ok (.aload_n 0, 1) := by decide +kernel
theorem s2_64 {rm : Room} {S : List Value} {H : AHeap} {Q : Option Value → AHeap → Prop} {l1 l2 : Slot} {i : Nat} (h : W2 rm 65 [.val (.ref i), l1, l2] (.ref i :: S) (H) Q) : W2 rm 64 [.val (.ref i), l1, l2] (S) H Q := W.aload_n d2_64 rfl rfl h
theorem s2_64n {rm : Room} {S : List Value} {H : AHeap} {Q : Option Value → AHeap → Prop} {l1 l2 : Slot}  (h : W2 rm 65 [.val .null, l1, l2] (.null :: S) (H) Q) : W2 rm 64 [.val .null, l1, l2] (S) H Q := W.aload_n d2_64 rfl rfl h
theorem d2_65 : decode prog_20_method_3_code 65 = .ok (.getfield 22, 3) := by decide +kernel
theorem s2_65 {rm : Room} {S : List Value} {H : AHeap} {Q : Option Value → AHeap → Prop} {l0 l1 l2 : Slot} {i : Nat} {f0 f1 f2 f3 f4 : Value} (hH : H[i]? = some (.inl (0, [f0, f1, f2, f3, f4]))) (h : W2 rm 68 [l0, l1, l2] (f4 :: S) (H) Q) : W2 rm 65 [l0, l1, l2] (.ref i :: S) H Q := W.getF (c := 0) (j := 4) d2_65 (host := "") (Or.inl (List.mem_of_getElem? (i := 19) rfl)) (Or.inl rfl) rfl rfl hH rfl h
theorem d2_68 : decode prog_20_method_3_code 68 = .ok (.iload_n 1, 1) := by decide +kernel
theorem s2_68 {rm : Room} {S : List Value} {H : AHeap} {Q : Option Value → AHeap → Prop} {l0 l2 : Slot} {x : Int32} (h : W2 rm 69 [l0, .val (.int x), l2] (.int x :: S) (H) Q) : W2 rm 68 [l0, .val (.int x), l2] (S) H Q := W.iload_n d2_68 rfl h
theorem d2_69 : decode prog_20_method_3_code 69 = .ok (.iconst 0, 1) := by decide +kernel
theorem s2_69 {rm : Room} {S : List Value} {H : AHeap} {Q : Option Value → AHeap → Prop} {l0 l1 l2 : Slot}  (h : W2 rm 70 [l0, l1, l2] (.int 0 :: S) (H) Q) : W2 rm 69 [l0, l1, l2] (S) H Q := W.iconst' d2_69 (by decide) h
theorem d2_70 : decode prog_20_method_3_code 70 = .ok (.iastore, 1) := by decide +kernel
theorem s2_70 {rm : Room} {S : List Value} {H : AHeap} {Q : Option Value → AHeap → Prop} {l0 l1 l2 : Slot} {i : Nat} {j : Int32} {x : Int32} {vs : List Value} (N : Nat) (hH : H[i]? = some (.inr (.int, vs))) (hj : ix j N) (hl : Nat.blt N vs.length = true) (h : W2 rm 71 [l0, l1, l2] (S) (H.set i (.inr (.int, vs.set N (.int x)))) Q) : W2 rm 70 [l0, l1, l2] (.int x :: .int j :: .ref i :: S) H Q := W.iastore d2_70 hH hj hl h
theorem d2_71 : decode prog_20_method_3_code 71 = .ok (.aload_n 0, 1) := by decide +kernel
theorem s2_71 {rm : Room} {S : List Value} {H : AHeap} {Q : Option Value → AHeap → Prop} {l1 l2 : Slot} {i : Nat} (h : W2 rm 72 [.val (.ref i), l1, l2] (.ref i :: S) (H) Q) : W2 rm 71 [.val (.ref i), l1, l2] (S) H Q := W.aload_n d2_71 rfl rfl h
theorem s2_71n {rm : Room} {S : List Value} {H : AHeap} {Q : Option Value → AHeap → Prop} {l1 l2 : Slot}  (h : W2 rm 72 [.val .null, l1, l2] (.null :: S) (H) Q) : W2 rm 71 [.val .null, l1, l2] (S) H Q := W.aload_n d2_71 rfl rfl h
theorem d2_72 : decode prog_20_method_3_code 72 = .ok (.getfield 13, 3) := by decide +kernel
theorem s2_72 {rm : Room} {S : List Value} {H : AHeap} {Q : Option Value → AHeap → Prop} {l0 l1 l2 : Slot} {i : Nat} {f0 f1 f2 f3 f4 : Value} (hH : H[i]? = some (.inl (0, [f0, f1, f2, f3, f4]))) (h : W2 rm 75 [l0, l1, l2] (f1 :: S) (H) Q) : W2 rm 72 [l0, l1, l2] (.ref i :: S) H Q := W.getF (c := 0) (j := 1) d2_72 (host := "") (Or.inl (List.mem_of_getElem? (i := 13) rfl)) (Or.inl rfl) rfl rfl hH rfl h
theorem d2_75 : decode prog_20_method_3_code 75 = .ok (.iload_n 2, 1) := by decide +kernel
theorem s2_75 {rm : Room} {S : List Value} {H : AHeap} {Q : Option Value → AHeap → Prop} {l0 l1 : Slot} {x : Int32} (h : W2 rm 76 [l0, l1, .val (.int x)] (.int x :: S) (H) Q) : W2 rm 75 [l0, l1, .val (.int x)] (S) H Q := W.iload_n d2_75 rfl h
theorem d2_76 : decode prog_20_method_3_code 76 = .ok (.iaload, 1) := by decide +kernel
theorem s2_76 {rm : Room} {S : List Value} {H : AHeap} {Q : Option Value → AHeap → Prop} {l0 l1 l2 : Slot} {i : Nat} {j : Int32} {vs : List Value} {v : Value} (N : Nat) (hH : H[i]? = some (.inr (.int, vs))) (hj : ix j N) (hv : vs[N]? = some v) (h : W2 rm 77 [l0, l1, l2] (v :: S) (H) Q) : W2 rm 76 [l0, l1, l2] (.int j :: .ref i :: S) H Q := W.xaload (Or.inl ⟨rfl, rfl⟩) d2_76 hH hj hv h
theorem d2_77 : decode prog_20_method_3_code 77 = .ok (.ifCond .ne 13, 3) := by decide +kernel
theorem s2_77 {rm : Room} {S : List Value} {H : AHeap} {Q : Option Value → AHeap → Prop} {l0 l1 l2 : Slot} {x : Int32} (h1 : ¬ x = 0 → W2 rm 90 [l0, l1, l2] S H Q) (h2 : x = 0 → W2 rm 80 [l0, l1, l2] S H Q) : W2 rm 77 [l0, l1, l2] (.int x :: S) H Q := W.ifc d2_77 (by decide) (by decide) h1 h2
theorem d2_80 : decode prog_20_method_3_code 80 = .ok (.aload_n 0, 1) := by decide +kernel
theorem s2_80 {rm : Room} {S : List Value} {H : AHeap} {Q : Option Value → AHeap → Prop} {l1 l2 : Slot} {i : Nat} (h : W2 rm 81 [.val (.ref i), l1, l2] (.ref i :: S) (H) Q) : W2 rm 80 [.val (.ref i), l1, l2] (S) H Q := W.aload_n d2_80 rfl rfl h
theorem s2_80n {rm : Room} {S : List Value} {H : AHeap} {Q : Option Value → AHeap → Prop} {l1 l2 : Slot}  (h : W2 rm 81 [.val .null, l1, l2] (.null :: S) (H) Q) : W2 rm 80 [.val .null, l1, l2] (S) H Q := W.aload_n d2_80 rfl rfl h
theorem d2_81 : decode prog_20_method_3_code 81 = .ok (.getfield 9, 3) := by decide +kernel
theorem s2_81 {rm : Room} {S : List Value} {H : AHeap} {Q : Option Value → AHeap → Prop} {l0 l1 l2 : Slot} {i : Nat} {f0 f1 f2 f3 f4 : Value} (hH : H[i]? = some (.inl (0, [f0, f1, f2, f3, f4]))) (h : W2 rm 84 [l0, l1, l2] (f0 :: S) (H) Q) : W2 rm 81 [l0, l1, l2] (.ref i :: S) H Q := W.getF (c := 0) (j := 0) d2_81 (host := "") (Or.inl (List.mem_of_getElem? (i := 11) rfl)) (Or.inl rfl) rfl rfl hH rfl h
theorem d2_84 : decode prog_20_method_3_code 84 = .ok (.iload_n 2, 1) := by decide +kernel
theorem s2_84 {rm : Room} {S : List Value} {H : AHeap} {Q : Option Value → AHeap → Prop} {l0 l1 : Slot} {x : Int32} (h : W2 rm 85 [l0, l1, .val (.int x)] (.int x :: S) (H) Q) : W2 rm 84 [l0, l1, .val (.int x)] (S) H Q := W.iload_n d2_84 rfl h
theorem d2_85 : decode prog_20_method_3_code 85 = .ok (.iload_n 1, 1) := by decide +kernel
theorem s2_85 {rm : Room} {S : List Value} {H : AHeap} {Q : Option Value → AHeap → Prop} {l0 l2 : Slot} {x : Int32} (h : W2 rm 86 [l0, .val (.int x), l2] (.int x :: S) (H) Q) : W2 rm 85 [l0, .val (.int x), l2] (S) H Q := W.iload_n d2_85 rfl h
theorem d2_86 : decode prog_20_method_3_code 86 = .ok (.iastore, 1) := by decide +kernel
theorem s2_86 {rm : Room} {S : List Value} {H : AHeap} {Q : Option Value → AHeap → Prop} {l0 l1 l2 : Slot} {i : Nat} {j : Int32} {x : Int32} {vs : List Value} (N : Nat) (hH : H[i]? = some (.inr (.int, vs))) (hj : ix j N) (hl : Nat.blt N vs.length = true) (h : W2 rm 87 [l0, l1, l2] (S) (H.set i (.inr (.int, vs.set N (.int x)))) Q) : W2 rm 86 [l0, l1, l2] (.int x :: .int j :: .ref i :: S) H Q := W.iastore d2_86 hH hj hl h
theorem d2_87 : decode prog_20_method_3_code 87 = .ok (.goto 15, 3) := by decide +kernel
theorem s2_87 {rm : Room} {S : List Value} {H : AHeap} {Q : Option Value → AHeap → Prop} {l0 l1 l2 : Slot}  (h : W2 rm 102 [l0, l1, l2] (S) (H) Q) : W2 rm 87 [l0, l1, l2] (S) H Q := W.goto d2_87 (by decide) (by decide) h
theorem d2_90 : decode prog_20_method_3_code 90 = .ok (.aload_n 0, 1) := by decide +kernel
theorem s2_90 {rm : Room} {S : List Value} {H : AHeap} {Q : Option Value → AHeap → Prop} {l1 l2 : Slot} {i : Nat} (h : W2 rm 91 [.val (.ref i), l1, l2] (.ref i :: S) (H) Q) : W2 rm 90 [.val (.ref i), l1, l2] (S) H Q := W.aload_n d2_90 rfl rfl h
theorem s2_90n {rm : Room} {S : List Value} {H : AHeap} {Q : Option Value → AHeap → Prop} {l1 l2 : Slot}  (h : W2 rm 91 [.val .null, l1, l2] (.null :: S) (H) Q) : W2 rm 90 [.val .null, l1, l2] (S) H Q := W.aload_n d2_90 rfl rfl h
theorem d2_91 : decode prog_20_method_3_code 91 = .ok (.getfield 22, 3) := by decide +kernel
theorem s2_91 {rm : Room} {S : List Value} {H : AHeap} {Q : Option Value → AHeap → Prop} {l0 l1 l2 : Slot} {i : Nat} {f0 f1 f2 f3 f4 : Value} (hH : H[i]? = some (.inl (0, [f0, f1, f2, f3, f4]))) (h : W2 rm 94 [l0, l1, l2] (f4 :: S) (H) Q) : W2 rm 91 [l0, l1, l2] (.ref i :: S) H Q := W.getF (c := 0) (j := 4) d2_91 (host := "") (Or.inl (List.mem_of_getElem? (i := 19) rfl)) (Or.inl rfl) rfl rfl hH rfl h
theorem d2_94 : decode prog_20_method_3_code 94 = .ok (.aload_n 0, 1) := by decide +kernel
theorem s2_94 {rm : Room} {S : List Value} {H : AHeap} {Q : Option Value → AHeap → Prop} {l1 l2 : Slot} {i : Nat} (h : W2 rm 95 [.val (.ref i), l1, l2] (.ref i :: S) (H) Q) : W2 rm 94 [.val (.ref i), l1, l2] (S) H Q := W.aload_n d2_94 rfl rfl h
theorem s2_94n {rm : Room} {S : List Value} {H : AHeap} {Q : Option Value → AHeap → Prop} {l1 l2 : Slot}  (h : W2 rm 95 [.val .null, l1, l2] (.null :: S) (H) Q) : W2 rm 94 [.val .null, l1, l2] (S) H Q := W.aload_n d2_94 rfl rfl h
theorem d2_95 : decode prog_20_method_3_code 95 = .ok (.getfield 13, 3) := by decide +kernel
theorem s2_95 {rm : Room} {S : List Value} {H : AHeap} {Q : Option Value → AHeap → Prop} {l0 l1 l2 : Slot} {i : Nat} {f0 f1 f2 f3 f4 : Value} (hH : H[i]? = some (.inl (0, [f0, f1, f2, f3, f4]))) (h : W2 rm 98 [l0, l1, l2] (f1 :: S) (H) Q) : W2 rm 95 [l0, l1, l2] (.ref i :: S) H Q := W.getF (c := 0) (j := 1) d2_95 (host := "") (Or.inl (List.mem_of_getElem? (i := 13) rfl)) (Or.inl rfl) rfl rfl hH rfl h
theorem d2_98 : decode prog_20_method_3_code 98 = .ok (.iload_n 2, 1) := by decide +kernel
theorem s2_98 {rm : Room} {S : List Value} {H : AHeap} {Q : Option Value → AHeap → Prop} {l0 l1 : Slot} {x : Int32} (h : W2 rm 99 [l0, l1, .val (.int x)] (.int x :: S) (H) Q) : W2 rm 98 [l0, l1, .val (.int x)] (S) H Q := W.iload_n d2_98 rfl h
theorem d2_99 : decode prog_20_method_3_code 99 = .ok (.iaload, 1) := by decide +kernel
theorem s2_99 {rm : Room} {S : List Value} {H : AHeap} {Q : Option Value → AHeap → Prop} {l0 l1 l2 : Slot} {i : Nat} {j : Int32} {vs : List Value} {v : Value} (N : Nat) (hH : H[i]? = some (.inr (.int, vs))) (hj : ix j N) (hv : vs[N]? = some v) (h : W2 rm 100 [l0, l1, l2] (v :: S) (H) Q) : W2 rm 99 [l0, l1, l2] (.int j :: .ref i :: S) H Q := W.xaload (Or.inl ⟨rfl, rfl⟩) d2_99 hH hj hv h
theorem d2_100 : decode prog_20_method_3_code 100 = .ok (.iload_n 1, 1) := by decide +kernel
theorem s2_100 {rm : Room} {S : List Value} {H : AHeap} {Q : Option Value → AHeap → Prop} {l0 l2 : Slot} {x : Int32} (h : W2 rm 101 [l0, .val (.int x), l2] (.int x :: S) (H) Q) : W2 rm 100 [l0, .val (.int x), l2] (S) H Q := W.iload_n d2_100 rfl h
theorem d2_101 : decode prog_20_method_3_code 101 = .ok (.iastore, 1) := by decide +kernel
theorem s2_101 {rm : Room} {S : List Value} {H : AHeap} {Q : Option Value → AHeap → Prop} {l0 l1 l2 : Slot} {i : Nat} {j : Int32} {x : Int32} {vs : List Value} (N : Nat) (hH : H[i]? = some (.inr (.int, vs))) (hj : ix j N) (hl : Nat.blt N vs.length = true) (h : W2 rm 102 [l0, l1, l2] (S) (H.set i (.inr (.int, vs.set N (.int x)))) Q) : W2 rm 101 [l0, l1, l2] (.int x :: .int j :: .ref i :: S) H Q := W.iastore d2_101 hH hj hl h
theorem d2_102 : decode prog_20_method_3_code 102 = .ok (.aload_n 0, 1) := by decide +kernel
theorem s2_102 {rm : Room} {S : List Value} {H : AHeap} {Q : Option Value → AHeap → Prop} {l1 l2 : Slot} {i : Nat} (h : W2 rm 103 [.val (.ref i), l1, l2] (.ref i :: S) (H) Q) : W2 rm 102 [.val (.ref i), l1, l2] (S) H Q := W.aload_n d2_102 rfl rfl h
theorem s2_102n {rm : Room} {S : List Value} {H : AHeap} {Q : Option Value → AHeap → Prop} {l1 l2 : Slot}  (h : W2 rm 103 [.val .null, l1, l2] (.null :: S) (H) Q) : W2 rm 102 [.val .null, l1, l2] (S) H Q := W.aload_n d2_102 rfl rfl h
theorem d2_103 : decode prog_20_method_3_code 103 = .ok (.getfield 13, 3) := by decide +kernel
theorem s2_103 {rm : Room} {S : List Value} {H : AHeap} {Q : Option Value → AHeap → Prop} {l0 l1 l2 : Slot} {i : Nat} {f0 f1 f2 f3 f4 : Value} (hH : H[i]? = some (.inl (0, [f0, f1, f2, f3, f4]))) (h : W2 rm 106 [l0, l1, l2] (f1 :: S) (H) Q) : W2 rm 103 [l0, l1, l2] (.ref i :: S) H Q := W.getF (c := 0) (j := 1) d2_103 (host := "") (Or.inl (List.mem_of_getElem? (i := 13) rfl)) (Or.inl rfl) rfl rfl hH rfl h
theorem d2_106 : decode prog_20_method_3_code 106 = .ok (.iload_n 2, 1) := by decide +kernel
theorem s2_106 {rm : Room} {S : List Value} {H : AHeap} {Q : Option Value → AHeap → Prop} {l0 l1 : Slot} {x : Int32} (h : W2 rm 107 [l0, l1, .val (.int x)] (.int x :: S) (H) Q) : W2 rm 106 [l0, l1, .val (.int x)] (S) H Q := W.iload_n d2_106 rfl h
theorem d2_107 : decode prog_20_method_3_code 107 = .ok (.iload_n 1, 1) := by decide +kernel
theorem s2_107 {rm : Room} {S : List Value} {H : AHeap} {Q : Option Value → AHeap → Prop} {l0 l2 : Slot} {x : Int32} (h : W2 rm 108 [l0, .val (.int x), l2] (.int x :: S) (H) Q) : W2 rm 107 [l0, .val (.int x), l2] (S) H Q := W.iload_n d2_107 rfl h
theorem d2_108 : decode prog_20_method_3_code 108 = .ok (.iastore, 1) := by decide +kernel
theorem s2_108 {rm : Room} {S : List Value} {H : AHeap} {Q : Option Value → AHeap → Prop} {l0 l1 l2 : Slot} {i : Nat} {j : Int32} {x : Int32} {vs : List Value} (N : Nat) (hH : H[i]? = some (.inr (.int, vs))) (hj : ix j N) (hl : Nat.blt N vs.length = true) (h : W2 rm 109 [l0, l1, l2] (S) (H.set i (.inr (.int, vs.set N (.int x)))) Q) : W2 rm 108 [l0, l1, l2] (.int x :: .int j :: .ref i :: S) H Q := W.iastore d2_108 hH hj hl h
theorem d2_109 : decode prog_20_method_3_code 109 = .ok (.return_, 1) := by decide +kernel
theorem s2_109 {rm : Room} {H : AHeap} {Q : Option Value → AHeap → Prop} {l0 l1 l2 : Slot} (hQ : Q none H) : W2 rm 109 [l0, l1, l2] [] H Q := W.ret_ d2_109 rfl hQ
theorem e3 {rm : Room} {H : AHeap} {Q : Option Value → AHeap → Prop} {a0 : Nat} {a1 : Int32} (h : W3 rm 0 [.val (.ref a0), .val (.int a1), .unset] [] H Q) : M3 rm [.ref a0, .int a1] H Q := M.of pf3 rfl rfl h
theorem e3L {rm : Room} {H : AHeap} {Q : Option Value → AHeap → Prop} {L : List Slot} {as : List Value} (h : W3 rm 0 L [] H Q) (hl : ent as ++ List.replicate (3 - (ent as).length) .unset = L := by rfl) (hn : L.length = 3 := by rfl) : M3 rm as H Q := M.of pf3 hl hn h
theorem d3_0 : decode prog_20_method_4_code 0 = .ok (.aload_n 0, 1) := by decide +kernel
theorem s3_0 {rm : Room} {S : List Value} {H : AHeap} {Q : Option Value → AHeap → Prop} {l1 l2 : Slot} {i : Nat} (h : W3 rm 1 [.val (.ref i), l1, l2] (.ref i :: S) (H) Q) : W3 rm 0 [.val (.ref i), l1, l2] (S) H Q := W.aload_n d3_0 rfl rfl h
theorem s3_0n {rm : Room} {S : List Value} {H : AHeap} {Q : Option Value → AHeap → Prop} {l1 l2 : Slot}  (h : W3 rm 1 [.val .null, l1, l2] (.null :: S) (H) Q) : W3 rm 0 [.val .null, l1, l2] (S) H Q := W.aload_n d3_0 rfl rfl h
theorem d3_1 : decode prog_20_method_4_code 1 = .ok (.getfield 16, 3) := by decide +kernel
theorem s3_1 {rm : Room} {S : List Value} {H : AHeap} {Q : Option Value → AHeap → Prop} {l0 l1 l2 : Slot} {i : Nat} {f0 f1 f2 f3 f4 : Value} (hH : H[i]? = some (.inl (0, [f0, f1, f2, f3, f4]))) (h : W3 rm 4 [l0, l1, l2] (f2 :: S) (H) Q) : W3 rm 1 [l0, l1, l2] (.ref i :: S) H Q := W.getF (c := 0) (j := 2) d3_1 (host := "") (Or.inl (List.mem_of_getElem? (i := 15) rfl)) (Or.inl rfl) rfl rfl hH rfl h
theorem d3_4 : decode prog_20_method_4_code 4 = .ok (.iload_n 1, 1) := by decide +kernel
theorem s3_4 {rm : Room} {S : List Value} {H : AHeap} {Q : Option Value → AHeap → Prop} {l0 l2 : Slot} {x : Int32} (h : W3 rm 5 [l0, .val (.int x), l2] (.int x :: S) (H) Q) : W3 rm 4 [l0, .val (.int x), l2] (S) H Q := W.iload_n d3_4 rfl h
theorem d3_5 : decode prog_20_method_4_code 5 = .ok (.iaload, 1) := by decide +kernel
theorem s3_5 {rm : Room} {S : List Value} {H : AHeap} {Q : Option Value → AHeap → Prop} {l0 l1 l2 : Slot} {i : Nat} {j : Int32} {vs : List Value} {v : Value} (N : Nat) (hH : H[i]? = some (.inr (.int, vs))) (hj : ix j N) (hv : vs[N]? = some v) (h : W3 rm 6 [l0, l1, l2] (v :: S) (H) Q) : W3 rm 5 [l0, l1, l2] (.int j :: .ref i :: S) H Q := W.xaload (Or.inl ⟨rfl, rfl⟩) d3_5 hH hj hv h
theorem d3_6 : decode prog_20_method_4_code 6 = .ok (.istore_n 2, 1) := by decide +kernel
theorem s3_6 {rm : Room} {S : List Value} {H : AHeap} {Q : Option Value → AHeap → Prop} {l0 l1 l2 : Slot} {x : Int32} (ho : one l2 = true) (h : W3 rm 7 [l0, l1, .val (.int x)] (S) (H) Q) : W3 rm 6 [l0, l1, l2] (.int x :: S) H Q := W.istore_n d3_6 rfl ho h
theorem s3_6s {rm : Room} {S : List Value} {H : AHeap} {Q : Option Value → AHeap → Prop} {l0 l1 : Slot} {x : Int32} (h : W3 rm 7 [l0, .unset, .val (.int x)] (S) (H) Q) : W3 rm 6 [l0, l1, .second] (.int x :: S) H Q := W.istore_nS d3_6 rfl (by decide) h
theorem d3_7 : decode prog_20_method_4_code 7 = .ok (.aload_n 0, 1) := by decide +kernel
theorem s3_7 {rm : Room} {S : List Value} {H : AHeap} {Q : Option Value → AHeap → Prop} {l1 l2 : Slot} {i : Nat} (h : W3 rm 8 [.val (.ref i), l1, l2] (.ref i :: S) (H) Q) : W3 rm 7 [.val (.ref i), l1, l2] (S) H Q := W.aload_n d3_7 rfl rfl h
theorem s3_7n {rm : Room} {S : List Value} {H : AHeap} {Q : Option Value → AHeap → Prop} {l1 l2 : Slot}  (h : W3 rm 8 [.val .null, l1, l2] (.null :: S) (H) Q) : W3 rm 7 [.val .null, l1, l2] (S) H Q := W.aload_n d3_7 rfl rfl h
theorem d3_8 : decode prog_20_method_4_code 8 = .ok (.getfield 19, 3) := by decide +kernel
theorem s3_8 {rm : Room} {S : List Value} {H : AHeap} {Q : Option Value → AHeap → Prop} {l0 l1 l2 : Slot} {i : Nat} {f0 f1 f2 f3 f4 : Value} (hH : H[i]? = some (.inl (0, [f0, f1, f2, f3, f4]))) (h : W3 rm 11 [l0, l1, l2] (f3 :: S) (H) Q) : W3 rm 8 [l0, l1, l2] (.ref i :: S) H Q := W.getF (c := 0) (j := 3) d3_8 (host := "") (Or.inl (List.mem_of_getElem? (i := 17) rfl)) (Or.inl rfl) rfl rfl hH rfl h
theorem d3_11 : decode prog_20_method_4_code 11 = .ok (.iload_n 1, 1) := by decide +kernel
theorem s3_11 {rm : Room} {S : List Value} {H : AHeap} {Q : Option Value → AHeap → Prop} {l0 l2 : Slot} {x : Int32} (h : W3 rm 12 [l0, .val (.int x), l2] (.int x :: S) (H) Q) : W3 rm 11 [l0, .val (.int x), l2] (S) H Q := W.iload_n d3_11 rfl h
theorem d3_12 : decode prog_20_method_4_code 12 = .ok (.iaload, 1) := by decide +kernel
theorem s3_12 {rm : Room} {S : List Value} {H : AHeap} {Q : Option Value → AHeap → Prop} {l0 l1 l2 : Slot} {i : Nat} {j : Int32} {vs : List Value} {v : Value} (N : Nat) (hH : H[i]? = some (.inr (.int, vs))) (hj : ix j N) (hv : vs[N]? = some v) (h : W3 rm 13 [l0, l1, l2] (v :: S) (H) Q) : W3 rm 12 [l0, l1, l2] (.int j :: .ref i :: S) H Q := W.xaload (Or.inl ⟨rfl, rfl⟩) d3_12 hH hj hv h
theorem d3_13 : decode prog_20_method_4_code 13 = .ok (.ifCond .ne 18, 3) := by decide +kernel
theorem s3_13 {rm : Room} {S : List Value} {H : AHeap} {Q : Option Value → AHeap → Prop} {l0 l1 l2 : Slot} {x : Int32} (h1 : ¬ x = 0 → W3 rm 31 [l0, l1, l2] S H Q) (h2 : x = 0 → W3 rm 16 [l0, l1, l2] S H Q) : W3 rm 13 [l0, l1, l2] (.int x :: S) H Q := W.ifc d3_13 (by decide) (by decide) h1 h2
theorem d3_16 : decode prog_20_method_4_code 16 = .ok (.aload_n 0, 1) := by decide +kernel
theorem s3_16 {rm : Room} {S : List Value} {H : AHeap} {Q : Option Value → AHeap → Prop} {l1 l2 : Slot} {i : Nat} (h : W3 rm 17 [.val (.ref i), l1, l2] (.ref i :: S) (H) Q) : W3 rm 16 [.val (.ref i), l1, l2] (S) H Q := W.aload_n d3_16 rfl rfl h
theorem s3_16n {rm : Room} {S : List Value} {H : AHeap} {Q : Option Value → AHeap → Prop} {l1 l2 : Slot}  (h : W3 rm 17 [.val .null, l1, l2] (.null :: S) (H) Q) : W3 rm 16 [.val .null, l1, l2] (S) H Q := W.aload_n d3_16 rfl rfl h
theorem d3_17 : decode prog_20_method_4_code 17 = .ok (.getfield 9, 3) := by decide +kernel
theorem s3_17 {rm : Room} {S : List Value} {H : AHeap} {Q : Option Value → AHeap → Prop} {l0 l1 l2 : Slot} {i : Nat} {f0 f1 f2 f3 f4 : Value} (hH : H[i]? = some (.inl (0, [f0, f1, f2, f3, f4]))) (h : W3 rm 20 [l0, l1, l2] (f0 :: S) (H) Q) : W3 rm 17 [l0, l1, l2] (.ref i :: S) H Q := W.getF (c := 0) (j := 0) d3_17 (host := "") (Or.inl (List.mem_of_getElem? (i := 11) rfl)) (Or.inl rfl) rfl rfl hH rfl h
theorem d3_20 : decode prog_20_method_4_code 20 = .ok (.iload_n 2, 1) := by decide +kernel
theorem s3_20 {rm : Room} {S : List Value} {H : AHeap} {Q : Option Value → AHeap → Prop} {l0 l1 : Slot} {x : Int32} (h : W3 rm 21 [l0, l1, .val (.int x)] (.int x :: S) (H) Q) : W3 rm 20 [l0, l1, .val (.int x)] (S) H Q := W.iload_n d3_20 rfl h
theorem d3_21 : decode prog_20_method_4_code 21 = .ok (.aload_n 0, 1) := by decide +kernel
theorem s3_21 {rm : Room} {S : List Value} {H : AHeap} {Q : Option Value → AHeap → Prop} {l1 l2 : Slot} {i : Nat} (h : W3 rm 22 [.val (.ref i), l1, l2] (.ref i :: S) (H) Q) : W3 rm 21 [.val (.ref i), l1, l2] (S) H Q := W.aload_n d3_21 rfl rfl h
theorem s3_21n {rm : Room} {S : List Value} {H : AHeap} {Q : Option Value → AHeap → Prop} {l1 l2 : Slot}  (h : W3 rm 22 [.val .null, l1, l2] (.null :: S) (H) Q) : W3 rm 21 [.val .null, l1, l2] (S) H Q := W.aload_n d3_21 rfl rfl h
theorem d3_22 : decode prog_20_method_4_code 22 = .ok (.getfield 22, 3) := by decide +kernel
theorem s3_22 {rm : Room} {S : List Value} {H : AHeap} {Q : Option Value → AHeap → Prop} {l0 l1 l2 : Slot} {i : Nat} {f0 f1 f2 f3 f4 : Value} (hH : H[i]? = some (.inl (0, [f0, f1, f2, f3, f4]))) (h : W3 rm 25 [l0, l1, l2] (f4 :: S) (H) Q) : W3 rm 22 [l0, l1, l2] (.ref i :: S) H Q := W.getF (c := 0) (j := 4) d3_22 (host := "") (Or.inl (List.mem_of_getElem? (i := 19) rfl)) (Or.inl rfl) rfl rfl hH rfl h
theorem d3_25 : decode prog_20_method_4_code 25 = .ok (.iload_n 1, 1) := by decide +kernel
theorem s3_25 {rm : Room} {S : List Value} {H : AHeap} {Q : Option Value → AHeap → Prop} {l0 l2 : Slot} {x : Int32} (h : W3 rm 26 [l0, .val (.int x), l2] (.int x :: S) (H) Q) : W3 rm 25 [l0, .val (.int x), l2] (S) H Q := W.iload_n d3_25 rfl h
theorem d3_26 : decode prog_20_method_4_code 26 = .ok (.iaload, 1) := by decide +kernel
theorem s3_26 {rm : Room} {S : List Value} {H : AHeap} {Q : Option Value → AHeap → Prop} {l0 l1 l2 : Slot} {i : Nat} {j : Int32} {vs : List Value} {v : Value} (N : Nat) (hH : H[i]? = some (.inr (.int, vs))) (hj : ix j N) (hv : vs[N]? = some v) (h : W3 rm 27 [l0, l1, l2] (v :: S) (H) Q) : W3 rm 26 [l0, l1, l2] (.int j :: .ref i :: S) H Q := W.xaload (Or.inl ⟨rfl, rfl⟩) d3_26 hH hj hv h
theorem d3_27 : decode prog_20_method_4_code 27 = .ok (.iastore, 1) := by decide +kernel
theorem s3_27 {rm : Room} {S : List Value} {H : AHeap} {Q : Option Value → AHeap → Prop} {l0 l1 l2 : Slot} {i : Nat} {j : Int32} {x : Int32} {vs : List Value} (N : Nat) (hH : H[i]? = some (.inr (.int, vs))) (hj : ix j N) (hl : Nat.blt N vs.length = true) (h : W3 rm 28 [l0, l1, l2] (S) (H.set i (.inr (.int, vs.set N (.int x)))) Q) : W3 rm 27 [l0, l1, l2] (.int x :: .int j :: .ref i :: S) H Q := W.iastore d3_27 hH hj hl h
theorem d3_28 : decode prog_20_method_4_code 28 = .ok (.goto 20, 3) := by decide +kernel
theorem s3_28 {rm : Room} {S : List Value} {H : AHeap} {Q : Option Value → AHeap → Prop} {l0 l1 l2 : Slot}  (h : W3 rm 48 [l0, l1, l2] (S) (H) Q) : W3 rm 28 [l0, l1, l2] (S) H Q := W.goto d3_28 (by decide) (by decide) h
theorem d3_31 : decode prog_20_method_4_code 31 = .ok (.aload_n 0, 1) := by decide +kernel
theorem s3_31 {rm : Room} {S : List Value} {H : AHeap} {Q : Option Value → AHeap → Prop} {l1 l2 : Slot} {i : Nat} (h : W3 rm 32 [.val (.ref i), l1, l2] (.ref i :: S) (H) Q) : W3 rm 31 [.val (.ref i), l1, l2] (S) H Q := W.aload_n d3_31 rfl rfl h
theorem s3_31n {rm : Room} {S : List Value} {H : AHeap} {Q : Option Value → AHeap → Prop} {l1 l2 : Slot}  (h : W3 rm 32 [.val .null, l1, l2] (.null :: S) (H) Q) : W3 rm 31 [.val .null, l1, l2] (S) H Q := W.aload_n d3_31 rfl rfl h
theorem d3_32 : decode prog_20_method_4_code 32 = .ok (.getfield 22, 3) := by decide +kernel
theorem s3_32 {rm : Room} {S : List Value} {H : AHeap} {Q : Option Value → AHeap → Prop} {l0 l1 l2 : Slot} {i : Nat} {f0 f1 f2 f3 f4 : Value} (hH : H[i]? = some (.inl (0, [f0, f1, f2, f3, f4]))) (h : W3 rm 35 [l0, l1, l2] (f4 :: S) (H) Q) : W3 rm 32 [l0, l1, l2] (.ref i :: S) H Q := W.getF (c := 0) (j := 4) d3_32 (host := "") (Or.inl (List.mem_of_getElem? (i := 19) rfl)) (Or.inl rfl) rfl rfl hH rfl h
theorem d3_35 : decode prog_20_method_4_code 35 = .ok (.aload_n 0, 1) := by decide +kernel
theorem s3_35 {rm : Room} {S : List Value} {H : AHeap} {Q : Option Value → AHeap → Prop} {l1 l2 : Slot} {i : Nat} (h : W3 rm 36 [.val (.ref i), l1, l2] (.ref i :: S) (H) Q) : W3 rm 35 [.val (.ref i), l1, l2] (S) H Q := W.aload_n d3_35 rfl rfl h
theorem s3_35n {rm : Room} {S : List Value} {H : AHeap} {Q : Option Value → AHeap → Prop} {l1 l2 : Slot}  (h : W3 rm 36 [.val .null, l1, l2] (.null :: S) (H) Q) : W3 rm 35 [.val .null, l1, l2] (S) H Q := W.aload_n d3_35 rfl rfl h
theorem d3_36 : decode prog_20_method_4_code 36 = .ok (.getfield 19, 3) := by decide +kernel
theorem s3_36 {rm : Room} {S : List Value} {H : AHeap} {Q : Option Value → AHeap → Prop} {l0 l1 l2 : Slot} {i : Nat} {f0 f1 f2 f3 f4 : Value} (hH : H[i]? = some (.inl (0, [f0, f1, f2, f3, f4]))) (h : W3 rm 39 [l0, l1, l2] (f3 :: S) (H) Q) : W3 rm 36 [l0, l1, l2] (.ref i :: S) H Q := W.getF (c := 0) (j := 3) d3_36 (host := "") (Or.inl (List.mem_of_getElem? (i := 17) rfl)) (Or.inl rfl) rfl rfl hH rfl h
theorem d3_39 : decode prog_20_method_4_code 39 = .ok (.iload_n 1, 1) := by decide +kernel
theorem s3_39 {rm : Room} {S : List Value} {H : AHeap} {Q : Option Value → AHeap → Prop} {l0 l2 : Slot} {x : Int32} (h : W3 rm 40 [l0, .val (.int x), l2] (.int x :: S) (H) Q) : W3 rm 39 [l0, .val (.int x), l2] (S) H Q := W.iload_n d3_39 rfl h
theorem d3_40 : decode prog_20_method_4_code 40 = .ok (.iaload, 1) := by decide +kernel
theorem s3_40 {rm : Room} {S : List Value} {H : AHeap} {Q : Option Value → AHeap → Prop} {l0 l1 l2 : Slot} {i : Nat} {j : Int32} {vs : List Value} {v : Value} (N : Nat) (hH : H[i]? = some (.inr (.int, vs))) (hj : ix j N) (hv : vs[N]? = some v) (h : W3 rm 41 [l0, l1, l2] (v :: S) (H) Q) : W3 rm 40 [l0, l1, l2] (.int j :: .ref i :: S) H Q := W.xaload (Or.inl ⟨rfl, rfl⟩) d3_40 hH hj hv h
theorem d3_41 : decode prog_20_method_4_code 41 = .ok (.aload_n 0, 1) := by decide +kernel
theorem s3_41 {rm : Room} {S : List Value} {H : AHeap} {Q : Option Value → AHeap → Prop} {l1 l2 : Slot} {i : Nat} (h : W3 rm 42 [.val (.ref i), l1, l2] (.ref i :: S) (H) Q) : W3 rm 41 [.val (.ref i), l1, l2] (S) H Q := W.aload_n d3_41 rfl rfl h
theorem s3_41n {rm : Room} {S : List Value} {H : AHeap} {Q : Option Value → AHeap → Prop} {l1 l2 : Slot}  (h : W3 rm 42 [.val .null, l1, l2] (.null :: S) (H) Q) : W3 rm 41 [.val .null, l1, l2] (S) H Q := W.aload_n d3_41 rfl rfl h
theorem d3_42 : decode prog_20_method_4_code 42 = .ok (.getfield 22, 3) := by decide +kernel
theorem s3_42 {rm : Room} {S : List Value} {H : AHeap} {Q : Option Value → AHeap → Prop} {l0 l1 l2 : Slot} {i : Nat} {f0 f1 f2 f3 f4 : Value} (hH : H[i]? = some (.inl (0, [f0, f1, f2, f3, f4]))) (h : W3 rm 45 [l0, l1, l2] (f4 :: S) (H) Q) : W3 rm 42 [l0, l1, l2] (.ref i :: S) H Q := W.getF (c := 0) (j := 4) d3_42 (host := "") (Or.inl (List.mem_of_getElem? (i := 19) rfl)) (Or.inl rfl) rfl rfl hH rfl h
theorem d3_45 : decode prog_20_method_4_code 45 = .ok (.iload_n 1, 1) := by decide +kernel
theorem s3_45 {rm : Room} {S : List Value} {H : AHeap} {Q : Option Value → AHeap → Prop} {l0 l2 : Slot} {x : Int32} (h : W3 rm 46 [l0, .val (.int x), l2] (.int x :: S) (H) Q) : W3 rm 45 [l0, .val (.int x), l2] (S) H Q := W.iload_n d3_45 rfl h
theorem d3_46 : decode prog_20_method_4_code 46 = .ok (.iaload, 1) := by decide +kernel
theorem s3_46 {rm : Room} {S : List Value} {H : AHeap} {Q : Option Value → AHeap → Prop} {l0 l1 l2 : Slot} {i : Nat} {j : Int32} {vs : List Value} {v : Value} (N : Nat) (hH : H[i]? = some (.inr (.int, vs))) (hj : ix j N) (hv : vs[N]? = some v) (h : W3 rm 47 [l0, l1, l2] (v :: S) (H) Q) : W3 rm 46 [l0, l1, l2] (.int j :: .ref i :: S) H Q := W.xaload (Or.inl ⟨rfl, rfl⟩) d3_46 hH hj hv h
theorem d3_47 : decode prog_20_method_4_code 47 = .ok (.iastore, 1) := by decide +kernel
theorem s3_47 {rm : Room} {S : List Value} {H : AHeap} {Q : Option Value → AHeap → Prop} {l0 l1 l2 : Slot} {i : Nat} {j : Int32} {x : Int32} {vs : List Value} (N : Nat) (hH : H[i]? = some (.inr (.int, vs))) (hj : ix j N) (hl : Nat.blt N vs.length = true) (h : W3 rm 48 [l0, l1, l2] (S) (H.set i (.inr (.int, vs.set N (.int x)))) Q) : W3 rm 47 [l0, l1, l2] (.int x :: .int j :: .ref i :: S) H Q := W.iastore d3_47 hH hj hl h
theorem d3_48 : decode prog_20_method_4_code 48 = .ok (.aload_n 0, 1) := by decide +kernel
theorem s3_48 {rm : Room} {S : List Value} {H : AHeap} {Q : Option Value → AHeap → Prop} {l1 l2 : Slot} {i : Nat} (h : W3 rm 49 [.val (.ref i), l1, l2] (.ref i :: S) (H) Q) : W3 rm 48 [.val (.ref i), l1, l2] (S) H Q := W.aload_n d3_48 rfl rfl h
theorem s3_48n {rm : Room} {S : List Value} {H : AHeap} {Q : Option Value → AHeap → Prop} {l1 l2 : Slot}  (h : W3 rm 49 [.val .null, l1, l2] (.null :: S) (H) Q) : W3 rm 48 [.val .null, l1, l2] (S) H Q := W.aload_n d3_48 rfl rfl h
theorem d3_49 : decode prog_20_method_4_code 49 = .ok (.getfield 22, 3) := by decide +kernel
theorem s3_49 {rm : Room} {S : List Value} {H : AHeap} {Q : Option Value → AHeap → Prop} {l0 l1 l2 : Slot} {i : Nat} {f0 f1 f2 f3 f4 : Value} (hH : H[i]? = some (.inl (0, [f0, f1, f2, f3, f4]))) (h : W3 rm 52 [l0, l1, l2] (f4 :: S) (H) Q) : W3 rm 49 [l0, l1, l2] (.ref i :: S) H Q := W.getF (c := 0) (j := 4) d3_49 (host := "") (Or.inl (List.mem_of_getElem? (i := 19) rfl)) (Or.inl rfl) rfl rfl hH rfl h
theorem d3_52 : decode prog_20_method_4_code 52 = .ok (.iload_n 1, 1) := by decide +kernel
theorem s3_52 {rm : Room} {S : List Value} {H : AHeap} {Q : Option Value → AHeap → Prop} {l0 l2 : Slot} {x : Int32} (h : W3 rm 53 [l0, .val (.int x), l2] (.int x :: S) (H) Q) : W3 rm 52 [l0, .val (.int x), l2] (S) H Q := W.iload_n d3_52 rfl h
theorem d3_53 : decode prog_20_method_4_code 53 = .ok (.iaload, 1) := by decide +kernel
theorem s3_53 {rm : Room} {S : List Value} {H : AHeap} {Q : Option Value → AHeap → Prop} {l0 l1 l2 : Slot} {i : Nat} {j : Int32} {vs : List Value} {v : Value} (N : Nat) (hH : H[i]? = some (.inr (.int, vs))) (hj : ix j N) (hv : vs[N]? = some v) (h : W3 rm 54 [l0, l1, l2] (v :: S) (H) Q) : W3 rm 53 [l0, l1, l2] (.int j :: .ref i :: S) H Q := W.xaload (Or.inl ⟨rfl, rfl⟩) d3_53 hH hj hv h
theorem d3_54 : decode prog_20_method_4_code 54 = .ok (.ifCond .ne 18, 3) := by decide +kernel
theorem s3_54 {rm : Room} {S : List Value} {H : AHeap} {Q : Option Value → AHeap → Prop} {l0 l1 l2 : Slot} {x : Int32} (h1 : ¬ x = 0 → W3 rm 72 [l0, l1, l2] S H Q) (h2 : x = 0 → W3 rm 57 [l0, l1, l2] S H Q) : W3 rm 54 [l0, l1, l2] (.int x :: S) H Q := W.ifc d3_54 (by decide) (by decide) h1 h2
theorem d3_57 : decode prog_20_method_4_code 57 = .ok (.aload_n 0, 1) := by decide +kernel
theorem s3_57 {rm : Room} {S : List Value} {H : AHeap} {Q : Option Value → AHeap → Prop} {l1 l2 : Slot} {i : Nat} (h : W3 rm 58 [.val (.ref i), l1, l2] (.ref i :: S) (H) Q) : W3 rm 57 [.val (.ref i), l1, l2] (S) H Q := W.aload_n d3_57 rfl rfl h
theorem s3_57n {rm : Room} {S : List Value} {H : AHeap} {Q : Option Value → AHeap → Prop} {l1 l2 : Slot}  (h : W3 rm 58 [.val .null, l1, l2] (.null :: S) (H) Q) : W3 rm 57 [.val .null, l1, l2] (S) H Q := W.aload_n d3_57 rfl rfl h
theorem d3_58 : decode prog_20_method_4_code 58 = .ok (.getfield 13, 3) := by decide +kernel
theorem s3_58 {rm : Room} {S : List Value} {H : AHeap} {Q : Option Value → AHeap → Prop} {l0 l1 l2 : Slot} {i : Nat} {f0 f1 f2 f3 f4 : Value} (hH : H[i]? = some (.inl (0, [f0, f1, f2, f3, f4]))) (h : W3 rm 61 [l0, l1, l2] (f1 :: S) (H) Q) : W3 rm 58 [l0, l1, l2] (.ref i :: S) H Q := W.getF (c := 0) (j := 1) d3_58 (host := "") (Or.inl (List.mem_of_getElem? (i := 13) rfl)) (Or.inl rfl) rfl rfl hH rfl h
theorem d3_61 : decode prog_20_method_4_code 61 = .ok (.iload_n 2, 1) := by decide +kernel
theorem s3_61 {rm : Room} {S : List Value} {H : AHeap} {Q : Option Value → AHeap → Prop} {l0 l1 : Slot} {x : Int32} (h : W3 rm 62 [l0, l1, .val (.int x)] (.int x :: S) (H) Q) : W3 rm 61 [l0, l1, .val (.int x)] (S) H Q := W.iload_n d3_61 rfl h
theorem d3_62 : decode prog_20_method_4_code 62 = .ok (.aload_n 0, 1) := by decide +kernel
theorem s3_62 {rm : Room} {S : List Value} {H : AHeap} {Q : Option Value → AHeap → Prop} {l1 l2 : Slot} {i : Nat} (h : W3 rm 63 [.val (.ref i), l1, l2] (.ref i :: S) (H) Q) : W3 rm 62 [.val (.ref i), l1, l2] (S) H Q := W.aload_n d3_62 rfl rfl h
theorem s3_62n {rm : Room} {S : List Value} {H : AHeap} {Q : Option Value → AHeap → Prop} {l1 l2 : Slot}  (h : W3 rm 63 [.val .null, l1, l2] (.null :: S) (H) Q) : W3 rm 62 [.val .null, l1, l2] (S) H Q := W.aload_n d3_62 rfl rfl h
theorem d3_63 : decode prog_20_method_4_code 63 = .ok (.getfield 19, 3) := by decide +kernel
theorem s3_63 {rm : Room} {S : List Value} {H : AHeap} {Q : Option Value → AHeap → Prop} {l0 l1 l2 : Slot} {i : Nat} {f0 f1 f2 f3 f4 : Value} (hH : H[i]? = some (.inl (0, [f0, f1, f2, f3, f4]))) (h : W3 rm 66 [l0, l1, l2] (f3 :: S) (H) Q) : W3 rm 63 [l0, l1, l2] (.ref i :: S) H Q := W.getF (c := 0) (j := 3) d3_63 (host := "") (Or.inl (List.mem_of_getElem? (i := 17) rfl)) (Or.inl rfl) rfl rfl hH rfl h
theorem d3_66 : decode prog_20_method_4_code 66 = .ok (.iload_n 1, 1) := by decide +kernel
theorem s3_66 {rm : Room} {S : List Value} {H : AHeap} {Q : Option Value → AHeap → Prop} {l0 l2 : Slot} {x : Int32} (h : W3 rm 67 [l0, .val (.int x), l2] (.int x :: S) (H) Q) : W3 rm 66 [l0, .val (.int x), l2] (S) H Q := W.iload_n d3_66 rfl h
theorem d3_67 : decode prog_20_method_4_code 67 = .ok (.iaload, 1) := by decide +kernel
theorem s3_67 {rm : Room} {S : List Value} {H : AHeap} {Q : Option Value → AHeap → Prop} {l0 l1 l2 : Slot} {i : Nat} {j : Int32} {vs : List Value} {v : Value} (N : Nat) (hH : H[i]? = some (.inr (.int, vs))) (hj : ix j N) (hv : vs[N]? = some v) (h : W3 rm 68 [l0, l1, l2] (v :: S) (H) Q) : W3 rm 67 [l0, l1, l2] (.int j :: .ref i :: S) H Q := W.xaload (Or.inl ⟨rfl, rfl⟩) d3_67 hH hj hv h
theorem d3_68 : decode prog_20_method_4_code 68 = .ok (.iastore, 1) := by decide +kernel
theorem s3_68 {rm : Room} {S : List Value} {H : AHeap} {Q : Option Value → AHeap → Prop} {l0 l1 l2 : Slot} {i : Nat} {j : Int32} {x : Int32} {vs : List Value} (N : Nat) (hH : H[i]? = some (.inr (.int, vs))) (hj : ix j N) (hl : Nat.blt N vs.length = true) (h : W3 rm 69 [l0, l1, l2] (S) (H.set i (.inr (.int, vs.set N (.int x)))) Q) : W3 rm 68 [l0, l1, l2] (.int x :: .int j :: .ref i :: S) H Q := W.iastore d3_68 hH hj hl h
theorem d3_69 : decode prog_20_method_4_code 69 = .ok (.goto 20, 3) := by decide +kernel
theorem s3_69 {rm : Room} {S : List Value} {H : AHeap} {Q : Option Value → AHeap → Prop} {l0 l1 l2 : Slot}  (h : W3 rm 89 [l0, l1, l2] (S) (H) Q) : W3 rm 69 [l0, l1, l2] (S) H Q := W.goto d3_69 (by decide) (by decide) h
theorem d3_72 : decode prog_20_method_4_code 72 = .ok (.aload_n 0, 1) := by decide +kernel
theorem s3_72 {rm : Room} {S : List Value} {H : AHeap} {Q : Option Value → AHeap → Prop} {l1 l2 : Slot} {i : Nat} (h : W3 rm 73 [.val (.ref i), l1, l2] (.ref i :: S) (H) Q) : W3 rm 72 [.val (.ref i), l1, l2] (S) H Q := W.aload_n d3_72 rfl rfl h
theorem s3_72n {rm : Room} {S : List Value} {H : AHeap} {Q : Option Value → AHeap → Prop} {l1 l2 : Slot}  (h : W3 rm 73 [.val .null, l1, l2] (.null :: S) (H) Q) : W3 rm 72 [.val .null, l1, l2] (S) H Q := W.aload_n d3_72 rfl rfl h
theorem d3_73 : decode prog_20_method_4_code 73 = .ok (.getfield 19, 3) := by decide +kernel
theorem s3_73 {rm : Room} {S : List Value} {H : AHeap} {Q : Option Value → AHeap → Prop} {l0 l1 l2 : Slot} {i : Nat} {f0 f1 f2 f3 f4 : Value} (hH : H[i]? = some (.inl (0, [f0, f1, f2, f3, f4]))) (h : W3 rm 76 [l0, l1, l2] (f3 :: S) (H) Q) : W3 rm 73 [l0, l1, l2] (.ref i :: S) H Q := W.getF (c := 0) (j := 3) d3_73 (host := "") (Or.inl (List.mem_of_getElem? (i := 17) rfl)) (Or.inl rfl) rfl rfl hH rfl h
theorem d3_76 : decode prog_20_method_4_code 76 = .ok (.aload_n 0, 1) := by decide +kernel
theorem s3_76 {rm : Room} {S : List Value} {H : AHeap} {Q : Option Value → AHeap → Prop} {l1 l2 : Slot} {i : Nat} (h : W3 rm 77 [.val (.ref i), l1, l2] (.ref i :: S) (H) Q) : W3 rm 76 [.val (.ref i), l1, l2] (S) H Q := W.aload_n d3_76 rfl rfl h
theorem s3_76n {rm : Room} {S : List Value} {H : AHeap} {Q : Option Value → AHeap → Prop} {l1 l2 : Slot}  (h : W3 rm 77 [.val .null, l1, l2] (.null :: S) (H) Q) : W3 rm 76 [.val .null, l1, l2] (S) H Q := W.aload_n d3_76 rfl rfl h
theorem d3_77 : decode prog_20_method_4_code 77 = .ok (.getfield 22, 3) := by decide +kernel
theorem s3_77 {rm : Room} {S : List Value} {H : AHeap} {Q : Option Value → AHeap → Prop} {l0 l1 l2 : Slot} {i : Nat} {f0 f1 f2 f3 f4 : Value} (hH : H[i]? = some (.inl (0, [f0, f1, f2, f3, f4]))) (h : W3 rm 80 [l0, l1, l2] (f4 :: S) (H) Q) : W3 rm 77 [l0, l1, l2] (.ref i :: S) H Q := W.getF (c := 0) (j := 4) d3_77 (host := "") (Or.inl (List.mem_of_getElem? (i := 19) rfl)) (Or.inl rfl) rfl rfl hH rfl h
theorem d3_80 : decode prog_20_method_4_code 80 = .ok (.iload_n 1, 1) := by decide +kernel
theorem s3_80 {rm : Room} {S : List Value} {H : AHeap} {Q : Option Value → AHeap → Prop} {l0 l2 : Slot} {x : Int32} (h : W3 rm 81 [l0, .val (.int x), l2] (.int x :: S) (H) Q) : W3 rm 80 [l0, .val (.int x), l2] (S) H Q := W.iload_n d3_80 rfl h
theorem d3_81 : decode prog_20_method_4_code 81 = .ok (.iaload, 1) := by decide +kernel
theorem s3_81 {rm : Room} {S : List Value} {H : AHeap} {Q : Option Value → AHeap → Prop} {l0 l1 l2 : Slot} {i : Nat} {j : Int32} {vs : List Value} {v : Value} (N : Nat) (hH : H[i]? = some (.inr (.int, vs))) (hj : ix j N) (hv : vs[N]? = some v) (h : W3 rm 82 [l0, l1, l2] (v :: S) (H) Q) : W3 rm 81 [l0, l1, l2] (.int j :: .ref i :: S) H Q := W.xaload (Or.inl ⟨rfl, rfl⟩) d3_81 hH hj hv h
theorem d3_82 : decode prog_20_method_4_code 82 = .ok (.aload_n 0, 1) := by decide +kernel
theorem s3_82 {rm : Room} {S : List Value} {H : AHeap} {Q : Option Value → AHeap → Prop} {l1 l2 : Slot} {i : Nat} (h : W3 rm 83 [.val (.ref i), l1, l2] (.ref i :: S) (H) Q) : W3 rm 82 [.val (.ref i), l1, l2] (S) H Q := W.aload_n d3_82 rfl rfl h
theorem s3_82n {rm : Room} {S : List Value} {H : AHeap} {Q : Option Value → AHeap → Prop} {l1 l2 : Slot}  (h : W3 rm 83 [.val .null, l1, l2] (.null :: S) (H) Q) : W3 rm 82 [.val .null, l1, l2] (S) H Q := W.aload_n d3_82 rfl rfl h
theorem d3_83 : decode prog_20_method_4_code 83 = .ok (.getfield 19, 3) := by decide +kernel
theorem s3_83 {rm : Room} {S : List Value} {H : AHeap} {Q : Option Value → AHeap → Prop} {l0 l1 l2 : Slot} {i : Nat} {f0 f1 f2 f3 f4 : Value} (hH : H[i]? = some (.inl (0, [f0, f1, f2, f3, f4]))) (h : W3 rm 86 [l0, l1, l2] (f3 :: S) (H) Q) : W3 rm 83 [l0, l1, l2] (.ref i :: S) H Q := W.getF (c := 0) (j := 3) d3_83 (host := "") (Or.inl (List.mem_of_getElem? (i := 17) rfl)) (Or.inl rfl) rfl rfl hH rfl h
theorem d3_86 : decode prog_20_method_4_code 86 = .ok (.iload_n 1, 1) := by decide +kernel
theorem s3_86 {rm : Room} {S : List Value} {H : AHeap} {Q : Option Value → AHeap → Prop} {l0 l2 : Slot} {x : Int32} (h : W3 rm 87 [l0, .val (.int x), l2] (.int x :: S) (H) Q) : W3 rm 86 [l0, .val (.int x), l2] (S) H Q := W.iload_n d3_86 rfl h
theorem d3_87 : decode prog_20_method_4_code 87 = .ok (.iaload, 1) := by decide +kernel
theorem s3_87 {rm : Room} {S : List Value} {H : AHeap} {Q : Option Value → AHeap → Prop} {l0 l1 l2 : Slot} {i : Nat} {j : Int32} {vs : List Value} {v : Value} (N : Nat) (hH : H[i]? = some (.inr (.int, vs))) (hj : ix j N) (hv : vs[N]? = some v) (h : W3 rm 88 [l0, l1, l2] (v :: S) (H) Q) : W3 rm 87 [l0, l1, l2] (.int j :: .ref i :: S) H Q := W.xaload (Or.inl ⟨rfl, rfl⟩) d3_87 hH hj hv h
theorem d3_88 : decode prog_20_method_4_code 88 = .ok (.iastore, 1) := by decide +kernel
theorem s3_88 {rm : Room} {S : List Value} {H : AHeap} {Q : Option Value → AHeap → Prop} {l0 l1 l2 : Slot} {i : Nat} {j : Int32} {x : Int32} {vs : List Value} (N : Nat) (hH : H[i]? = some (.inr (.int, vs))) (hj : ix j N) (hl : Nat.blt N vs.length = true) (h : W3 rm 89 [l0, l1, l2] (S) (H.set i (.inr (.int, vs.set N (.int x)))) Q) : W3 rm 88 [l0, l1, l2] (.int x :: .int j :: .ref i :: S) H Q := W.iastore d3_88 hH hj hl h
theorem d3_89 : decode prog_20_method_4_code 89 = .ok (.aload_n 0, 1) := by decide +kernel
theorem s3_89 {rm : Room} {S : List Value} {H : AHeap} {Q : Option Value → AHeap → Prop} {l1 l2 : Slot} {i : Nat} (h : W3 rm 90 [.val (.ref i), l1, l2] (.ref i :: S) (H) Q) : W3 rm 89 [.val (.ref i), l1, l2] (S) H Q := W.aload_n d3_89 rfl rfl h
theorem s3_89n {rm : Room} {S : List Value} {H : AHeap} {Q : Option Value → AHeap → Prop} {l1 l2 : Slot}  (h : W3 rm 90 [.val .null, l1, l2] (.null :: S) (H) Q) : W3 rm 89 [.val .null, l1, l2] (S) H Q := W.aload_n d3_89 rfl rfl h
theorem d3_90 : decode prog_20_method_4_code 90 = .ok (.getfield 16, 3) := by decide +kernel
theorem s3_90 {rm : Room} {S : List Value} {H : AHeap} {Q : Option Value → AHeap → Prop} {l0 l1 l2 : Slot} {i : Nat} {f0 f1 f2 f3 f4 : Value} (hH : H[i]? = some (.inl (0, [f0, f1, f2, f3, f4]))) (h : W3 rm 93 [l0, l1, l2] (f2 :: S) (H) Q) : W3 rm 90 [l0, l1, l2] (.ref i :: S) H Q := W.getF (c := 0) (j := 2) d3_90 (host := "") (Or.inl (List.mem_of_getElem? (i := 15) rfl)) (Or.inl rfl) rfl rfl hH rfl h
theorem d3_93 : decode prog_20_method_4_code 93 = .ok (.iload_n 1, 1) := by decide +kernel
theorem s3_93 {rm : Room} {S : List Value} {H : AHeap} {Q : Option Value → AHeap → Prop} {l0 l2 : Slot} {x : Int32} (h : W3 rm 94 [l0, .val (.int x), l2] (.int x :: S) (H) Q) : W3 rm 93 [l0, .val (.int x), l2] (S) H Q := W.iload_n d3_93 rfl h
theorem d3_94 : decode prog_20_method_4_code 94 = .ok (.iconst 0, 1) := by decide +kernel
theorem s3_94 {rm : Room} {S : List Value} {H : AHeap} {Q : Option Value → AHeap → Prop} {l0 l1 l2 : Slot}  (h : W3 rm 95 [l0, l1, l2] (.int 0 :: S) (H) Q) : W3 rm 94 [l0, l1, l2] (S) H Q := W.iconst' d3_94 (by decide) h
theorem d3_95 : decode prog_20_method_4_code 95 = .ok (.iastore, 1) := by decide +kernel
theorem s3_95 {rm : Room} {S : List Value} {H : AHeap} {Q : Option Value → AHeap → Prop} {l0 l1 l2 : Slot} {i : Nat} {j : Int32} {x : Int32} {vs : List Value} (N : Nat) (hH : H[i]? = some (.inr (.int, vs))) (hj : ix j N) (hl : Nat.blt N vs.length = true) (h : W3 rm 96 [l0, l1, l2] (S) (H.set i (.inr (.int, vs.set N (.int x)))) Q) : W3 rm 95 [l0, l1, l2] (.int x :: .int j :: .ref i :: S) H Q := W.iastore d3_95 hH hj hl h
theorem d3_96 : decode prog_20_method_4_code 96 = .ok (.return_, 1) := by decide +kernel
theorem s3_96 {rm : Room} {H : AHeap} {Q : Option Value → AHeap → Prop} {l0 l1 l2 : Slot} (hQ : Q none H) : W3 rm 96 [l0, l1, l2] [] H Q := W.ret_ d3_96 rfl hQ
theorem e4 {rm : Room} {H : AHeap} {Q : Option Value → AHeap → Prop} {a0 : Nat} {a1 : Int32} (h : W4 rm 0 [.val (.ref a0), .val (.int a1)] [] H Q) : M4 rm [.ref a0, .int a1] H Q := M.of pf4 rfl rfl h
theorem e4L {rm : Room} {H : AHeap} {Q : Option Value → AHeap → Prop} {L : List Slot} {as : List Value} (h : W4 rm 0 L [] H Q) (hl : ent as ++ List.replicate (2 - (ent as).length) .unset = L := by rfl) (hn : L.length = 2 := by rfl) : M4 rm as H Q := M.of pf4 hl hn h
theorem d4_0 : decode prog_20_method_2_code 0 = .ok (.aload_n 0, 1) := by decide +kernel
theorem s4_0 {rm : Room} {S : List Value} {H : AHeap} {Q : Option Value → AHeap → Prop} {l1 : Slot} {i : Nat} (h : W4 rm 1 [.val (.ref i), l1] (.ref i :: S) (H) Q) : W4 rm 0 [.val (.ref i), l1] (S) H Q := W.aload_n d4_0 rfl rfl h
theorem s4_0n {rm : Room} {S : List Value} {H : AHeap} {Q : Option Value → AHeap → Prop} {l1 : Slot}  (h : W4 rm 1 [.val .null, l1] (.null :: S) (H) Q) : W4 rm 0 [.val .null, l1] (S) H Q := W.aload_n d4_0 rfl rfl h
theorem d4_1 : decode prog_20_method_2_code 1 = .ok (.getfield 16, 3) := by decide +kernel
theorem s4_1 {rm : Room} {S : List Value} {H : AHeap} {Q : Option Value → AHeap → Prop} {l0 l1 : Slot} {i : Nat} {f0 f1 f2 f3 f4 : Value} (hH : H[i]? = some (.inl (0, [f0, f1, f2, f3, f4]))) (h : W4 rm 4 [l0, l1] (f2 :: S) (H) Q) : W4 rm 1 [l0, l1] (.ref i :: S) H Q := W.getF (c := 0) (j := 2) d4_1 (host := "") (Or.inl (List.mem_of_getElem? (i := 15) rfl)) (Or.inl rfl) rfl rfl hH rfl h
theorem d4_4 : decode prog_20_method_2_code 4 = .ok (.iload_n 1, 1) := by decide +kernel
theorem s4_4 {rm : Room} {S : List Value} {H : AHeap} {Q : Option Value → AHeap → Prop} {l0 : Slot} {x : Int32} (h : W4 rm 5 [l0, .val (.int x)] (.int x :: S) (H) Q) : W4 rm 4 [l0, .val (.int x)] (S) H Q := W.iload_n d4_4 rfl h
theorem d4_5 : decode prog_20_method_2_code 5 = .ok (.iaload, 1) := by decide +kernel
theorem s4_5 {rm : Room} {S : List Value} {H : AHeap} {Q : Option Value → AHeap → Prop} {l0 l1 : Slot} {i : Nat} {j : Int32} {vs : List Value} {v : Value} (N : Nat) (hH : H[i]? = some (.inr (.int, vs))) (hj : ix j N) (hv : vs[N]? = some v) (h : W4 rm 6 [l0, l1] (v :: S) (H) Q) : W4 rm 5 [l0, l1] (.int j :: .ref i :: S) H Q := W.xaload (Or.inl ⟨rfl, rfl⟩) d4_5 hH hj hv h
theorem d4_6 : decode prog_20_method_2_code 6 = .ok (.ireturn, 1) := by decide +kernel
theorem s4_6 {rm : Room} {S : List Value} {H : AHeap} {Q : Option Value → AHeap → Prop} {l0 l1 : Slot} {x : Int32} (hQ : Q (some (.int x)) H) : W4 rm 6 [l0, l1] (.int x :: S) H Q := W.ireturn d4_6 rfl hQ
theorem e5 {rm : Room} {H : AHeap} {Q : Option Value → AHeap → Prop} {a0 : Nat} {a1 : Int32} (h : W5 rm 0 [.val (.ref a0), .val (.int a1), .unset, .unset, .unset, .unset] [] H Q) : M5 rm [.ref a0, .int a1] H Q := M.of pf5 rfl rfl h
theorem e5L {rm : Room} {H : AHeap} {Q : Option Value → AHeap → Prop} {L : List Slot} {as : List Value} (h : W5 rm 0 L [] H Q) (hl : ent as ++ List.replicate (6 - (ent as).length) .unset = L := by rfl) (hn : L.length = 6 := by rfl) : M5 rm as H Q := M.of pf5 hl hn h
theorem d5_0 : decode prog_20_method_5_code 0 = .ok (.iconst 0, 1) := by decide +kernel
theorem s5_0 {rm : Room} {S : List Value} {H : AHeap} {Q : Option Value → AHeap → Prop} {l0 l1 l2 l3 l4 l5 : Slot}  (h : W5 rm 1 [l0, l1, l2, l3, l4, l5] (.int 0 :: S) (H) Q) : W5 rm 0 [l0, l1, l2, l3, l4, l5] (S) H Q := W.iconst' d5_0 (by decide) h
theorem d5_1 : decode prog_20_method_5_code 1 = .ok (.istore_n 2, 1) := by decide +kernel
theorem s5_1 {rm : Room} {S : List Value} {H : AHeap} {Q : Option Value → AHeap → Prop} {l0 l1 l2 l3 l4 l5 : Slot} {x : Int32} (ho : one l2 = true) (h : W5 rm 2 [l0, l1, .val (.int x), l3, l4, l5] (S) (H) Q) : W5 rm 1 [l0, l1, l2, l3, l4, l5] (.int x :: S) H Q := W.istore_n d5_1 rfl ho h
theorem s5_1w {rm : Room} {S : List Value} {H : AHeap} {Q : Option Value → AHeap → Prop} {l0 l1 l3 l4 l5 : Slot} {w : Value} {x : Int32} (ho : w.category = 2) (h : W5 rm 2 [l0, l1, .val (.int x), .unset, l4, l5] (S) (H) Q) : W5 rm 1 [l0, l1, .val w, l3, l4, l5] (.int x :: S) H Q := W.istore_nW d5_1 rfl ho (Nat.le_of_ble_eq_true rfl) h
theorem s5_1s {rm : Room} {S : List Value} {H : AHeap} {Q : Option Value → AHeap → Prop} {l0 l1 l3 l4 l5 : Slot} {x : Int32} (h : W5 rm 2 [l0, .unset, .val (.int x), l3, l4, l5] (S) (H) Q) : W5 rm 1 [l0, l1, .second, l3, l4, l5] (.int x :: S) H Q := W.istore_nS d5_1 rfl (by decide) h
theorem d5_2 : decode prog_20_method_5_code 2 = .ok (.aload_n 0, 1) := by decide +kernel
theorem s5_2 {rm : Room} {S : List Value} {H : AHeap} {Q : Option Value → AHeap → Prop} {l1 l2 l3 l4 l5 : Slot} {i : Nat} (h : W5 rm 3 [.val (.ref i), l1, l2, l3, l4, l5] (.ref i :: S) (H) Q) : W5 rm 2 [.val (.ref i), l1, l2, l3, l4, l5] (S) H Q := W.aload_n d5_2 rfl rfl h
theorem s5_2n {rm : Room} {S : List Value} {H : AHeap} {Q : Option Value → AHeap → Prop} {l1 l2 l3 l4 l5 : Slot}  (h : W5 rm 3 [.val .null, l1, l2, l3, l4, l5] (.null :: S) (H) Q) : W5 rm 2 [.val .null, l1, l2, l3, l4, l5] (S) H Q := W.aload_n d5_2 rfl rfl h
theorem d5_3 : decode prog_20_method_5_code 3 = .ok (.getfield 9, 3) := by decide +kernel
theorem s5_3 {rm : Room} {S : List Value} {H : AHeap} {Q : Option Value → AHeap → Prop} {l0 l1 l2 l3 l4 l5 : Slot} {i : Nat} {f0 f1 f2 f3 f4 : Value} (hH : H[i]? = some (.inl (0, [f0, f1, f2, f3, f4]))) (h : W5 rm 6 [l0, l1, l2, l3, l4, l5] (f0 :: S) (H) Q) : W5 rm 3 [l0, l1, l2, l3, l4, l5] (.ref i :: S) H Q := W.getF (c := 0) (j := 0) d5_3 (host := "") (Or.inl (List.mem_of_getElem? (i := 11) rfl)) (Or.inl rfl) rfl rfl hH rfl h
theorem d5_6 : decode prog_20_method_5_code 6 = .ok (.iload_n 1, 1) := by decide +kernel
theorem s5_6 {rm : Room} {S : List Value} {H : AHeap} {Q : Option Value → AHeap → Prop} {l0 l2 l3 l4 l5 : Slot} {x : Int32} (h : W5 rm 7 [l0, .val (.int x), l2, l3, l4, l5] (.int x :: S) (H) Q) : W5 rm 6 [l0, .val (.int x), l2, l3, l4, l5] (S) H Q := W.iload_n d5_6 rfl h
theorem d5_7 : decode prog_20_method_5_code 7 = .ok (.iaload, 1) := by decide +kernel
theorem s5_7 {rm : Room} {S : List Value} {H : AHeap} {Q : Option Value → AHeap → Prop} {l0 l1 l2 l3 l4 l5 : Slot} {i : Nat} {j : Int32} {vs : List Value} {v : Value} (N : Nat) (hH : H[i]? = some (.inr (.int, vs))) (hj : ix j N) (hv : vs[N]? = some v) (h : W5 rm 8 [l0, l1, l2, l3, l4, l5] (v :: S) (H) Q) : W5 rm 7 [l0, l1, l2, l3, l4, l5] (.int j :: .ref i :: S) H Q := W.xaload (Or.inl ⟨rfl, rfl⟩) d5_7 hH hj hv h
theorem d5_8 : decode prog_20_method_5_code 8 = .ok (.istore_n 3, 1) := by decide +kernel
theorem s5_8 {rm : Room} {S : List Value} {H : AHeap} {Q : Option Value → AHeap → Prop} {l0 l1 l2 l3 l4 l5 : Slot} {x : Int32} (ho : one l3 = true) (h : W5 rm 9 [l0, l1, l2, .val (.int x), l4, l5] (S) (H) Q) : W5 rm 8 [l0, l1, l2, l3, l4, l5] (.int x :: S) H Q := W.istore_n d5_8 rfl ho h
theorem s5_8w {rm : Room} {S : List Value} {H : AHeap} {Q : Option Value → AHeap → Prop} {l0 l1 l2 l4 l5 : Slot} {w : Value} {x : Int32} (ho : w.category = 2) (h : W5 rm 9 [l0, l1, l2, .val (.int x), .unset, l5] (S) (H) Q) : W5 rm 8 [l0, l1, l2, .val w, l4, l5] (.int x :: S) H Q := W.istore_nW d5_8 rfl ho (Nat.le_of_ble_eq_true rfl) h
theorem s5_8s {rm : Room} {S : List Value} {H : AHeap} {Q : Option Value → AHeap → Prop} {l0 l1 l2 l4 l5 : Slot} {x : Int32} (h : W5 rm 9 [l0, l1, .unset, .val (.int x), l4, l5] (S) (H) Q) : W5 rm 8 [l0, l1, l2, .second, l4, l5] (.int x :: S) H Q := W.istore_nS d5_8 rfl (by decide) h
theorem d5_9 : decode prog_20_method_5_code 9 = .ok (.iload_n 3, 1) := by decide +kernel
theorem s5_9 {rm : Room} {S : List Value} {H : AHeap} {Q : Option Value → AHeap → Prop} {l0 l1 l2 l4 l5 : Slot} {x : Int32} (h : W5 rm 10 [l0, l1, l2, .val (.int x), l4, l5] (.int x :: S) (H) Q) : W5 rm 9 [l0, l1, l2, .val (.int x), l4, l5] (S) H Q := W.iload_n d5_9 rfl h
theorem d5_10 : decode prog_20_method_5_code 10 = .ok (.ifCond .eq 16, 3) := by decide +kernel
theorem s5_10 {rm : Room} {S : List Value} {H : AHeap} {Q : Option Value → AHeap → Prop} {l0 l1 l2 l3 l4 l5 : Slot} {x : Int32} (h1 : x = 0 → W5 rm 26 [l0, l1, l2, l3, l4, l5] S H Q) (h2 : ¬ x = 0 → W5 rm 13 [l0, l1, l2, l3, l4, l5] S H Q) : W5 rm 10 [l0, l1, l2, l3, l4, l5] (.int x :: S) H Q := W.ifc d5_10 (by decide) (by decide) h1 h2
theorem d5_13 : decode prog_20_method_5_code 13 = .ok (.iinc 2 1, 3) := by decide +kernel
theorem s5_13 {rm : Room} {S : List Value} {H : AHeap} {Q : Option Value → AHeap → Prop} {l0 l1 l3 l4 l5 : Slot} {x : Int32} (h : W5 rm 16 [l0, l1, .val (.int (x + 1)), l3, l4, l5] (S) (H) Q) : W5 rm 13 [l0, l1, .val (.int x), l3, l4, l5] (S) H Q := W.iinc d5_13 (by decide) rfl h
theorem d5_16 : decode prog_20_method_5_code 16 = .ok (.aload_n 0, 1) := by decide +kernel
theorem s5_16 {rm : Room} {S : List Value} {H : AHeap} {Q : Option Value → AHeap → Prop} {l1 l2 l3 l4 l5 : Slot} {i : Nat} (h : W5 rm 17 [.val (.ref i), l1, l2, l3, l4, l5] (.ref i :: S) (H) Q) : W5 rm 16 [.val (.ref i), l1, l2, l3, l4, l5] (S) H Q := W.aload_n d5_16 rfl rfl h
theorem s5_16n {rm : Room} {S : List Value} {H : AHeap} {Q : Option Value → AHeap → Prop} {l1 l2 l3 l4 l5 : Slot}  (h : W5 rm 17 [.val .null, l1, l2, l3, l4, l5] (.null :: S) (H) Q) : W5 rm 16 [.val .null, l1, l2, l3, l4, l5] (S) H Q := W.aload_n d5_16 rfl rfl h
theorem d5_17 : decode prog_20_method_5_code 17 = .ok (.getfield 22, 3) := by decide +kernel
theorem s5_17 {rm : Room} {S : List Value} {H : AHeap} {Q : Option Value → AHeap → Prop} {l0 l1 l2 l3 l4 l5 : Slot} {i : Nat} {f0 f1 f2 f3 f4 : Value} (hH : H[i]? = some (.inl (0, [f0, f1, f2, f3, f4]))) (h : W5 rm 20 [l0, l1, l2, l3, l4, l5] (f4 :: S) (H) Q) : W5 rm 17 [l0, l1, l2, l3, l4, l5] (.ref i :: S) H Q := W.getF (c := 0) (j := 4) d5_17 (host := "") (Or.inl (List.mem_of_getElem? (i := 19) rfl)) (Or.inl rfl) rfl rfl hH rfl h
theorem d5_20 : decode prog_20_method_5_code 20 = .ok (.iload_n 3, 1) := by decide +kernel
theorem s5_20 {rm : Room} {S : List Value} {H : AHeap} {Q : Option Value → AHeap → Prop} {l0 l1 l2 l4 l5 : Slot} {x : Int32} (h : W5 rm 21 [l0, l1, l2, .val (.int x), l4, l5] (.int x :: S) (H) Q) : W5 rm 20 [l0, l1, l2, .val (.int x), l4, l5] (S) H Q := W.iload_n d5_20 rfl h
theorem d5_21 : decode prog_20_method_5_code 21 = .ok (.iaload, 1) := by decide +kernel
theorem s5_21 {rm : Room} {S : List Value} {H : AHeap} {Q : Option Value → AHeap → Prop} {l0 l1 l2 l3 l4 l5 : Slot} {i : Nat} {j : Int32} {vs : List Value} {v : Value} (N : Nat) (hH : H[i]? = some (.inr (.int, vs))) (hj : ix j N) (hv : vs[N]? = some v) (h : W5 rm 22 [l0, l1, l2, l3, l4, l5] (v :: S) (H) Q) : W5 rm 21 [l0, l1, l2, l3, l4, l5] (.int j :: .ref i :: S) H Q := W.xaload (Or.inl ⟨rfl, rfl⟩) d5_21 hH hj hv h
theorem d5_22 : decode prog_20_method_5_code 22 = .ok (.istore_n 3, 1) := by decide +kernel
theorem s5_22 {rm : Room} {S : List Value} {H : AHeap} {Q : Option Value → AHeap → Prop} {l0 l1 l2 l3 l4 l5 : Slot} {x : Int32} (ho : one l3 = true) (h : W5 rm 23 [l0, l1, l2, .val (.int x), l4, l5] (S) (H) Q) : W5 rm 22 [l0, l1, l2, l3, l4, l5] (.int x :: S) H Q := W.istore_n d5_22 rfl ho h
theorem s5_22w {rm : Room} {S : List Value} {H : AHeap} {Q : Option Value → AHeap → Prop} {l0 l1 l2 l4 l5 : Slot} {w : Value} {x : Int32} (ho : w.category = 2) (h : W5 rm 23 [l0, l1, l2, .val (.int x), .unset, l5] (S) (H) Q) : W5 rm 22 [l0, l1, l2, .val w, l4, l5] (.int x :: S) H Q := W.istore_nW d5_22 rfl ho (Nat.le_of_ble_eq_true rfl) h
theorem s5_22s {rm : Room} {S : List Value} {H : AHeap} {Q : Option Value → AHeap → Prop} {l0 l1 l2 l4 l5 : Slot} {x : Int32} (h : W5 rm 23 [l0, l1, .unset, .val (.int x), l4, l5] (S) (H) Q) : W5 rm 22 [l0, l1, l2, .second, l4, l5] (.int x :: S) H Q := W.istore_nS d5_22 rfl (by decide) h
theorem d5_23 : decode prog_20_method_5_code 23 = .ok (.goto (-14), 3) := by decide +kernel
theorem s5_23 {rm : Room} {S : List Value} {H : AHeap} {Q : Option Value → AHeap → Prop} {l0 l1 l2 l3 l4 l5 : Slot}  (h : W5 rm 9 [l0, l1, l2, l3, l4, l5] (S) (H) Q) : W5 rm 23 [l0, l1, l2, l3, l4, l5] (S) H Q := W.goto d5_23 (by decide) (by decide) h
theorem d5_26 : decode prog_20_method_5_code 26 = .ok (.iload_n 2, 1) := by decide +kernel
theorem s5_26 {rm : Room} {S : List Value} {H : AHeap} {Q : Option Value → AHeap → Prop} {l0 l1 l3 l4 l5 : Slot} {x : Int32} (h : W5 rm 27 [l0, l1, .val (.int x), l3, l4, l5] (.int x :: S) (H) Q) : W5 rm 26 [l0, l1, .val (.int x), l3, l4, l5] (S) H Q := W.iload_n d5_26 rfl h
theorem d5_27 : decode prog_20_method_5_code 27 = .ok (.newarray .int, 2) := by decide +kernel
theorem s5_27 {rm : Room} {S : List Value} {H : AHeap} {Q : Option Value → AHeap → Prop} {l0 l1 l2 l3 l4 l5 : Slot} {n : Int32} (i N : Nat) (hn : ix n N) (hi : H.length = i) (hr : nok rm N = true) (h : W5 ⟨rm.frames, rm.cells - 1, rm.slots - N, rm.locals⟩ 29 [l0, l1, l2, l3, l4, l5] (.ref i :: S) (H ++ [.inr (.int, List.replicate N (.int 0))]) Q) : W5 rm 27 [l0, l1, l2, l3, l4, l5] (.int n :: S) H Q := W.newarray (ty := .int) (d := .int 0) d5_27 rfl (List.mem_of_getElem? (i := 1) rfl) rfl hn hi hr h
theorem d5_29 : decode prog_20_method_5_code 29 = .ok (.astore_n 3, 1) := by decide +kernel
theorem s5_29 {rm : Room} {S : List Value} {H : AHeap} {Q : Option Value → AHeap → Prop} {l0 l1 l2 l3 l4 l5 : Slot} {i : Nat} (ho : one l3 = true) (h : W5 rm 30 [l0, l1, l2, .val (.ref i), l4, l5] (S) (H) Q) : W5 rm 29 [l0, l1, l2, l3, l4, l5] (.ref i :: S) H Q := W.astore_n d5_29 rfl ho rfl h
theorem d5_30 : decode prog_20_method_5_code 30 = .ok (.iconst 0, 1) := by decide +kernel
theorem s5_30 {rm : Room} {S : List Value} {H : AHeap} {Q : Option Value → AHeap → Prop} {l0 l1 l2 l3 l4 l5 : Slot}  (h : W5 rm 31 [l0, l1, l2, l3, l4, l5] (.int 0 :: S) (H) Q) : W5 rm 30 [l0, l1, l2, l3, l4, l5] (S) H Q := W.iconst' d5_30 (by decide) h
theorem d5_31 : decode prog_20_method_5_code 31 = .ok (.istore 4, 2) := by decide +kernel
theorem s5_31 {rm : Room} {S : List Value} {H : AHeap} {Q : Option Value → AHeap → Prop} {l0 l1 l2 l3 l4 l5 : Slot} {x : Int32} (ho : one l4 = true) (h : W5 rm 33 [l0, l1, l2, l3, .val (.int x), l5] (S) (H) Q) : W5 rm 31 [l0, l1, l2, l3, l4, l5] (.int x :: S) H Q := W.istore d5_31 rfl ho h
theorem s5_31w {rm : Room} {S : List Value} {H : AHeap} {Q : Option Value → AHeap → Prop} {l0 l1 l2 l3 l5 : Slot} {w : Value} {x : Int32} (ho : w.category = 2) (h : W5 rm 33 [l0, l1, l2, l3, .val (.int x), .unset] (S) (H) Q) : W5 rm 31 [l0, l1, l2, l3, .val w, l5] (.int x :: S) H Q := W.istoreW d5_31 rfl ho (Nat.le_of_ble_eq_true rfl) h
theorem s5_31s {rm : Room} {S : List Value} {H : AHeap} {Q : Option Value → AHeap → Prop} {l0 l1 l2 l3 l5 : Slot} {x : Int32} (h : W5 rm 33 [l0, l1, l2, .unset, .val (.int x), l5] (S) (H) Q) : W5 rm 31 [l0, l1, l2, l3, .second, l5] (.int x :: S) H Q := W.istoreS d5_31 rfl (by decide) h
theorem d5_33 : decode prog_20_method_5_code 33 = .ok (.aload_n 0, 1) := by decide +kernel
theorem s5_33 {rm : Room} {S : List Value} {H : AHeap} {Q : Option Value → AHeap → Prop} {l1 l2 l3 l4 l5 : Slot} {i : Nat} (h : W5 rm 34 [.val (.ref i), l1, l2, l3, l4, l5] (.ref i :: S) (H) Q) : W5 rm 33 [.val (.ref i), l1, l2, l3, l4, l5] (S) H Q := W.aload_n d5_33 rfl rfl h
theorem s5_33n {rm : Room} {S : List Value} {H : AHeap} {Q : Option Value → AHeap → Prop} {l1 l2 l3 l4 l5 : Slot}  (h : W5 rm 34 [.val .null, l1, l2, l3, l4, l5] (.null :: S) (H) Q) : W5 rm 33 [.val .null, l1, l2, l3, l4, l5] (S) H Q := W.aload_n d5_33 rfl rfl h
theorem d5_34 : decode prog_20_method_5_code 34 = .ok (.getfield 9, 3) := by decide +kernel
theorem s5_34 {rm : Room} {S : List Value} {H : AHeap} {Q : Option Value → AHeap → Prop} {l0 l1 l2 l3 l4 l5 : Slot} {i : Nat} {f0 f1 f2 f3 f4 : Value} (hH : H[i]? = some (.inl (0, [f0, f1, f2, f3, f4]))) (h : W5 rm 37 [l0, l1, l2, l3, l4, l5] (f0 :: S) (H) Q) : W5 rm 34 [l0, l1, l2, l3, l4, l5] (.ref i :: S) H Q := W.getF (c := 0) (j := 0) d5_34 (host := "") (Or.inl (List.mem_of_getElem? (i := 11) rfl)) (Or.inl rfl) rfl rfl hH rfl h
theorem d5_37 : decode prog_20_method_5_code 37 = .ok (.iload_n 1, 1) := by decide +kernel
theorem s5_37 {rm : Room} {S : List Value} {H : AHeap} {Q : Option Value → AHeap → Prop} {l0 l2 l3 l4 l5 : Slot} {x : Int32} (h : W5 rm 38 [l0, .val (.int x), l2, l3, l4, l5] (.int x :: S) (H) Q) : W5 rm 37 [l0, .val (.int x), l2, l3, l4, l5] (S) H Q := W.iload_n d5_37 rfl h
theorem d5_38 : decode prog_20_method_5_code 38 = .ok (.iaload, 1) := by decide +kernel
theorem s5_38 {rm : Room} {S : List Value} {H : AHeap} {Q : Option Value → AHeap → Prop} {l0 l1 l2 l3 l4 l5 : Slot} {i : Nat} {j : Int32} {vs : List Value} {v : Value} (N : Nat) (hH : H[i]? = some (.inr (.int, vs))) (hj : ix j N) (hv : vs[N]? = some v) (h : W5 rm 39 [l0, l1, l2, l3, l4, l5] (v :: S) (H) Q) : W5 rm 38 [l0, l1, l2, l3, l4, l5] (.int j :: .ref i :: S) H Q := W.xaload (Or.inl ⟨rfl, rfl⟩) d5_38 hH hj hv h
theorem d5_39 : decode prog_20_method_5_code 39 = .ok (.istore 5, 2) := by decide +kernel
theorem s5_39 {rm : Room} {S : List Value} {H : AHeap} {Q : Option Value → AHeap → Prop} {l0 l1 l2 l3 l4 l5 : Slot} {x : Int32} (ho : one l5 = true) (h : W5 rm 41 [l0, l1, l2, l3, l4, .val (.int x)] (S) (H) Q) : W5 rm 39 [l0, l1, l2, l3, l4, l5] (.int x :: S) H Q := W.istore d5_39 rfl ho h
theorem s5_39s {rm : Room} {S : List Value} {H : AHeap} {Q : Option Value → AHeap → Prop} {l0 l1 l2 l3 l4 : Slot} {x : Int32} (h : W5 rm 41 [l0, l1, l2, l3, .unset, .val (.int x)] (S) (H) Q) : W5 rm 39 [l0, l1, l2, l3, l4, .second] (.int x :: S) H Q := W.istoreS d5_39 rfl (by decide) h
theorem d5_41 : decode prog_20_method_5_code 41 = .ok (.iload 5, 2) := by decide +kernel
theorem s5_41 {rm : Room} {S : List Value} {H : AHeap} {Q : Option Value → AHeap → Prop} {l0 l1 l2 l3 l4 : Slot} {x : Int32} (h : W5 rm 43 [l0, l1, l2, l3, l4, .val (.int x)] (.int x :: S) (H) Q) : W5 rm 41 [l0, l1, l2, l3, l4, .val (.int x)] (S) H Q := W.iload d5_41 rfl h
theorem d5_43 : decode prog_20_method_5_code 43 = .ok (.ifCond .eq 24, 3) := by decide +kernel
theorem s5_43 {rm : Room} {S : List Value} {H : AHeap} {Q : Option Value → AHeap → Prop} {l0 l1 l2 l3 l4 l5 : Slot} {x : Int32} (h1 : x = 0 → W5 rm 67 [l0, l1, l2, l3, l4, l5] S H Q) (h2 : ¬ x = 0 → W5 rm 46 [l0, l1, l2, l3, l4, l5] S H Q) : W5 rm 43 [l0, l1, l2, l3, l4, l5] (.int x :: S) H Q := W.ifc d5_43 (by decide) (by decide) h1 h2
theorem d5_46 : decode prog_20_method_5_code 46 = .ok (.aload_n 3, 1) := by decide +kernel
theorem s5_46 {rm : Room} {S : List Value} {H : AHeap} {Q : Option Value → AHeap → Prop} {l0 l1 l2 l4 l5 : Slot} {i : Nat} (h : W5 rm 47 [l0, l1, l2, .val (.ref i), l4, l5] (.ref i :: S) (H) Q) : W5 rm 46 [l0, l1, l2, .val (.ref i), l4, l5] (S) H Q := W.aload_n d5_46 rfl rfl h
theorem s5_46n {rm : Room} {S : List Value} {H : AHeap} {Q : Option Value → AHeap → Prop} {l0 l1 l2 l4 l5 : Slot}  (h : W5 rm 47 [l0, l1, l2, .val .null, l4, l5] (.null :: S) (H) Q) : W5 rm 46 [l0, l1, l2, .val .null, l4, l5] (S) H Q := W.aload_n d5_46 rfl rfl h
theorem d5_47 : decode prog_20_method_5_code 47 = .ok (.iload 4, 2) := by decide +kernel
theorem s5_47 {rm : Room} {S : List Value} {H : AHeap} {Q : Option Value → AHeap → Prop} {l0 l1 l2 l3 l5 : Slot} {x : Int32} (h : W5 rm 49 [l0, l1, l2, l3, .val (.int x), l5] (.int x :: S) (H) Q) : W5 rm 47 [l0, l1, l2, l3, .val (.int x), l5] (S) H Q := W.iload d5_47 rfl h
theorem d5_49 : decode prog_20_method_5_code 49 = .ok (.iload 5, 2) := by decide +kernel
theorem s5_49 {rm : Room} {S : List Value} {H : AHeap} {Q : Option Value → AHeap → Prop} {l0 l1 l2 l3 l4 : Slot} {x : Int32} (h : W5 rm 51 [l0, l1, l2, l3, l4, .val (.int x)] (.int x :: S) (H) Q) : W5 rm 49 [l0, l1, l2, l3, l4, .val (.int x)] (S) H Q := W.iload d5_49 rfl h
theorem d5_51 : decode prog_20_method_5_code 51 = .ok (.iastore, 1) := by decide +kernel
theorem s5_51 {rm : Room} {S : List Value} {H : AHeap} {Q : Option Value → AHeap → Prop} {l0 l1 l2 l3 l4 l5 : Slot} {i : Nat} {j : Int32} {x : Int32} {vs : List Value} (N : Nat) (hH : H[i]? = some (.inr (.int, vs))) (hj : ix j N) (hl : Nat.blt N vs.length = true) (h : W5 rm 52 [l0, l1, l2, l3, l4, l5] (S) (H.set i (.inr (.int, vs.set N (.int x)))) Q) : W5 rm 51 [l0, l1, l2, l3, l4, l5] (.int x :: .int j :: .ref i :: S) H Q := W.iastore d5_51 hH hj hl h
theorem d5_52 : decode prog_20_method_5_code 52 = .ok (.iinc 4 1, 3) := by decide +kernel
theorem s5_52 {rm : Room} {S : List Value} {H : AHeap} {Q : Option Value → AHeap → Prop} {l0 l1 l2 l3 l5 : Slot} {x : Int32} (h : W5 rm 55 [l0, l1, l2, l3, .val (.int (x + 1)), l5] (S) (H) Q) : W5 rm 52 [l0, l1, l2, l3, .val (.int x), l5] (S) H Q := W.iinc d5_52 (by decide) rfl h
theorem d5_55 : decode prog_20_method_5_code 55 = .ok (.aload_n 0, 1) := by decide +kernel
theorem s5_55 {rm : Room} {S : List Value} {H : AHeap} {Q : Option Value → AHeap → Prop} {l1 l2 l3 l4 l5 : Slot} {i : Nat} (h : W5 rm 56 [.val (.ref i), l1, l2, l3, l4, l5] (.ref i :: S) (H) Q) : W5 rm 55 [.val (.ref i), l1, l2, l3, l4, l5] (S) H Q := W.aload_n d5_55 rfl rfl h
theorem s5_55n {rm : Room} {S : List Value} {H : AHeap} {Q : Option Value → AHeap → Prop} {l1 l2 l3 l4 l5 : Slot}  (h : W5 rm 56 [.val .null, l1, l2, l3, l4, l5] (.null :: S) (H) Q) : W5 rm 55 [.val .null, l1, l2, l3, l4, l5] (S) H Q := W.aload_n d5_55 rfl rfl h
theorem d5_56 : decode prog_20_method_5_code 56 = .ok (.getfield 22, 3) := by decide +kernel
theorem s5_56 {rm : Room} {S : List Value} {H : AHeap} {Q : Option Value → AHeap → Prop} {l0 l1 l2 l3 l4 l5 : Slot} {i : Nat} {f0 f1 f2 f3 f4 : Value} (hH : H[i]? = some (.inl (0, [f0, f1, f2, f3, f4]))) (h : W5 rm 59 [l0, l1, l2, l3, l4, l5] (f4 :: S) (H) Q) : W5 rm 56 [l0, l1, l2, l3, l4, l5] (.ref i :: S) H Q := W.getF (c := 0) (j := 4) d5_56 (host := "") (Or.inl (List.mem_of_getElem? (i := 19) rfl)) (Or.inl rfl) rfl rfl hH rfl h
theorem d5_59 : decode prog_20_method_5_code 59 = .ok (.iload 5, 2) := by decide +kernel
theorem s5_59 {rm : Room} {S : List Value} {H : AHeap} {Q : Option Value → AHeap → Prop} {l0 l1 l2 l3 l4 : Slot} {x : Int32} (h : W5 rm 61 [l0, l1, l2, l3, l4, .val (.int x)] (.int x :: S) (H) Q) : W5 rm 59 [l0, l1, l2, l3, l4, .val (.int x)] (S) H Q := W.iload d5_59 rfl h
theorem d5_61 : decode prog_20_method_5_code 61 = .ok (.iaload, 1) := by decide +kernel
theorem s5_61 {rm : Room} {S : List Value} {H : AHeap} {Q : Option Value → AHeap → Prop} {l0 l1 l2 l3 l4 l5 : Slot} {i : Nat} {j : Int32} {vs : List Value} {v : Value} (N : Nat) (hH : H[i]? = some (.inr (.int, vs))) (hj : ix j N) (hv : vs[N]? = some v) (h : W5 rm 62 [l0, l1, l2, l3, l4, l5] (v :: S) (H) Q) : W5 rm 61 [l0, l1, l2, l3, l4, l5] (.int j :: .ref i :: S) H Q := W.xaload (Or.inl ⟨rfl, rfl⟩) d5_61 hH hj hv h
theorem d5_62 : decode prog_20_method_5_code 62 = .ok (.istore 5, 2) := by decide +kernel
theorem s5_62 {rm : Room} {S : List Value} {H : AHeap} {Q : Option Value → AHeap → Prop} {l0 l1 l2 l3 l4 l5 : Slot} {x : Int32} (ho : one l5 = true) (h : W5 rm 64 [l0, l1, l2, l3, l4, .val (.int x)] (S) (H) Q) : W5 rm 62 [l0, l1, l2, l3, l4, l5] (.int x :: S) H Q := W.istore d5_62 rfl ho h
theorem s5_62s {rm : Room} {S : List Value} {H : AHeap} {Q : Option Value → AHeap → Prop} {l0 l1 l2 l3 l4 : Slot} {x : Int32} (h : W5 rm 64 [l0, l1, l2, l3, .unset, .val (.int x)] (S) (H) Q) : W5 rm 62 [l0, l1, l2, l3, l4, .second] (.int x :: S) H Q := W.istoreS d5_62 rfl (by decide) h
theorem d5_64 : decode prog_20_method_5_code 64 = .ok (.goto (-23), 3) := by decide +kernel
theorem s5_64 {rm : Room} {S : List Value} {H : AHeap} {Q : Option Value → AHeap → Prop} {l0 l1 l2 l3 l4 l5 : Slot}  (h : W5 rm 41 [l0, l1, l2, l3, l4, l5] (S) (H) Q) : W5 rm 64 [l0, l1, l2, l3, l4, l5] (S) H Q := W.goto d5_64 (by decide) (by decide) h
theorem d5_67 : decode prog_20_method_5_code 67 = .ok (.aload_n 3, 1) := by decide +kernel
theorem s5_67 {rm : Room} {S : List Value} {H : AHeap} {Q : Option Value → AHeap → Prop} {l0 l1 l2 l4 l5 : Slot} {i : Nat} (h : W5 rm 68 [l0, l1, l2, .val (.ref i), l4, l5] (.ref i :: S) (H) Q) : W5 rm 67 [l0, l1, l2, .val (.ref i), l4, l5] (S) H Q := W.aload_n d5_67 rfl rfl h
theorem s5_67n {rm : Room} {S : List Value} {H : AHeap} {Q : Option Value → AHeap → Prop} {l0 l1 l2 l4 l5 : Slot}  (h : W5 rm 68 [l0, l1, l2, .val .null, l4, l5] (.null :: S) (H) Q) : W5 rm 67 [l0, l1, l2, .val .null, l4, l5] (S) H Q := W.aload_n d5_67 rfl rfl h
theorem d5_68 : decode prog_20_method_5_code 68 = .ok (.areturn, 1) := by decide +kernel
theorem s5_68 {rm : Room} {S : List Value} {H : AHeap} {Q : Option Value → AHeap → Prop} {l0 l1 l2 l3 l4 l5 : Slot} {i : Nat} (hQ : Q (some (.ref i)) H) : W5 rm 68 [l0, l1, l2, l3, l4, l5] (.ref i :: S) H Q := W.areturn d5_68 rfl rfl rfl hQ
theorem e6 {rm : Room} {H : AHeap} {Q : Option Value → AHeap → Prop} {a0 : Nat} {a1 : Nat} {a2 : Int32} (h : W6 rm 0 [.val (.ref a0), .val (.ref a1), .val (.int a2)] [] H Q) : M6 rm [.ref a0, .ref a1, .int a2] H Q := M.of pf6 rfl rfl h
theorem e6L {rm : Room} {H : AHeap} {Q : Option Value → AHeap → Prop} {L : List Slot} {as : List Value} (h : W6 rm 0 L [] H Q) (hl : ent as ++ List.replicate (3 - (ent as).length) .unset = L := by rfl) (hn : L.length = 3 := by rfl) : M6 rm as H Q := M.of pf6 hl hn h
theorem d6_0 : decode method_2_code 0 = .ok (.aload_n 0, 1) := by decide +kernel
theorem s6_0 {rm : Room} {S : List Value} {H : AHeap} {Q : Option Value → AHeap → Prop} {l1 l2 : Slot} {i : Nat} (h : W6 rm 1 [.val (.ref i), l1, l2] (.ref i :: S) (H) Q) : W6 rm 0 [.val (.ref i), l1, l2] (S) H Q := W.aload_n d6_0 rfl rfl h
theorem s6_0n {rm : Room} {S : List Value} {H : AHeap} {Q : Option Value → AHeap → Prop} {l1 l2 : Slot}  (h : W6 rm 1 [.val .null, l1, l2] (.null :: S) (H) Q) : W6 rm 0 [.val .null, l1, l2] (S) H Q := W.aload_n d6_0 rfl rfl h
theorem d6_1 : decode method_2_code 1 = .ok (.arraylength, 1) := by decide +kernel
theorem s6_1 {rm : Room} {S : List Value} {H : AHeap} {Q : Option Value → AHeap → Prop} {l0 l1 l2 : Slot} {i : Nat} {ty : FieldType} {vs : List Value} (hH : H[i]? = some (.inr (ty, vs))) (h : W6 rm 2 [l0, l1, l2] (.int (Int32.ofNat vs.length) :: S) (H) Q) : W6 rm 1 [l0, l1, l2] (.ref i :: S) H Q := W.arraylength d6_1 hH h
theorem s6_1k {rm : Room} {S : List Value} {H : AHeap} {Q : Option Value → AHeap → Prop} {l0 l1 l2 : Slot} {i : Nat} {ty : FieldType} {vs : List Value} (n : Int32) (hH : H[i]? = some (.inr (ty, vs))) (hn : Int32.ofNat vs.length = n) (h : W6 rm 2 [l0, l1, l2] (.int n :: S) (H) Q) : W6 rm 1 [l0, l1, l2] (.ref i :: S) H Q := W.arraylength d6_1 hH (by rw [hn]; exact h)
theorem d6_2 : decode method_2_code 2 = .ok (.iload_n 2, 1) := by decide +kernel
theorem s6_2 {rm : Room} {S : List Value} {H : AHeap} {Q : Option Value → AHeap → Prop} {l0 l1 : Slot} {x : Int32} (h : W6 rm 3 [l0, l1, .val (.int x)] (.int x :: S) (H) Q) : W6 rm 2 [l0, l1, .val (.int x)] (S) H Q := W.iload_n d6_2 rfl h
theorem d6_3 : decode method_2_code 3 = .ok (.if_icmp .ne 49, 3) := by decide +kernel
theorem s6_3 {rm : Room} {S : List Value} {H : AHeap} {Q : Option Value → AHeap → Prop} {l0 l1 l2 : Slot} {x y : Int32} (h1 : ¬ x = y → W6 rm 52 [l0, l1, l2] S H Q) (h2 : x = y → W6 rm 6 [l0, l1, l2] S H Q) : W6 rm 3 [l0, l1, l2] (.int y :: .int x :: S) H Q := W.icmp d6_3 (by decide) (by decide) h1 h2
theorem d6_6 : decode method_2_code 6 = .ok (.iload_n 2, 1) := by decide +kernel
theorem s6_6 {rm : Room} {S : List Value} {H : AHeap} {Q : Option Value → AHeap → Prop} {l0 l1 : Slot} {x : Int32} (h : W6 rm 7 [l0, l1, .val (.int x)] (.int x :: S) (H) Q) : W6 rm 6 [l0, l1, .val (.int x)] (S) H Q := W.iload_n d6_6 rfl h
theorem d6_7 : decode method_2_code 7 = .ok (.iconst 1, 1) := by decide +kernel
theorem s6_7 {rm : Room} {S : List Value} {H : AHeap} {Q : Option Value → AHeap → Prop} {l0 l1 l2 : Slot}  (h : W6 rm 8 [l0, l1, l2] (.int 1 :: S) (H) Q) : W6 rm 7 [l0, l1, l2] (S) H Q := W.iconst' d6_7 (by decide) h
theorem d6_8 : decode method_2_code 8 = .ok (.if_icmp .lt 12, 3) := by decide +kernel
theorem s6_8 {rm : Room} {S : List Value} {H : AHeap} {Q : Option Value → AHeap → Prop} {l0 l1 l2 : Slot} {x y : Int32} (h1 : x < y → W6 rm 20 [l0, l1, l2] S H Q) (h2 : ¬ x < y → W6 rm 11 [l0, l1, l2] S H Q) : W6 rm 8 [l0, l1, l2] (.int y :: .int x :: S) H Q := W.icmp d6_8 (by decide) (by decide) h1 h2
theorem d6_11 : decode method_2_code 11 = .ok (.aload_n 0, 1) := by decide +kernel
theorem s6_11 {rm : Room} {S : List Value} {H : AHeap} {Q : Option Value → AHeap → Prop} {l1 l2 : Slot} {i : Nat} (h : W6 rm 12 [.val (.ref i), l1, l2] (.ref i :: S) (H) Q) : W6 rm 11 [.val (.ref i), l1, l2] (S) H Q := W.aload_n d6_11 rfl rfl h
theorem s6_11n {rm : Room} {S : List Value} {H : AHeap} {Q : Option Value → AHeap → Prop} {l1 l2 : Slot}  (h : W6 rm 12 [.val .null, l1, l2] (.null :: S) (H) Q) : W6 rm 11 [.val .null, l1, l2] (S) H Q := W.aload_n d6_11 rfl rfl h
theorem d6_12 : decode method_2_code 12 = .ok (.iconst 0, 1) := by decide +kernel
theorem s6_12 {rm : Room} {S : List Value} {H : AHeap} {Q : Option Value → AHeap → Prop} {l0 l1 l2 : Slot}  (h : W6 rm 13 [l0, l1, l2] (.int 0 :: S) (H) Q) : W6 rm 12 [l0, l1, l2] (S) H Q := W.iconst' d6_12 (by decide) h
theorem d6_13 : decode method_2_code 13 = .ok (.iaload, 1) := by decide +kernel
theorem s6_13 {rm : Room} {S : List Value} {H : AHeap} {Q : Option Value → AHeap → Prop} {l0 l1 l2 : Slot} {i : Nat} {j : Int32} {vs : List Value} {v : Value} (N : Nat) (hH : H[i]? = some (.inr (.int, vs))) (hj : ix j N) (hv : vs[N]? = some v) (h : W6 rm 14 [l0, l1, l2] (v :: S) (H) Q) : W6 rm 13 [l0, l1, l2] (.int j :: .ref i :: S) H Q := W.xaload (Or.inl ⟨rfl, rfl⟩) d6_13 hH hj hv h
theorem d6_14 : decode method_2_code 14 = .ok (.aload_n 1, 1) := by decide +kernel
theorem s6_14 {rm : Room} {S : List Value} {H : AHeap} {Q : Option Value → AHeap → Prop} {l0 l2 : Slot} {i : Nat} (h : W6 rm 15 [l0, .val (.ref i), l2] (.ref i :: S) (H) Q) : W6 rm 14 [l0, .val (.ref i), l2] (S) H Q := W.aload_n d6_14 rfl rfl h
theorem s6_14n {rm : Room} {S : List Value} {H : AHeap} {Q : Option Value → AHeap → Prop} {l0 l2 : Slot}  (h : W6 rm 15 [l0, .val .null, l2] (.null :: S) (H) Q) : W6 rm 14 [l0, .val .null, l2] (S) H Q := W.aload_n d6_14 rfl rfl h
theorem d6_15 : decode method_2_code 15 = .ok (.iconst 0, 1) := by decide +kernel
theorem s6_15 {rm : Room} {S : List Value} {H : AHeap} {Q : Option Value → AHeap → Prop} {l0 l1 l2 : Slot}  (h : W6 rm 16 [l0, l1, l2] (.int 0 :: S) (H) Q) : W6 rm 15 [l0, l1, l2] (S) H Q := W.iconst' d6_15 (by decide) h
theorem d6_16 : decode method_2_code 16 = .ok (.iaload, 1) := by decide +kernel
theorem s6_16 {rm : Room} {S : List Value} {H : AHeap} {Q : Option Value → AHeap → Prop} {l0 l1 l2 : Slot} {i : Nat} {j : Int32} {vs : List Value} {v : Value} (N : Nat) (hH : H[i]? = some (.inr (.int, vs))) (hj : ix j N) (hv : vs[N]? = some v) (h : W6 rm 17 [l0, l1, l2] (v :: S) (H) Q) : W6 rm 16 [l0, l1, l2] (.int j :: .ref i :: S) H Q := W.xaload (Or.inl ⟨rfl, rfl⟩) d6_16 hH hj hv h
theorem d6_17 : decode method_2_code 17 = .ok (.if_icmp .ne 35, 3) := by decide +kernel
theorem s6_17 {rm : Room} {S : List Value} {H : AHeap} {Q : Option Value → AHeap → Prop} {l0 l1 l2 : Slot} {x y : Int32} (h1 : ¬ x = y → W6 rm 52 [l0, l1, l2] S H Q) (h2 : x = y → W6 rm 20 [l0, l1, l2] S H Q) : W6 rm 17 [l0, l1, l2] (.int y :: .int x :: S) H Q := W.icmp d6_17 (by decide) (by decide) h1 h2
theorem d6_20 : decode method_2_code 20 = .ok (.iload_n 2, 1) := by decide +kernel
theorem s6_20 {rm : Room} {S : List Value} {H : AHeap} {Q : Option Value → AHeap → Prop} {l0 l1 : Slot} {x : Int32} (h : W6 rm 21 [l0, l1, .val (.int x)] (.int x :: S) (H) Q) : W6 rm 20 [l0, l1, .val (.int x)] (S) H Q := W.iload_n d6_20 rfl h
theorem d6_21 : decode method_2_code 21 = .ok (.iconst 2, 1) := by decide +kernel
theorem s6_21 {rm : Room} {S : List Value} {H : AHeap} {Q : Option Value → AHeap → Prop} {l0 l1 l2 : Slot}  (h : W6 rm 22 [l0, l1, l2] (.int 2 :: S) (H) Q) : W6 rm 21 [l0, l1, l2] (S) H Q := W.iconst' d6_21 (by decide) h
theorem d6_22 : decode method_2_code 22 = .ok (.if_icmp .lt 12, 3) := by decide +kernel
theorem s6_22 {rm : Room} {S : List Value} {H : AHeap} {Q : Option Value → AHeap → Prop} {l0 l1 l2 : Slot} {x y : Int32} (h1 : x < y → W6 rm 34 [l0, l1, l2] S H Q) (h2 : ¬ x < y → W6 rm 25 [l0, l1, l2] S H Q) : W6 rm 22 [l0, l1, l2] (.int y :: .int x :: S) H Q := W.icmp d6_22 (by decide) (by decide) h1 h2
theorem d6_25 : decode method_2_code 25 = .ok (.aload_n 0, 1) := by decide +kernel
theorem s6_25 {rm : Room} {S : List Value} {H : AHeap} {Q : Option Value → AHeap → Prop} {l1 l2 : Slot} {i : Nat} (h : W6 rm 26 [.val (.ref i), l1, l2] (.ref i :: S) (H) Q) : W6 rm 25 [.val (.ref i), l1, l2] (S) H Q := W.aload_n d6_25 rfl rfl h
theorem s6_25n {rm : Room} {S : List Value} {H : AHeap} {Q : Option Value → AHeap → Prop} {l1 l2 : Slot}  (h : W6 rm 26 [.val .null, l1, l2] (.null :: S) (H) Q) : W6 rm 25 [.val .null, l1, l2] (S) H Q := W.aload_n d6_25 rfl rfl h
theorem d6_26 : decode method_2_code 26 = .ok (.iconst 1, 1) := by decide +kernel
theorem s6_26 {rm : Room} {S : List Value} {H : AHeap} {Q : Option Value → AHeap → Prop} {l0 l1 l2 : Slot}  (h : W6 rm 27 [l0, l1, l2] (.int 1 :: S) (H) Q) : W6 rm 26 [l0, l1, l2] (S) H Q := W.iconst' d6_26 (by decide) h
theorem d6_27 : decode method_2_code 27 = .ok (.iaload, 1) := by decide +kernel
theorem s6_27 {rm : Room} {S : List Value} {H : AHeap} {Q : Option Value → AHeap → Prop} {l0 l1 l2 : Slot} {i : Nat} {j : Int32} {vs : List Value} {v : Value} (N : Nat) (hH : H[i]? = some (.inr (.int, vs))) (hj : ix j N) (hv : vs[N]? = some v) (h : W6 rm 28 [l0, l1, l2] (v :: S) (H) Q) : W6 rm 27 [l0, l1, l2] (.int j :: .ref i :: S) H Q := W.xaload (Or.inl ⟨rfl, rfl⟩) d6_27 hH hj hv h
theorem d6_28 : decode method_2_code 28 = .ok (.aload_n 1, 1) := by decide +kernel
theorem s6_28 {rm : Room} {S : List Value} {H : AHeap} {Q : Option Value → AHeap → Prop} {l0 l2 : Slot} {i : Nat} (h : W6 rm 29 [l0, .val (.ref i), l2] (.ref i :: S) (H) Q) : W6 rm 28 [l0, .val (.ref i), l2] (S) H Q := W.aload_n d6_28 rfl rfl h
theorem s6_28n {rm : Room} {S : List Value} {H : AHeap} {Q : Option Value → AHeap → Prop} {l0 l2 : Slot}  (h : W6 rm 29 [l0, .val .null, l2] (.null :: S) (H) Q) : W6 rm 28 [l0, .val .null, l2] (S) H Q := W.aload_n d6_28 rfl rfl h
theorem d6_29 : decode method_2_code 29 = .ok (.iconst 1, 1) := by decide +kernel
theorem s6_29 {rm : Room} {S : List Value} {H : AHeap} {Q : Option Value → AHeap → Prop} {l0 l1 l2 : Slot}  (h : W6 rm 30 [l0, l1, l2] (.int 1 :: S) (H) Q) : W6 rm 29 [l0, l1, l2] (S) H Q := W.iconst' d6_29 (by decide) h
theorem d6_30 : decode method_2_code 30 = .ok (.iaload, 1) := by decide +kernel
theorem s6_30 {rm : Room} {S : List Value} {H : AHeap} {Q : Option Value → AHeap → Prop} {l0 l1 l2 : Slot} {i : Nat} {j : Int32} {vs : List Value} {v : Value} (N : Nat) (hH : H[i]? = some (.inr (.int, vs))) (hj : ix j N) (hv : vs[N]? = some v) (h : W6 rm 31 [l0, l1, l2] (v :: S) (H) Q) : W6 rm 30 [l0, l1, l2] (.int j :: .ref i :: S) H Q := W.xaload (Or.inl ⟨rfl, rfl⟩) d6_30 hH hj hv h
theorem d6_31 : decode method_2_code 31 = .ok (.if_icmp .ne 21, 3) := by decide +kernel
theorem s6_31 {rm : Room} {S : List Value} {H : AHeap} {Q : Option Value → AHeap → Prop} {l0 l1 l2 : Slot} {x y : Int32} (h1 : ¬ x = y → W6 rm 52 [l0, l1, l2] S H Q) (h2 : x = y → W6 rm 34 [l0, l1, l2] S H Q) : W6 rm 31 [l0, l1, l2] (.int y :: .int x :: S) H Q := W.icmp d6_31 (by decide) (by decide) h1 h2
theorem d6_34 : decode method_2_code 34 = .ok (.iload_n 2, 1) := by decide +kernel
theorem s6_34 {rm : Room} {S : List Value} {H : AHeap} {Q : Option Value → AHeap → Prop} {l0 l1 : Slot} {x : Int32} (h : W6 rm 35 [l0, l1, .val (.int x)] (.int x :: S) (H) Q) : W6 rm 34 [l0, l1, .val (.int x)] (S) H Q := W.iload_n d6_34 rfl h
theorem d6_35 : decode method_2_code 35 = .ok (.iconst 3, 1) := by decide +kernel
theorem s6_35 {rm : Room} {S : List Value} {H : AHeap} {Q : Option Value → AHeap → Prop} {l0 l1 l2 : Slot}  (h : W6 rm 36 [l0, l1, l2] (.int 3 :: S) (H) Q) : W6 rm 35 [l0, l1, l2] (S) H Q := W.iconst' d6_35 (by decide) h
theorem d6_36 : decode method_2_code 36 = .ok (.if_icmp .lt 12, 3) := by decide +kernel
theorem s6_36 {rm : Room} {S : List Value} {H : AHeap} {Q : Option Value → AHeap → Prop} {l0 l1 l2 : Slot} {x y : Int32} (h1 : x < y → W6 rm 48 [l0, l1, l2] S H Q) (h2 : ¬ x < y → W6 rm 39 [l0, l1, l2] S H Q) : W6 rm 36 [l0, l1, l2] (.int y :: .int x :: S) H Q := W.icmp d6_36 (by decide) (by decide) h1 h2
theorem d6_39 : decode method_2_code 39 = .ok (.aload_n 0, 1) := by decide +kernel
theorem s6_39 {rm : Room} {S : List Value} {H : AHeap} {Q : Option Value → AHeap → Prop} {l1 l2 : Slot} {i : Nat} (h : W6 rm 40 [.val (.ref i), l1, l2] (.ref i :: S) (H) Q) : W6 rm 39 [.val (.ref i), l1, l2] (S) H Q := W.aload_n d6_39 rfl rfl h
theorem s6_39n {rm : Room} {S : List Value} {H : AHeap} {Q : Option Value → AHeap → Prop} {l1 l2 : Slot}  (h : W6 rm 40 [.val .null, l1, l2] (.null :: S) (H) Q) : W6 rm 39 [.val .null, l1, l2] (S) H Q := W.aload_n d6_39 rfl rfl h
theorem d6_40 : decode method_2_code 40 = .ok (.iconst 2, 1) := by decide +kernel
theorem s6_40 {rm : Room} {S : List Value} {H : AHeap} {Q : Option Value → AHeap → Prop} {l0 l1 l2 : Slot}  (h : W6 rm 41 [l0, l1, l2] (.int 2 :: S) (H) Q) : W6 rm 40 [l0, l1, l2] (S) H Q := W.iconst' d6_40 (by decide) h
theorem d6_41 : decode method_2_code 41 = .ok (.iaload, 1) := by decide +kernel
theorem s6_41 {rm : Room} {S : List Value} {H : AHeap} {Q : Option Value → AHeap → Prop} {l0 l1 l2 : Slot} {i : Nat} {j : Int32} {vs : List Value} {v : Value} (N : Nat) (hH : H[i]? = some (.inr (.int, vs))) (hj : ix j N) (hv : vs[N]? = some v) (h : W6 rm 42 [l0, l1, l2] (v :: S) (H) Q) : W6 rm 41 [l0, l1, l2] (.int j :: .ref i :: S) H Q := W.xaload (Or.inl ⟨rfl, rfl⟩) d6_41 hH hj hv h
theorem d6_42 : decode method_2_code 42 = .ok (.aload_n 1, 1) := by decide +kernel
theorem s6_42 {rm : Room} {S : List Value} {H : AHeap} {Q : Option Value → AHeap → Prop} {l0 l2 : Slot} {i : Nat} (h : W6 rm 43 [l0, .val (.ref i), l2] (.ref i :: S) (H) Q) : W6 rm 42 [l0, .val (.ref i), l2] (S) H Q := W.aload_n d6_42 rfl rfl h
theorem s6_42n {rm : Room} {S : List Value} {H : AHeap} {Q : Option Value → AHeap → Prop} {l0 l2 : Slot}  (h : W6 rm 43 [l0, .val .null, l2] (.null :: S) (H) Q) : W6 rm 42 [l0, .val .null, l2] (S) H Q := W.aload_n d6_42 rfl rfl h
theorem d6_43 : decode method_2_code 43 = .ok (.iconst 2, 1) := by decide +kernel
theorem s6_43 {rm : Room} {S : List Value} {H : AHeap} {Q : Option Value → AHeap → Prop} {l0 l1 l2 : Slot}  (h : W6 rm 44 [l0, l1, l2] (.int 2 :: S) (H) Q) : W6 rm 43 [l0, l1, l2] (S) H Q := W.iconst' d6_43 (by decide) h
theorem d6_44 : decode method_2_code 44 = .ok (.iaload, 1) := by decide +kernel
theorem s6_44 {rm : Room} {S : List Value} {H : AHeap} {Q : Option Value → AHeap → Prop} {l0 l1 l2 : Slot} {i : Nat} {j : Int32} {vs : List Value} {v : Value} (N : Nat) (hH : H[i]? = some (.inr (.int, vs))) (hj : ix j N) (hv : vs[N]? = some v) (h : W6 rm 45 [l0, l1, l2] (v :: S) (H) Q) : W6 rm 44 [l0, l1, l2] (.int j :: .ref i :: S) H Q := W.xaload (Or.inl ⟨rfl, rfl⟩) d6_44 hH hj hv h
theorem d6_45 : decode method_2_code 45 = .ok (.if_icmp .ne 7, 3) := by decide +kernel
theorem s6_45 {rm : Room} {S : List Value} {H : AHeap} {Q : Option Value → AHeap → Prop} {l0 l1 l2 : Slot} {x y : Int32} (h1 : ¬ x = y → W6 rm 52 [l0, l1, l2] S H Q) (h2 : x = y → W6 rm 48 [l0, l1, l2] S H Q) : W6 rm 45 [l0, l1, l2] (.int y :: .int x :: S) H Q := W.icmp d6_45 (by decide) (by decide) h1 h2
theorem d6_48 : decode method_2_code 48 = .ok (.iconst 1, 1) := by decide +kernel
theorem s6_48 {rm : Room} {S : List Value} {H : AHeap} {Q : Option Value → AHeap → Prop} {l0 l1 l2 : Slot}  (h : W6 rm 49 [l0, l1, l2] (.int 1 :: S) (H) Q) : W6 rm 48 [l0, l1, l2] (S) H Q := W.iconst' d6_48 (by decide) h
theorem d6_49 : decode method_2_code 49 = .ok (.goto 4, 3) := by decide +kernel
theorem s6_49 {rm : Room} {S : List Value} {H : AHeap} {Q : Option Value → AHeap → Prop} {l0 l1 l2 : Slot}  (h : W6 rm 53 [l0, l1, l2] (S) (H) Q) : W6 rm 49 [l0, l1, l2] (S) H Q := W.goto d6_49 (by decide) (by decide) h
theorem d6_52 : decode method_2_code 52 = .ok (.iconst 0, 1) := by decide +kernel
theorem s6_52 {rm : Room} {S : List Value} {H : AHeap} {Q : Option Value → AHeap → Prop} {l0 l1 l2 : Slot}  (h : W6 rm 53 [l0, l1, l2] (.int 0 :: S) (H) Q) : W6 rm 52 [l0, l1, l2] (S) H Q := W.iconst' d6_52 (by decide) h
theorem d6_53 : decode method_2_code 53 = .ok (.ireturn, 1) := by decide +kernel
theorem s6_53 {rm : Room} {S : List Value} {H : AHeap} {Q : Option Value → AHeap → Prop} {l0 l1 l2 : Slot} {x : Int32} (hQ : Q (some (.int (x &&& 1))) H) : W6 rm 53 [l0, l1, l2] (.int x :: S) H Q := W.ireturnZ d6_53 rfl hQ
theorem b0_95 {rm : Room} {S : List Value} {H : AHeap} {Q : Option Value → AHeap → Prop} {l0 l1 l2 l3 l4 l5 l6 l7 l8 l9 l10 l11 l12 l13 l14 l15 : Slot} {x y : Int32} (h : ∀ t : Int32, ((¬ x < y) ∧ t = 1) ∨ ((x < y) ∧ t = 0) → W0 rm 103 [l0, l1, l2, l3, l4, l5, l6, l7, l8, l9, l10, l11, l12, l13, l14, l15] (.int t :: S) H Q) : W0 rm 95 [l0, l1, l2, l3, l4, l5, l6, l7, l8, l9, l10, l11, l12, l13, l14, l15] (.int y :: .int x :: S) H Q := s0_95 (fun q => s0_102 (h 0 (Or.inr ⟨q, rfl⟩))) (fun q => s0_98 (s0_99 (h 1 (Or.inl ⟨q, rfl⟩))))
theorem b0_283 {rm : Room} {S : List Value} {H : AHeap} {Q : Option Value → AHeap → Prop} {l0 l1 l2 l3 l4 l5 l6 l7 l8 l9 l10 l11 l12 l13 l14 l15 : Slot} {x : Int32} (h : ∀ t : Int32, ((x = 0) ∧ t = 1) ∨ ((¬ x = 0) ∧ t = 0) → W0 rm 291 [l0, l1, l2, l3, l4, l5, l6, l7, l8, l9, l10, l11, l12, l13, l14, l15] (.int t :: S) H Q) : W0 rm 283 [l0, l1, l2, l3, l4, l5, l6, l7, l8, l9, l10, l11, l12, l13, l14, l15] (.int x :: S) H Q := s0_283 (fun q => s0_290 (h 0 (Or.inr ⟨q, rfl⟩))) (fun q => s0_286 (s0_287 (h 1 (Or.inl ⟨q, rfl⟩))))
theorem b0_358 {rm : Room} {S : List Value} {H : AHeap} {Q : Option Value → AHeap → Prop} {l0 l1 l2 l3 l4 l5 l6 l7 l8 l9 l10 l11 l12 l13 l14 l15 : Slot} {x y : Int32} (h : ∀ t : Int32, ((x = y) ∧ t = 1) ∨ ((¬ x = y) ∧ t = 0) → W0 rm 366 [l0, l1, l2, l3, l4, l5, l6, l7, l8, l9, l10, l11, l12, l13, l14, l15] (.int t :: S) H Q) : W0 rm 358 [l0, l1, l2, l3, l4, l5, l6, l7, l8, l9, l10, l11, l12, l13, l14, l15] (.int y :: .int x :: S) H Q := s0_358 (fun q => s0_365 (h 0 (Or.inr ⟨q, rfl⟩))) (fun q => s0_361 (s0_362 (h 1 (Or.inl ⟨q, rfl⟩))))
theorem b6_45 {rm : Room} {S : List Value} {H : AHeap} {Q : Option Value → AHeap → Prop} {l0 l1 l2 : Slot} {x y : Int32} (h : ∀ t : Int32, ((x = y) ∧ t = 1) ∨ ((¬ x = y) ∧ t = 0) → W6 rm 53 [l0, l1, l2] (.int t :: S) H Q) : W6 rm 45 [l0, l1, l2] (.int y :: .int x :: S) H Q := s6_45 (fun q => s6_52 (h 0 (Or.inr ⟨q, rfl⟩))) (fun q => s6_48 (s6_49 (h 1 (Or.inl ⟨q, rfl⟩))))
theorem own_r0  : M1 ⟨1, 5, 47, 12⟩ [.ref 2, .int 4] [(.inr (.int, [.int 0, .int 0, .int 0]) : ACell), (.inr (.int, [.int 1, .int 0, .int 0]) : ACell), (.inl (0, [.null, .null, .null, .null, .null]) : ACell)] (Is none [(.inr (.int, [.int 0, .int 0, .int 0]) : ACell), (.inr (.int, [.int 1, .int 0, .int 0]) : ACell), (.inl (0, [.ref 3, .ref 4, .ref 5, .ref 6, .ref 7]) : ACell), (.inr (.int, [.int 0, .int 0, .int 0, .int 0, .int 0, .int 0, .int 0, .int 0, .int 0, .int 0, .int 0, .int 0, .int 0, .int 0, .int 0, .int 0]) : ACell), (.inr (.int, [.int 0, .int 0, .int 0, .int 0, .int 0, .int 0, .int 0, .int 0, .int 0, .int 0, .int 0, .int 0, .int 0, .int 0, .int 0, .int 0]) : ACell), (.inr (.int, [.int 0, .int 0, .int 0, .int 0, .int 0]) : ACell), (.inr (.int, [.int 0, .int 0, .int 0, .int 0, .int 0]) : ACell), (.inr (.int, [.int 0, .int 0, .int 0, .int 0, .int 0]) : ACell)]) := by
  refine e1 ?_
  refine s1_0 ?_
  refine s1_1 rfl ?_
  refine s1_4 ?_
  refine s1_5 ?_
  refine s1_7 3 16 (by decide) rfl rfl ?_
  refine s1_9 rfl ?_
  refine s1_12 ?_
  refine s1_13 ?_
  refine s1_15 4 16 (by decide) rfl rfl ?_
  refine s1_17 rfl ?_
  refine s1_20 ?_
  refine s1_21 ?_
  refine s1_22 ?_
  refine s1_23 ?_
  refine s1_24 5 5 (by decide) rfl rfl ?_
  refine s1_26 rfl ?_
  refine s1_29 ?_
  refine s1_30 ?_
  refine s1_31 ?_
  refine s1_32 ?_
  refine s1_33 6 5 (by decide) rfl rfl ?_
  refine s1_35 rfl ?_
  refine s1_38 ?_
  refine s1_39 ?_
  refine s1_40 ?_
  refine s1_41 ?_
  refine s1_42 7 5 (by decide) rfl rfl ?_
  refine s1_44 rfl ?_
  exact s1_47 ⟨rfl, rfl⟩
theorem own_r1  : M2 ⟨0, 0, 0, 0⟩ [.ref 2, .int 1, .int 1] [(.inr (.int, [.int 0, .int 0, .int 0]) : ACell), (.inr (.int, [.int 1, .int 0, .int 0]) : ACell), (.inl (0, [.ref 3, .ref 4, .ref 5, .ref 6, .ref 7]) : ACell), (.inr (.int, [.int 0, .int 0, .int 0, .int 0, .int 0, .int 0, .int 0, .int 0, .int 0, .int 0, .int 0, .int 0, .int 0, .int 0, .int 0, .int 0]) : ACell), (.inr (.int, [.int 0, .int 0, .int 0, .int 0, .int 0, .int 0, .int 0, .int 0, .int 0, .int 0, .int 0, .int 0, .int 0, .int 0, .int 0, .int 0]) : ACell), (.inr (.int, [.int 0, .int 0, .int 0, .int 0, .int 0]) : ACell), (.inr (.int, [.int 0, .int 0, .int 0, .int 0, .int 0]) : ACell), (.inr (.int, [.int 0, .int 0, .int 0, .int 0, .int 0]) : ACell)] (Is none [(.inr (.int, [.int 0, .int 0, .int 0]) : ACell), (.inr (.int, [.int 1, .int 0, .int 0]) : ACell), (.inl (0, [.ref 3, .ref 4, .ref 5, .ref 6, .ref 7]) : ACell), (.inr (.int, [.int 0, .int 1, .int 0, .int 0, .int 0, .int 0, .int 0, .int 0, .int 0, .int 0, .int 0, .int 0, .int 0, .int 0, .int 0, .int 0]) : ACell), (.inr (.int, [.int 0, .int 1, .int 0, .int 0, .int 0, .int 0, .int 0, .int 0, .int 0, .int 0, .int 0, .int 0, .int 0, .int 0, .int 0, .int 0]) : ACell), (.inr (.int, [.int 0, .int 1, .int 0, .int 0, .int 0]) : ACell), (.inr (.int, [.int 0, .int 0, .int 0, .int 0, .int 0]) : ACell), (.inr (.int, [.int 0, .int 0, .int 0, .int 0, .int 0]) : ACell)]) := by
  refine e2 ?_
  refine s2_0 ?_
  refine s2_1 ?_
  refine s2_2 rfl ?_
  refine s2_5k 16 rfl rfl ?_
  refine s2_6 (fun _ => ?_) (fun h => absurd h (by decide))
  refine s2_45 ?_
  refine s2_46 rfl ?_
  refine s2_49 ?_
  refine s2_50 ?_
  refine s2_51 1 rfl (by decide) rfl ?_
  refine s2_52 ?_
  refine s2_53 rfl ?_
  refine s2_56 ?_
  refine s2_57 ?_
  refine s2_58 rfl ?_
  refine s2_61 ?_
  refine s2_62 1 rfl (by decide) rfl ?_
  refine s2_63 1 rfl (by decide) rfl ?_
  refine s2_64 ?_
  refine s2_65 rfl ?_
  refine s2_68 ?_
  refine s2_69 ?_
  refine s2_70 1 rfl (by decide) rfl ?_
  refine s2_71 ?_
  refine s2_72 rfl ?_
  refine s2_75 ?_
  refine s2_76 1 rfl (by decide) rfl ?_
  refine s2_77 (fun h => absurd h (by decide)) (fun _ => ?_)
  refine s2_80 ?_
  refine s2_81 rfl ?_
  refine s2_84 ?_
  refine s2_85 ?_
  refine s2_86 1 rfl (by decide) rfl ?_
  refine s2_87 ?_
  refine s2_102 ?_
  refine s2_103 rfl ?_
  refine s2_106 ?_
  refine s2_107 ?_
  refine s2_108 1 rfl (by decide) rfl ?_
  exact s2_109 ⟨rfl, rfl⟩
theorem own_r2  : M2 ⟨0, 0, 0, 0⟩ [.ref 2, .int 4, .int 2] [(.inr (.int, [.int 0, .int 0, .int 0]) : ACell), (.inr (.int, [.int 1, .int 0, .int 0]) : ACell), (.inl (0, [.ref 3, .ref 4, .ref 5, .ref 6, .ref 7]) : ACell), (.inr (.int, [.int 0, .int 1, .int 0, .int 0, .int 0, .int 0, .int 0, .int 0, .int 0, .int 0, .int 0, .int 0, .int 0, .int 0, .int 0, .int 0]) : ACell), (.inr (.int, [.int 0, .int 1, .int 0, .int 0, .int 0, .int 0, .int 0, .int 0, .int 0, .int 0, .int 0, .int 0, .int 0, .int 0, .int 0, .int 0]) : ACell), (.inr (.int, [.int 0, .int 1, .int 0, .int 0, .int 0]) : ACell), (.inr (.int, [.int 0, .int 0, .int 0, .int 0, .int 0]) : ACell), (.inr (.int, [.int 0, .int 0, .int 0, .int 0, .int 0]) : ACell)] (Is none [(.inr (.int, [.int 0, .int 0, .int 0]) : ACell), (.inr (.int, [.int 1, .int 0, .int 0]) : ACell), (.inl (0, [.ref 3, .ref 4, .ref 5, .ref 6, .ref 7]) : ACell), (.inr (.int, [.int 0, .int 1, .int 4, .int 0, .int 0, .int 0, .int 0, .int 0, .int 0, .int 0, .int 0, .int 0, .int 0, .int 0, .int 0, .int 0]) : ACell), (.inr (.int, [.int 0, .int 1, .int 4, .int 0, .int 0, .int 0, .int 0, .int 0, .int 0, .int 0, .int 0, .int 0, .int 0, .int 0, .int 0, .int 0]) : ACell), (.inr (.int, [.int 0, .int 1, .int 0, .int 0, .int 2]) : ACell), (.inr (.int, [.int 0, .int 0, .int 0, .int 0, .int 0]) : ACell), (.inr (.int, [.int 0, .int 0, .int 0, .int 0, .int 0]) : ACell)]) := by
  refine e2 ?_
  refine s2_0 ?_
  refine s2_1 ?_
  refine s2_2 rfl ?_
  refine s2_5k 16 rfl rfl ?_
  refine s2_6 (fun _ => ?_) (fun h => absurd h (by decide))
  refine s2_45 ?_
  refine s2_46 rfl ?_
  refine s2_49 ?_
  refine s2_50 ?_
  refine s2_51 4 rfl (by decide) rfl ?_
  refine s2_52 ?_
  refine s2_53 rfl ?_
  refine s2_56 ?_
  refine s2_57 ?_
  refine s2_58 rfl ?_
  refine s2_61 ?_
  refine s2_62 2 rfl (by decide) rfl ?_
  refine s2_63 4 rfl (by decide) rfl ?_
  refine s2_64 ?_
  refine s2_65 rfl ?_
  refine s2_68 ?_
  refine s2_69 ?_
  refine s2_70 4 rfl (by decide) rfl ?_
  refine s2_71 ?_
  refine s2_72 rfl ?_
  refine s2_75 ?_
  refine s2_76 2 rfl (by decide) rfl ?_
  refine s2_77 (fun h => absurd h (by decide)) (fun _ => ?_)
  refine s2_80 ?_
  refine s2_81 rfl ?_
  refine s2_84 ?_
  refine s2_85 ?_
  refine s2_86 2 rfl (by decide) rfl ?_
  refine s2_87 ?_
  refine s2_102 ?_
  refine s2_103 rfl ?_
  refine s2_106 ?_
  refine s2_107 ?_
  refine s2_108 2 rfl (by decide) rfl ?_
  exact s2_109 ⟨rfl, rfl⟩
theorem own_r3  : M3 ⟨0, 0, 0, 0⟩ [.ref 2, .int 1] [(.inr (.int, [.int 0, .int 0, .int 0]) : ACell), (.inr (.int, [.int 1, .int 0, .int 0]) : ACell), (.inl (0, [.ref 3, .ref 4, .ref 5, .ref 6, .ref 7]) : ACell), (.inr (.int, [.int 0, .int 1, .int 4, .int 0, .int 0, .int 0, .int 0, .int 0, .int 0, .int 0, .int 0, .int 0, .int 0, .int 0, .int 0, .int 0]) : ACell), (.inr (.int, [.int 0, .int 1, .int 4, .int 0, .int 0, .int 0, .int 0, .int 0, .int 0, .int 0, .int 0, .int 0, .int 0, .int 0, .int 0, .int 0]) : ACell), (.inr (.int, [.int 0, .int 1, .int 0, .int 0, .int 2]) : ACell), (.inr (.int, [.int 0, .int 0, .int 0, .int 0, .int 0]) : ACell), (.inr (.int, [.int 0, .int 0, .int 0, .int 0, .int 0]) : ACell)] (Is none [(.inr (.int, [.int 0, .int 0, .int 0]) : ACell), (.inr (.int, [.int 1, .int 0, .int 0]) : ACell), (.inl (0, [.ref 3, .ref 4, .ref 5, .ref 6, .ref 7]) : ACell), (.inr (.int, [.int 0, .int 0, .int 4, .int 0, .int 0, .int 0, .int 0, .int 0, .int 0, .int 0, .int 0, .int 0, .int 0, .int 0, .int 0, .int 0]) : ACell), (.inr (.int, [.int 0, .int 0, .int 4, .int 0, .int 0, .int 0, .int 0, .int 0, .int 0, .int 0, .int 0, .int 0, .int 0, .int 0, .int 0, .int 0]) : ACell), (.inr (.int, [.int 0, .int 0, .int 0, .int 0, .int 2]) : ACell), (.inr (.int, [.int 0, .int 0, .int 0, .int 0, .int 0]) : ACell), (.inr (.int, [.int 0, .int 0, .int 0, .int 0, .int 0]) : ACell)]) := by
  refine e3 ?_
  refine s3_0 ?_
  refine s3_1 rfl ?_
  refine s3_4 ?_
  refine s3_5 1 rfl (by decide) rfl ?_
  refine s3_6 rfl ?_
  refine s3_7 ?_
  refine s3_8 rfl ?_
  refine s3_11 ?_
  refine s3_12 1 rfl (by decide) rfl ?_
  refine s3_13 (fun h => absurd h (by decide)) (fun _ => ?_)
  refine s3_16 ?_
  refine s3_17 rfl ?_
  refine s3_20 ?_
  refine s3_21 ?_
  refine s3_22 rfl ?_
  refine s3_25 ?_
  refine s3_26 1 rfl (by decide) rfl ?_
  refine s3_27 1 rfl (by decide) rfl ?_
  refine s3_28 ?_
  refine s3_48 ?_
  refine s3_49 rfl ?_
  refine s3_52 ?_
  refine s3_53 1 rfl (by decide) rfl ?_
  refine s3_54 (fun h => absurd h (by decide)) (fun _ => ?_)
  refine s3_57 ?_
  refine s3_58 rfl ?_
  refine s3_61 ?_
  refine s3_62 ?_
  refine s3_63 rfl ?_
  refine s3_66 ?_
  refine s3_67 1 rfl (by decide) rfl ?_
  refine s3_68 1 rfl (by decide) rfl ?_
  refine s3_69 ?_
  refine s3_89 ?_
  refine s3_90 rfl ?_
  refine s3_93 ?_
  refine s3_94 ?_
  refine s3_95 1 rfl (by decide) rfl ?_
  exact s3_96 ⟨rfl, rfl⟩
theorem own_r4  : M4 ⟨0, 0, 0, 0⟩ [.ref 2, .int 1] [(.inr (.int, [.int 0, .int 0, .int 0]) : ACell), (.inr (.int, [.int 1, .int 0, .int 0]) : ACell), (.inl (0, [.ref 3, .ref 4, .ref 5, .ref 6, .ref 7]) : ACell), (.inr (.int, [.int 0, .int 0, .int 4, .int 0, .int 0, .int 0, .int 0, .int 0, .int 0, .int 0, .int 0, .int 0, .int 0, .int 0, .int 0, .int 0]) : ACell), (.inr (.int, [.int 0, .int 0, .int 4, .int 0, .int 0, .int 0, .int 0, .int 0, .int 0, .int 0, .int 0, .int 0, .int 0, .int 0, .int 0, .int 0]) : ACell), (.inr (.int, [.int 0, .int 0, .int 0, .int 0, .int 2]) : ACell), (.inr (.int, [.int 0, .int 0, .int 0, .int 0, .int 0]) : ACell), (.inr (.int, [.int 0, .int 0, .int 0, .int 0, .int 0]) : ACell)] (Is (some (.int 0)) [(.inr (.int, [.int 0, .int 0, .int 0]) : ACell), (.inr (.int, [.int 1, .int 0, .int 0]) : ACell), (.inl (0, [.ref 3, .ref 4, .ref 5, .ref 6, .ref 7]) : ACell), (.inr (.int, [.int 0, .int 0, .int 4, .int 0, .int 0, .int 0, .int 0, .int 0, .int 0, .int 0, .int 0, .int 0, .int 0, .int 0, .int 0, .int 0]) : ACell), (.inr (.int, [.int 0, .int 0, .int 4, .int 0, .int 0, .int 0, .int 0, .int 0, .int 0, .int 0, .int 0, .int 0, .int 0, .int 0, .int 0, .int 0]) : ACell), (.inr (.int, [.int 0, .int 0, .int 0, .int 0, .int 2]) : ACell), (.inr (.int, [.int 0, .int 0, .int 0, .int 0, .int 0]) : ACell), (.inr (.int, [.int 0, .int 0, .int 0, .int 0, .int 0]) : ACell)]) := by
  refine e4 ?_
  refine s4_0 ?_
  refine s4_1 rfl ?_
  refine s4_4 ?_
  refine s4_5 1 rfl (by decide) rfl ?_
  exact s4_6 ⟨rfl, rfl⟩
theorem own_r5  : M2 ⟨0, 0, 0, 0⟩ [.ref 2, .int 1, .int 1] [(.inr (.int, [.int 0, .int 0, .int 0]) : ACell), (.inr (.int, [.int 1, .int 0, .int 0]) : ACell), (.inl (0, [.ref 3, .ref 4, .ref 5, .ref 6, .ref 7]) : ACell), (.inr (.int, [.int 0, .int 0, .int 4, .int 0, .int 0, .int 0, .int 0, .int 0, .int 0, .int 0, .int 0, .int 0, .int 0, .int 0, .int 0, .int 0]) : ACell), (.inr (.int, [.int 0, .int 0, .int 4, .int 0, .int 0, .int 0, .int 0, .int 0, .int 0, .int 0, .int 0, .int 0, .int 0, .int 0, .int 0, .int 0]) : ACell), (.inr (.int, [.int 0, .int 0, .int 0, .int 0, .int 2]) : ACell), (.inr (.int, [.int 0, .int 0, .int 0, .int 0, .int 0]) : ACell), (.inr (.int, [.int 0, .int 0, .int 0, .int 0, .int 0]) : ACell)] (Is none [(.inr (.int, [.int 0, .int 0, .int 0]) : ACell), (.inr (.int, [.int 1, .int 0, .int 0]) : ACell), (.inl (0, [.ref 3, .ref 4, .ref 5, .ref 6, .ref 7]) : ACell), (.inr (.int, [.int 0, .int 1, .int 4, .int 0, .int 0, .int 0, .int 0, .int 0, .int 0, .int 0, .int 0, .int 0, .int 0, .int 0, .int 0, .int 0]) : ACell), (.inr (.int, [.int 0, .int 1, .int 4, .int 0, .int 0, .int 0, .int 0, .int 0, .int 0, .int 0, .int 0, .int 0, .int 0, .int 0, .int 0, .int 0]) : ACell), (.inr (.int, [.int 0, .int 1, .int 0, .int 0, .int 2]) : ACell), (.inr (.int, [.int 0, .int 0, .int 0, .int 0, .int 0]) : ACell), (.inr (.int, [.int 0, .int 0, .int 0, .int 0, .int 0]) : ACell)]) := by
  refine e2 ?_
  refine s2_0 ?_
  refine s2_1 ?_
  refine s2_2 rfl ?_
  refine s2_5k 16 rfl rfl ?_
  refine s2_6 (fun _ => ?_) (fun h => absurd h (by decide))
  refine s2_45 ?_
  refine s2_46 rfl ?_
  refine s2_49 ?_
  refine s2_50 ?_
  refine s2_51 1 rfl (by decide) rfl ?_
  refine s2_52 ?_
  refine s2_53 rfl ?_
  refine s2_56 ?_
  refine s2_57 ?_
  refine s2_58 rfl ?_
  refine s2_61 ?_
  refine s2_62 1 rfl (by decide) rfl ?_
  refine s2_63 1 rfl (by decide) rfl ?_
  refine s2_64 ?_
  refine s2_65 rfl ?_
  refine s2_68 ?_
  refine s2_69 ?_
  refine s2_70 1 rfl (by decide) rfl ?_
  refine s2_71 ?_
  refine s2_72 rfl ?_
  refine s2_75 ?_
  refine s2_76 1 rfl (by decide) rfl ?_
  refine s2_77 (fun h => absurd h (by decide)) (fun _ => ?_)
  refine s2_80 ?_
  refine s2_81 rfl ?_
  refine s2_84 ?_
  refine s2_85 ?_
  refine s2_86 1 rfl (by decide) rfl ?_
  refine s2_87 ?_
  refine s2_102 ?_
  refine s2_103 rfl ?_
  refine s2_106 ?_
  refine s2_107 ?_
  refine s2_108 1 rfl (by decide) rfl ?_
  exact s2_109 ⟨rfl, rfl⟩
theorem own_r6  : M5 ⟨0, 1, 1, 0⟩ [.ref 2, .int 1] [(.inr (.int, [.int 0, .int 0, .int 0]) : ACell), (.inr (.int, [.int 1, .int 0, .int 0]) : ACell), (.inl (0, [.ref 3, .ref 4, .ref 5, .ref 6, .ref 7]) : ACell), (.inr (.int, [.int 0, .int 1, .int 4, .int 0, .int 0, .int 0, .int 0, .int 0, .int 0, .int 0, .int 0, .int 0, .int 0, .int 0, .int 0, .int 0]) : ACell), (.inr (.int, [.int 0, .int 1, .int 4, .int 0, .int 0, .int 0, .int 0, .int 0, .int 0, .int 0, .int 0, .int 0, .int 0, .int 0, .int 0, .int 0]) : ACell), (.inr (.int, [.int 0, .int 1, .int 0, .int 0, .int 2]) : ACell), (.inr (.int, [.int 0, .int 0, .int 0, .int 0, .int 0]) : ACell), (.inr (.int, [.int 0, .int 0, .int 0, .int 0, .int 0]) : ACell)] (Is (some (.ref 8)) [(.inr (.int, [.int 0, .int 0, .int 0]) : ACell), (.inr (.int, [.int 1, .int 0, .int 0]) : ACell), (.inl (0, [.ref 3, .ref 4, .ref 5, .ref 6, .ref 7]) : ACell), (.inr (.int, [.int 0, .int 1, .int 4, .int 0, .int 0, .int 0, .int 0, .int 0, .int 0, .int 0, .int 0, .int 0, .int 0, .int 0, .int 0, .int 0]) : ACell), (.inr (.int, [.int 0, .int 1, .int 4, .int 0, .int 0, .int 0, .int 0, .int 0, .int 0, .int 0, .int 0, .int 0, .int 0, .int 0, .int 0, .int 0]) : ACell), (.inr (.int, [.int 0, .int 1, .int 0, .int 0, .int 2]) : ACell), (.inr (.int, [.int 0, .int 0, .int 0, .int 0, .int 0]) : ACell), (.inr (.int, [.int 0, .int 0, .int 0, .int 0, .int 0]) : ACell), (.inr (.int, [.int 1]) : ACell)]) := by
  refine e5 ?_
  refine s5_0 ?_
  refine s5_1 rfl ?_
  refine s5_2 ?_
  refine s5_3 rfl ?_
  refine s5_6 ?_
  refine s5_7 1 rfl (by decide) rfl ?_
  refine s5_8 rfl ?_
  refine s5_9 ?_
  refine s5_10 (fun h => absurd h (by decide)) (fun _ => ?_)
  refine s5_13 ?_
  refine s5_16 ?_
  refine s5_17 rfl ?_
  refine s5_20 ?_
  refine s5_21 1 rfl (by decide) rfl ?_
  refine s5_22 rfl ?_
  refine s5_23 ?_
  refine s5_9 ?_
  refine s5_10 (fun _ => ?_) (fun h => absurd h (by decide))
  refine s5_26 ?_
  refine s5_27 8 1 (by decide) rfl rfl ?_
  refine s5_29 rfl ?_
  refine s5_30 ?_
  refine s5_31 rfl ?_
  refine s5_33 ?_
  refine s5_34 rfl ?_
  refine s5_37 ?_
  refine s5_38 1 rfl (by decide) rfl ?_
  refine s5_39 rfl ?_
  refine s5_41 ?_
  refine s5_43 (fun h => absurd h (by decide)) (fun _ => ?_)
  refine s5_46 ?_
  refine s5_47 ?_
  refine s5_49 ?_
  refine s5_51 0 rfl (by decide) rfl ?_
  refine s5_52 ?_
  refine s5_55 ?_
  refine s5_56 rfl ?_
  refine s5_59 ?_
  refine s5_61 1 rfl (by decide) rfl ?_
  refine s5_62 rfl ?_
  refine s5_64 ?_
  refine s5_41 ?_
  refine s5_43 (fun _ => ?_) (fun h => absurd h (by decide))
  refine s5_67 ?_
  exact s5_68 ⟨rfl, rfl⟩
theorem own_r7  : M5 ⟨0, 1, 1, 0⟩ [.ref 2, .int 2] [(.inr (.int, [.int 0, .int 0, .int 0]) : ACell), (.inr (.int, [.int 1, .int 0, .int 0]) : ACell), (.inl (0, [.ref 3, .ref 4, .ref 5, .ref 6, .ref 7]) : ACell), (.inr (.int, [.int 0, .int 1, .int 4, .int 0, .int 0, .int 0, .int 0, .int 0, .int 0, .int 0, .int 0, .int 0, .int 0, .int 0, .int 0, .int 0]) : ACell), (.inr (.int, [.int 0, .int 1, .int 4, .int 0, .int 0, .int 0, .int 0, .int 0, .int 0, .int 0, .int 0, .int 0, .int 0, .int 0, .int 0, .int 0]) : ACell), (.inr (.int, [.int 0, .int 1, .int 0, .int 0, .int 2]) : ACell), (.inr (.int, [.int 0, .int 0, .int 0, .int 0, .int 0]) : ACell), (.inr (.int, [.int 0, .int 0, .int 0, .int 0, .int 0]) : ACell), (.inr (.int, [.int 1]) : ACell)] (Is (some (.ref 9)) [(.inr (.int, [.int 0, .int 0, .int 0]) : ACell), (.inr (.int, [.int 1, .int 0, .int 0]) : ACell), (.inl (0, [.ref 3, .ref 4, .ref 5, .ref 6, .ref 7]) : ACell), (.inr (.int, [.int 0, .int 1, .int 4, .int 0, .int 0, .int 0, .int 0, .int 0, .int 0, .int 0, .int 0, .int 0, .int 0, .int 0, .int 0, .int 0]) : ACell), (.inr (.int, [.int 0, .int 1, .int 4, .int 0, .int 0, .int 0, .int 0, .int 0, .int 0, .int 0, .int 0, .int 0, .int 0, .int 0, .int 0, .int 0]) : ACell), (.inr (.int, [.int 0, .int 1, .int 0, .int 0, .int 2]) : ACell), (.inr (.int, [.int 0, .int 0, .int 0, .int 0, .int 0]) : ACell), (.inr (.int, [.int 0, .int 0, .int 0, .int 0, .int 0]) : ACell), (.inr (.int, [.int 1]) : ACell), (.inr (.int, [.int 4]) : ACell)]) := by
  refine e5 ?_
  refine s5_0 ?_
  refine s5_1 rfl ?_
  refine s5_2 ?_
  refine s5_3 rfl ?_
  refine s5_6 ?_
  refine s5_7 2 rfl (by decide) rfl ?_
  refine s5_8 rfl ?_
  refine s5_9 ?_
  refine s5_10 (fun h => absurd h (by decide)) (fun _ => ?_)
  refine s5_13 ?_
  refine s5_16 ?_
  refine s5_17 rfl ?_
  refine s5_20 ?_
  refine s5_21 4 rfl (by decide) rfl ?_
  refine s5_22 rfl ?_
  refine s5_23 ?_
  refine s5_9 ?_
  refine s5_10 (fun _ => ?_) (fun h => absurd h (by decide))
  refine s5_26 ?_
  refine s5_27 9 1 (by decide) rfl rfl ?_
  refine s5_29 rfl ?_
  refine s5_30 ?_
  refine s5_31 rfl ?_
  refine s5_33 ?_
  refine s5_34 rfl ?_
  refine s5_37 ?_
  refine s5_38 2 rfl (by decide) rfl ?_
  refine s5_39 rfl ?_
  refine s5_41 ?_
  refine s5_43 (fun h => absurd h (by decide)) (fun _ => ?_)
  refine s5_46 ?_
  refine s5_47 ?_
  refine s5_49 ?_
  refine s5_51 0 rfl (by decide) rfl ?_
  refine s5_52 ?_
  refine s5_55 ?_
  refine s5_56 rfl ?_
  refine s5_59 ?_
  refine s5_61 4 rfl (by decide) rfl ?_
  refine s5_62 rfl ?_
  refine s5_64 ?_
  refine s5_41 ?_
  refine s5_43 (fun _ => ?_) (fun h => absurd h (by decide))
  refine s5_67 ?_
  exact s5_68 ⟨rfl, rfl⟩
theorem own_r8  : M6 ⟨0, 0, 0, 0⟩ [.ref 8, .ref 1, .int 1] [(.inr (.int, [.int 0, .int 0, .int 0]) : ACell), (.inr (.int, [.int 1, .int 0, .int 0]) : ACell), (.inl (0, [.ref 3, .ref 4, .ref 5, .ref 6, .ref 7]) : ACell), (.inr (.int, [.int 0, .int 1, .int 4, .int 0, .int 0, .int 0, .int 0, .int 0, .int 0, .int 0, .int 0, .int 0, .int 0, .int 0, .int 0, .int 0]) : ACell), (.inr (.int, [.int 0, .int 1, .int 4, .int 0, .int 0, .int 0, .int 0, .int 0, .int 0, .int 0, .int 0, .int 0, .int 0, .int 0, .int 0, .int 0]) : ACell), (.inr (.int, [.int 0, .int 1, .int 0, .int 0, .int 2]) : ACell), (.inr (.int, [.int 0, .int 0, .int 0, .int 0, .int 0]) : ACell), (.inr (.int, [.int 0, .int 0, .int 0, .int 0, .int 0]) : ACell), (.inr (.int, [.int 1]) : ACell), (.inr (.int, [.int 4]) : ACell)] (Is (some (.int 1)) [(.inr (.int, [.int 0, .int 0, .int 0]) : ACell), (.inr (.int, [.int 1, .int 0, .int 0]) : ACell), (.inl (0, [.ref 3, .ref 4, .ref 5, .ref 6, .ref 7]) : ACell), (.inr (.int, [.int 0, .int 1, .int 4, .int 0, .int 0, .int 0, .int 0, .int 0, .int 0, .int 0, .int 0, .int 0, .int 0, .int 0, .int 0, .int 0]) : ACell), (.inr (.int, [.int 0, .int 1, .int 4, .int 0, .int 0, .int 0, .int 0, .int 0, .int 0, .int 0, .int 0, .int 0, .int 0, .int 0, .int 0, .int 0]) : ACell), (.inr (.int, [.int 0, .int 1, .int 0, .int 0, .int 2]) : ACell), (.inr (.int, [.int 0, .int 0, .int 0, .int 0, .int 0]) : ACell), (.inr (.int, [.int 0, .int 0, .int 0, .int 0, .int 0]) : ACell), (.inr (.int, [.int 1]) : ACell), (.inr (.int, [.int 4]) : ACell)]) := by
  refine e6 ?_
  refine s6_0 ?_
  refine s6_1k 1 rfl rfl ?_
  refine s6_2 ?_
  refine s6_3 (fun h => absurd h (by decide)) (fun _ => ?_)
  refine s6_6 ?_
  refine s6_7 ?_
  refine s6_8 (fun h => absurd h (by decide)) (fun _ => ?_)
  refine s6_11 ?_
  refine s6_12 ?_
  refine s6_13 0 rfl (by decide) rfl ?_
  refine s6_14 ?_
  refine s6_15 ?_
  refine s6_16 0 rfl (by decide) rfl ?_
  refine s6_17 (fun h => absurd h (by decide)) (fun _ => ?_)
  refine s6_20 ?_
  refine s6_21 ?_
  refine s6_22 (fun _ => ?_) (fun h => absurd h (by decide))
  refine s6_34 ?_
  refine s6_35 ?_
  refine s6_36 (fun _ => ?_) (fun h => absurd h (by decide))
  refine s6_48 ?_
  refine s6_49 ?_
  exact s6_53 ⟨rfl, rfl⟩
theorem own_r9  : M1 ⟨1, 5, 47, 12⟩ [.ref 2, .int 4] [(.inr (.int, [.int 2, .int 0, .int 0]) : ACell), (.inr (.int, [.int 2, .int 1, .int 0]) : ACell), (.inl (0, [.null, .null, .null, .null, .null]) : ACell)] (Is none [(.inr (.int, [.int 2, .int 0, .int 0]) : ACell), (.inr (.int, [.int 2, .int 1, .int 0]) : ACell), (.inl (0, [.ref 3, .ref 4, .ref 5, .ref 6, .ref 7]) : ACell), (.inr (.int, [.int 0, .int 0, .int 0, .int 0, .int 0, .int 0, .int 0, .int 0, .int 0, .int 0, .int 0, .int 0, .int 0, .int 0, .int 0, .int 0]) : ACell), (.inr (.int, [.int 0, .int 0, .int 0, .int 0, .int 0, .int 0, .int 0, .int 0, .int 0, .int 0, .int 0, .int 0, .int 0, .int 0, .int 0, .int 0]) : ACell), (.inr (.int, [.int 0, .int 0, .int 0, .int 0, .int 0]) : ACell), (.inr (.int, [.int 0, .int 0, .int 0, .int 0, .int 0]) : ACell), (.inr (.int, [.int 0, .int 0, .int 0, .int 0, .int 0]) : ACell)]) := by
  refine e1 ?_
  refine s1_0 ?_
  refine s1_1 rfl ?_
  refine s1_4 ?_
  refine s1_5 ?_
  refine s1_7 3 16 (by decide) rfl rfl ?_
  refine s1_9 rfl ?_
  refine s1_12 ?_
  refine s1_13 ?_
  refine s1_15 4 16 (by decide) rfl rfl ?_
  refine s1_17 rfl ?_
  refine s1_20 ?_
  refine s1_21 ?_
  refine s1_22 ?_
  refine s1_23 ?_
  refine s1_24 5 5 (by decide) rfl rfl ?_
  refine s1_26 rfl ?_
  refine s1_29 ?_
  refine s1_30 ?_
  refine s1_31 ?_
  refine s1_32 ?_
  refine s1_33 6 5 (by decide) rfl rfl ?_
  refine s1_35 rfl ?_
  refine s1_38 ?_
  refine s1_39 ?_
  refine s1_40 ?_
  refine s1_41 ?_
  refine s1_42 7 5 (by decide) rfl rfl ?_
  refine s1_44 rfl ?_
  exact s1_47 ⟨rfl, rfl⟩
theorem own_r10  : M2 ⟨0, 0, 0, 0⟩ [.ref 2, .int 1, .int 1] [(.inr (.int, [.int 2, .int 0, .int 0]) : ACell), (.inr (.int, [.int 2, .int 1, .int 0]) : ACell), (.inl (0, [.ref 3, .ref 4, .ref 5, .ref 6, .ref 7]) : ACell), (.inr (.int, [.int 0, .int 0, .int 0, .int 0, .int 0, .int 0, .int 0, .int 0, .int 0, .int 0, .int 0, .int 0, .int 0, .int 0, .int 0, .int 0]) : ACell), (.inr (.int, [.int 0, .int 0, .int 0, .int 0, .int 0, .int 0, .int 0, .int 0, .int 0, .int 0, .int 0, .int 0, .int 0, .int 0, .int 0, .int 0]) : ACell), (.inr (.int, [.int 0, .int 0, .int 0, .int 0, .int 0]) : ACell), (.inr (.int, [.int 0, .int 0, .int 0, .int 0, .int 0]) : ACell), (.inr (.int, [.int 0, .int 0, .int 0, .int 0, .int 0]) : ACell)] (Is none [(.inr (.int, [.int 2, .int 0, .int 0]) : ACell), (.inr (.int, [.int 2, .int 1, .int 0]) : ACell), (.inl (0, [.ref 3, .ref 4, .ref 5, .ref 6, .ref 7]) : ACell), (.inr (.int, [.int 0, .int 1, .int 0, .int 0, .int 0, .int 0, .int 0, .int 0, .int 0, .int 0, .int 0, .int 0, .int 0, .int 0, .int 0, .int 0]) : ACell), (.inr (.int, [.int 0, .int 1, .int 0, .int 0, .int 0, .int 0, .int 0, .int 0, .int 0, .int 0, .int 0, .int 0, .int 0, .int 0, .int 0, .int 0]) : ACell), (.inr (.int, [.int 0, .int 1, .int 0, .int 0, .int 0]) : ACell), (.inr (.int, [.int 0, .int 0, .int 0, .int 0, .int 0]) : ACell), (.inr (.int, [.int 0, .int 0, .int 0, .int 0, .int 0]) : ACell)]) := by
  refine e2 ?_
  refine s2_0 ?_
  refine s2_1 ?_
  refine s2_2 rfl ?_
  refine s2_5k 16 rfl rfl ?_
  refine s2_6 (fun _ => ?_) (fun h => absurd h (by decide))
  refine s2_45 ?_
  refine s2_46 rfl ?_
  refine s2_49 ?_
  refine s2_50 ?_
  refine s2_51 1 rfl (by decide) rfl ?_
  refine s2_52 ?_
  refine s2_53 rfl ?_
  refine s2_56 ?_
  refine s2_57 ?_
  refine s2_58 rfl ?_
  refine s2_61 ?_
  refine s2_62 1 rfl (by decide) rfl ?_
  refine s2_63 1 rfl (by decide) rfl ?_
  refine s2_64 ?_
  refine s2_65 rfl ?_
  refine s2_68 ?_
  refine s2_69 ?_
  refine s2_70 1 rfl (by decide) rfl ?_
  refine s2_71 ?_
  refine s2_72 rfl ?_
  refine s2_75 ?_
  refine s2_76 1 rfl (by decide) rfl ?_
  refine s2_77 (fun h => absurd h (by decide)) (fun _ => ?_)
  refine s2_80 ?_
  refine s2_81 rfl ?_
  refine s2_84 ?_
  refine s2_85 ?_
  refine s2_86 1 rfl (by decide) rfl ?_
  refine s2_87 ?_
  refine s2_102 ?_
  refine s2_103 rfl ?_
  refine s2_106 ?_
  refine s2_107 ?_
  refine s2_108 1 rfl (by decide) rfl ?_
  exact s2_109 ⟨rfl, rfl⟩
theorem own_r11  : M2 ⟨0, 0, 0, 0⟩ [.ref 2, .int 2, .int 1] [(.inr (.int, [.int 2, .int 0, .int 0]) : ACell), (.inr (.int, [.int 2, .int 1, .int 0]) : ACell), (.inl (0, [.ref 3, .ref 4, .ref 5, .ref 6, .ref 7]) : ACell), (.inr (.int, [.int 0, .int 1, .int 0, .int 0, .int 0, .int 0, .int 0, .int 0, .int 0, .int 0, .int 0, .int 0, .int 0, .int 0, .int 0, .int 0]) : ACell), (.inr (.int, [.int 0, .int 1, .int 0, .int 0, .int 0, .int 0, .int 0, .int 0, .int 0, .int 0, .int 0, .int 0, .int 0, .int 0, .int 0, .int 0]) : ACell), (.inr (.int, [.int 0, .int 1, .int 0, .int 0, .int 0]) : ACell), (.inr (.int, [.int 0, .int 0, .int 0, .int 0, .int 0]) : ACell), (.inr (.int, [.int 0, .int 0, .int 0, .int 0, .int 0]) : ACell)] (Is none [(.inr (.int, [.int 2, .int 0, .int 0]) : ACell), (.inr (.int, [.int 2, .int 1, .int 0]) : ACell), (.inl (0, [.ref 3, .ref 4, .ref 5, .ref 6, .ref 7]) : ACell), (.inr (.int, [.int 0, .int 1, .int 0, .int 0, .int 0, .int 0, .int 0, .int 0, .int 0, .int 0, .int 0, .int 0, .int 0, .int 0, .int 0, .int 0]) : ACell), (.inr (.int, [.int 0, .int 2, .int 0, .int 0, .int 0, .int 0, .int 0, .int 0, .int 0, .int 0, .int 0, .int 0, .int 0, .int 0, .int 0, .int 0]) : ACell), (.inr (.int, [.int 0, .int 1, .int 1, .int 0, .int 0]) : ACell), (.inr (.int, [.int 0, .int 0, .int 1, .int 0, .int 0]) : ACell), (.inr (.int, [.int 0, .int 2, .int 0, .int 0, .int 0]) : ACell)]) := by
  refine e2 ?_
  refine s2_0 ?_
  refine s2_1 ?_
  refine s2_2 rfl ?_
  refine s2_5k 16 rfl rfl ?_
  refine s2_6 (fun _ => ?_) (fun h => absurd h (by decide))
  refine s2_45 ?_
  refine s2_46 rfl ?_
  refine s2_49 ?_
  refine s2_50 ?_
  refine s2_51 2 rfl (by decide) rfl ?_
  refine s2_52 ?_
  refine s2_53 rfl ?_
  refine s2_56 ?_
  refine s2_57 ?_
  refine s2_58 rfl ?_
  refine s2_61 ?_
  refine s2_62 1 rfl (by decide) rfl ?_
  refine s2_63 2 rfl (by decide) rfl ?_
  refine s2_64 ?_
  refine s2_65 rfl ?_
  refine s2_68 ?_
  refine s2_69 ?_
  refine s2_70 2 rfl (by decide) rfl ?_
  refine s2_71 ?_
  refine s2_72 rfl ?_
  refine s2_75 ?_
  refine s2_76 1 rfl (by decide) rfl ?_
  refine s2_77 (fun _ => ?_) (fun h => absurd h (by decide))
  refine s2_90 ?_
  refine s2_91 rfl ?_
  refine s2_94 ?_
  refine s2_95 rfl ?_
  refine s2_98 ?_
  refine s2_99 1 rfl (by decide) rfl ?_
  refine s2_100 ?_
  refine s2_101 1 rfl (by decide) rfl ?_
  refine s2_102 ?_
  refine s2_103 rfl ?_
  refine s2_106 ?_
  refine s2_107 ?_
  refine s2_108 1 rfl (by decide) rfl ?_
  exact s2_109 ⟨rfl, rfl⟩
theorem own_r12  : M2 ⟨0, 0, 0, 0⟩ [.ref 2, .int 4, .int 2] [(.inr (.int, [.int 2, .int 0, .int 0]) : ACell), (.inr (.int, [.int 2, .int 1, .int 0]) : ACell), (.inl (0, [.ref 3, .ref 4, .ref 5, .ref 6, .ref 7]) : ACell), (.inr (.int, [.int 0, .int 1, .int 0, .int 0, .int 0, .int 0, .int 0, .int 0, .int 0, .int 0, .int 0, .int 0, .int 0, .int 0, .int 0, .int 0]) : ACell), (.inr (.int, [.int 0, .int 2, .int 0, .int 0, .int 0, .int 0, .int 0, .int 0, .int 0, .int 0, .int 0, .int 0, .int 0, .int 0, .int 0, .int 0]) : ACell), (.inr (.int, [.int 0, .int 1, .int 1, .int 0, .int 0]) : ACell), (.inr (.int, [.int 0, .int 0, .int 1, .int 0, .int 0]) : ACell), (.inr (.int, [.int 0, .int 2, .int 0, .int 0, .int 0]) : ACell)] (Is none [(.inr (.int, [.int 2, .int 0, .int 0]) : ACell), (.inr (.int, [.int 2, .int 1, .int 0]) : ACell), (.inl (0, [.ref 3, .ref 4, .ref 5, .ref 6, .ref 7]) : ACell), (.inr (.int, [.int 0, .int 1, .int 4, .int 0, .int 0, .int 0, .int 0, .int 0, .int 0, .int 0, .int 0, .int 0, .int 0, .int 0, .int 0, .int 0]) : ACell), (.inr (.int, [.int 0, .int 2, .int 4, .int 0, .int 0, .int 0, .int 0, .int 0, .int 0, .int 0, .int 0, .int 0, .int 0, .int 0, .int 0, .int 0]) : ACell), (.inr (.int, [.int 0, .int 1, .int 1, .int 0, .int 2]) : ACell), (.inr (.int, [.int 0, .int 0, .int 1, .int 0, .int 0]) : ACell), (.inr (.int, [.int 0, .int 2, .int 0, .int 0, .int 0]) : ACell)]) := by
  refine e2 ?_
  refine s2_0 ?_
  refine s2_1 ?_
  refine s2_2 rfl ?_
  refine s2_5k 16 rfl rfl ?_
  refine s2_6 (fun _ => ?_) (fun h => absurd h (by decide))
  refine s2_45 ?_
  refine s2_46 rfl ?_
  refine s2_49 ?_
  refine s2_50 ?_
  refine s2_51 4 rfl (by decide) rfl ?_
  refine s2_52 ?_
  refine s2_53 rfl ?_
  refine s2_56 ?_
  refine s2_57 ?_
  refine s2_58 rfl ?_
  refine s2_61 ?_
  refine s2_62 2 rfl (by decide) rfl ?_
  refine s2_63 4 rfl (by decide) rfl ?_
  refine s2_64 ?_
  refine s2_65 rfl ?_
  refine s2_68 ?_
  refine s2_69 ?_
  refine s2_70 4 rfl (by decide) rfl ?_
  refine s2_71 ?_
  refine s2_72 rfl ?_
  refine s2_75 ?_
  refine s2_76 2 rfl (by decide) rfl ?_
  refine s2_77 (fun h => absurd h (by decide)) (fun _ => ?_)
  refine s2_80 ?_
  refine s2_81 rfl ?_
  refine s2_84 ?_
  refine s2_85 ?_
  refine s2_86 2 rfl (by decide) rfl ?_
  refine s2_87 ?_
  refine s2_102 ?_
  refine s2_103 rfl ?_
  refine s2_106 ?_
  refine s2_107 ?_
  refine s2_108 2 rfl (by decide) rfl ?_
  exact s2_109 ⟨rfl, rfl⟩
theorem own_r13  : M3 ⟨0, 0, 0, 0⟩ [.ref 2, .int 1] [(.inr (.int, [.int 2, .int 0, .int 0]) : ACell), (.inr (.int, [.int 2, .int 1, .int 0]) : ACell), (.inl (0, [.ref 3, .ref 4, .ref 5, .ref 6, .ref 7]) : ACell), (.inr (.int, [.int 0, .int 1, .int 4, .int 0, .int 0, .int 0, .int 0, .int 0, .int 0, .int 0, .int 0, .int 0, .int 0, .int 0, .int 0, .int 0]) : ACell), (.inr (.int, [.int 0, .int 2, .int 4, .int 0, .int 0, .int 0, .int 0, .int 0, .int 0, .int 0, .int 0, .int 0, .int 0, .int 0, .int 0, .int 0]) : ACell), (.inr (.int, [.int 0, .int 1, .int 1, .int 0, .int 2]) : ACell), (.inr (.int, [.int 0, .int 0, .int 1, .int 0, .int 0]) : ACell), (.inr (.int, [.int 0, .int 2, .int 0, .int 0, .int 0]) : ACell)] (Is none [(.inr (.int, [.int 2, .int 0, .int 0]) : ACell), (.inr (.int, [.int 2, .int 1, .int 0]) : ACell), (.inl (0, [.ref 3, .ref 4, .ref 5, .ref 6, .ref 7]) : ACell), (.inr (.int, [.int 0, .int 2, .int 4, .int 0, .int 0, .int 0, .int 0, .int 0, .int 0, .int 0, .int 0, .int 0, .int 0, .int 0, .int 0, .int 0]) : ACell), (.inr (.int, [.int 0, .int 2, .int 4, .int 0, .int 0, .int 0, .int 0, .int 0, .int 0, .int 0, .int 0, .int 0, .int 0, .int 0, .int 0, .int 0]) : ACell), (.inr (.int, [.int 0, .int 0, .int 1, .int 0, .int 2]) : ACell), (.inr (.int, [.int 0, .int 0, .int 0, .int 0, .int 0]) : ACell), (.inr (.int, [.int 0, .int 2, .int 0, .int 0, .int 0]) : ACell)]) := by
  refine e3 ?_
  refine s3_0 ?_
  refine s3_1 rfl ?_
  refine s3_4 ?_
  refine s3_5 1 rfl (by decide) rfl ?_
  refine s3_6 rfl ?_
  refine s3_7 ?_
  refine s3_8 rfl ?_
  refine s3_11 ?_
  refine s3_12 1 rfl (by decide) rfl ?_
  refine s3_13 (fun h => absurd h (by decide)) (fun _ => ?_)
  refine s3_16 ?_
  refine s3_17 rfl ?_
  refine s3_20 ?_
  refine s3_21 ?_
  refine s3_22 rfl ?_
  refine s3_25 ?_
  refine s3_26 1 rfl (by decide) rfl ?_
  refine s3_27 1 rfl (by decide) rfl ?_
  refine s3_28 ?_
  refine s3_48 ?_
  refine s3_49 rfl ?_
  refine s3_52 ?_
  refine s3_53 1 rfl (by decide) rfl ?_
  refine s3_54 (fun _ => ?_) (fun h => absurd h (by decide))
  refine s3_72 ?_
  refine s3_73 rfl ?_
  refine s3_76 ?_
  refine s3_77 rfl ?_
  refine s3_80 ?_
  refine s3_81 1 rfl (by decide) rfl ?_
  refine s3_82 ?_
  refine s3_83 rfl ?_
  refine s3_86 ?_
  refine s3_87 1 rfl (by decide) rfl ?_
  refine s3_88 2 rfl (by decide) rfl ?_
  refine s3_89 ?_
  refine s3_90 rfl ?_
  refine s3_93 ?_
  refine s3_94 ?_
  refine s3_95 1 rfl (by decide) rfl ?_
  exact s3_96 ⟨rfl, rfl⟩
theorem own_r14  : M4 ⟨0, 0, 0, 0⟩ [.ref 2, .int 1] [(.inr (.int, [.int 2, .int 0, .int 0]) : ACell), (.inr (.int, [.int 2, .int 1, .int 0]) : ACell), (.inl (0, [.ref 3, .ref 4, .ref 5, .ref 6, .ref 7]) : ACell), (.inr (.int, [.int 0, .int 2, .int 4, .int 0, .int 0, .int 0, .int 0, .int 0, .int 0, .int 0, .int 0, .int 0, .int 0, .int 0, .int 0, .int 0]) : ACell), (.inr (.int, [.int 0, .int 2, .int 4, .int 0, .int 0, .int 0, .int 0, .int 0, .int 0, .int 0, .int 0, .int 0, .int 0, .int 0, .int 0, .int 0]) : ACell), (.inr (.int, [.int 0, .int 0, .int 1, .int 0, .int 2]) : ACell), (.inr (.int, [.int 0, .int 0, .int 0, .int 0, .int 0]) : ACell), (.inr (.int, [.int 0, .int 2, .int 0, .int 0, .int 0]) : ACell)] (Is (some (.int 0)) [(.inr (.int, [.int 2, .int 0, .int 0]) : ACell), (.inr (.int, [.int 2, .int 1, .int 0]) : ACell), (.inl (0, [.ref 3, .ref 4, .ref 5, .ref 6, .ref 7]) : ACell), (.inr (.int, [.int 0, .int 2, .int 4, .int 0, .int 0, .int 0, .int 0, .int 0, .int 0, .int 0, .int 0, .int 0, .int 0, .int 0, .int 0, .int 0]) : ACell), (.inr (.int, [.int 0, .int 2, .int 4, .int 0, .int 0, .int 0, .int 0, .int 0, .int 0, .int 0, .int 0, .int 0, .int 0, .int 0, .int 0, .int 0]) : ACell), (.inr (.int, [.int 0, .int 0, .int 1, .int 0, .int 2]) : ACell), (.inr (.int, [.int 0, .int 0, .int 0, .int 0, .int 0]) : ACell), (.inr (.int, [.int 0, .int 2, .int 0, .int 0, .int 0]) : ACell)]) := by
  refine e4 ?_
  refine s4_0 ?_
  refine s4_1 rfl ?_
  refine s4_4 ?_
  refine s4_5 1 rfl (by decide) rfl ?_
  exact s4_6 ⟨rfl, rfl⟩
theorem own_r15  : M2 ⟨0, 0, 0, 0⟩ [.ref 2, .int 1, .int 1] [(.inr (.int, [.int 2, .int 0, .int 0]) : ACell), (.inr (.int, [.int 2, .int 1, .int 0]) : ACell), (.inl (0, [.ref 3, .ref 4, .ref 5, .ref 6, .ref 7]) : ACell), (.inr (.int, [.int 0, .int 2, .int 4, .int 0, .int 0, .int 0, .int 0, .int 0, .int 0, .int 0, .int 0, .int 0, .int 0, .int 0, .int 0, .int 0]) : ACell), (.inr (.int, [.int 0, .int 2, .int 4, .int 0, .int 0, .int 0, .int 0, .int 0, .int 0, .int 0, .int 0, .int 0, .int 0, .int 0, .int 0, .int 0]) : ACell), (.inr (.int, [.int 0, .int 0, .int 1, .int 0, .int 2]) : ACell), (.inr (.int, [.int 0, .int 0, .int 0, .int 0, .int 0]) : ACell), (.inr (.int, [.int 0, .int 2, .int 0, .int 0, .int 0]) : ACell)] (Is none [(.inr (.int, [.int 2, .int 0, .int 0]) : ACell), (.inr (.int, [.int 2, .int 1, .int 0]) : ACell), (.inl (0, [.ref 3, .ref 4, .ref 5, .ref 6, .ref 7]) : ACell), (.inr (.int, [.int 0, .int 2, .int 4, .int 0, .int 0, .int 0, .int 0, .int 0, .int 0, .int 0, .int 0, .int 0, .int 0, .int 0, .int 0, .int 0]) : ACell), (.inr (.int, [.int 0, .int 1, .int 4, .int 0, .int 0, .int 0, .int 0, .int 0, .int 0, .int 0, .int 0, .int 0, .int 0, .int 0, .int 0, .int 0]) : ACell), (.inr (.int, [.int 0, .int 1, .int 1, .int 0, .int 2]) : ACell), (.inr (.int, [.int 0, .int 2, .int 0, .int 0, .int 0]) : ACell), (.inr (.int, [.int 0, .int 0, .int 1, .int 0, .int 0]) : ACell)]) := by
  refine e2 ?_
  refine s2_0 ?_
  refine s2_1 ?_
  refine s2_2 rfl ?_
  refine s2_5k 16 rfl rfl ?_
  refine s2_6 (fun _ => ?_) (fun h => absurd h (by decide))
  refine s2_45 ?_
  refine s2_46 rfl ?_
  refine s2_49 ?_
  refine s2_50 ?_
  refine s2_51 1 rfl (by decide) rfl ?_
  refine s2_52 ?_
  refine s2_53 rfl ?_
  refine s2_56 ?_
  refine s2_57 ?_
  refine s2_58 rfl ?_
  refine s2_61 ?_
  refine s2_62 1 rfl (by decide) rfl ?_
  refine s2_63 1 rfl (by decide) rfl ?_
  refine s2_64 ?_
  refine s2_65 rfl ?_
  refine s2_68 ?_
  refine s2_69 ?_
  refine s2_70 1 rfl (by decide) rfl ?_
  refine s2_71 ?_
  refine s2_72 rfl ?_
  refine s2_75 ?_
  refine s2_76 1 rfl (by decide) rfl ?_
  refine s2_77 (fun _ => ?_) (fun h => absurd h (by decide))
  refine s2_90 ?_
  refine s2_91 rfl ?_
  refine s2_94 ?_
  refine s2_95 rfl ?_
  refine s2_98 ?_
  refine s2_99 1 rfl (by decide) rfl ?_
  refine s2_100 ?_
  refine s2_101 2 rfl (by decide) rfl ?_
  refine s2_102 ?_
  refine s2_103 rfl ?_
  refine s2_106 ?_
  refine s2_107 ?_
  refine s2_108 1 rfl (by decide) rfl ?_
  exact s2_109 ⟨rfl, rfl⟩
theorem own_r16  : M5 ⟨0, 1, 2, 0⟩ [.ref 2, .int 1] [(.inr (.int, [.int 2, .int 0, .int 0]) : ACell), (.inr (.int, [.int 2, .int 1, .int 0]) : ACell), (.inl (0, [.ref 3, .ref 4, .ref 5, .ref 6, .ref 7]) : ACell), (.inr (.int, [.int 0, .int 2, .int 4, .int 0, .int 0, .int 0, .int 0, .int 0, .int 0, .int 0, .int 0, .int 0, .int 0, .int 0, .int 0, .int 0]) : ACell), (.inr (.int, [.int 0, .int 1, .int 4, .int 0, .int 0, .int 0, .int 0, .int 0, .int 0, .int 0, .int 0, .int 0, .int 0, .int 0, .int 0, .int 0]) : ACell), (.inr (.int, [.int 0, .int 1, .int 1, .int 0, .int 2]) : ACell), (.inr (.int, [.int 0, .int 2, .int 0, .int 0, .int 0]) : ACell), (.inr (.int, [.int 0, .int 0, .int 1, .int 0, .int 0]) : ACell)] (Is (some (.ref 8)) [(.inr (.int, [.int 2, .int 0, .int 0]) : ACell), (.inr (.int, [.int 2, .int 1, .int 0]) : ACell), (.inl (0, [.ref 3, .ref 4, .ref 5, .ref 6, .ref 7]) : ACell), (.inr (.int, [.int 0, .int 2, .int 4, .int 0, .int 0, .int 0, .int 0, .int 0, .int 0, .int 0, .int 0, .int 0, .int 0, .int 0, .int 0, .int 0]) : ACell), (.inr (.int, [.int 0, .int 1, .int 4, .int 0, .int 0, .int 0, .int 0, .int 0, .int 0, .int 0, .int 0, .int 0, .int 0, .int 0, .int 0, .int 0]) : ACell), (.inr (.int, [.int 0, .int 1, .int 1, .int 0, .int 2]) : ACell), (.inr (.int, [.int 0, .int 2, .int 0, .int 0, .int 0]) : ACell), (.inr (.int, [.int 0, .int 0, .int 1, .int 0, .int 0]) : ACell), (.inr (.int, [.int 2, .int 1]) : ACell)]) := by
  refine e5 ?_
  refine s5_0 ?_
  refine s5_1 rfl ?_
  refine s5_2 ?_
  refine s5_3 rfl ?_
  refine s5_6 ?_
  refine s5_7 1 rfl (by decide) rfl ?_
  refine s5_8 rfl ?_
  refine s5_9 ?_
  refine s5_10 (fun h => absurd h (by decide)) (fun _ => ?_)
  refine s5_13 ?_
  refine s5_16 ?_
  refine s5_17 rfl ?_
  refine s5_20 ?_
  refine s5_21 2 rfl (by decide) rfl ?_
  refine s5_22 rfl ?_
  refine s5_23 ?_
  refine s5_9 ?_
  refine s5_10 (fun h => absurd h (by decide)) (fun _ => ?_)
  refine s5_13 ?_
  refine s5_16 ?_
  refine s5_17 rfl ?_
  refine s5_20 ?_
  refine s5_21 1 rfl (by decide) rfl ?_
  refine s5_22 rfl ?_
  refine s5_23 ?_
  refine s5_9 ?_
  refine s5_10 (fun _ => ?_) (fun h => absurd h (by decide))
  refine s5_26 ?_
  refine s5_27 8 2 (by decide) rfl rfl ?_
  refine s5_29 rfl ?_
  refine s5_30 ?_
  refine s5_31 rfl ?_
  refine s5_33 ?_
  refine s5_34 rfl ?_
  refine s5_37 ?_
  refine s5_38 1 rfl (by decide) rfl ?_
  refine s5_39 rfl ?_
  refine s5_41 ?_
  refine s5_43 (fun h => absurd h (by decide)) (fun _ => ?_)
  refine s5_46 ?_
  refine s5_47 ?_
  refine s5_49 ?_
  refine s5_51 0 rfl (by decide) rfl ?_
  refine s5_52 ?_
  refine s5_55 ?_
  refine s5_56 rfl ?_
  refine s5_59 ?_
  refine s5_61 2 rfl (by decide) rfl ?_
  refine s5_62 rfl ?_
  refine s5_64 ?_
  refine s5_41 ?_
  refine s5_43 (fun h => absurd h (by decide)) (fun _ => ?_)
  refine s5_46 ?_
  refine s5_47 ?_
  refine s5_49 ?_
  refine s5_51 1 rfl (by decide) rfl ?_
  refine s5_52 ?_
  refine s5_55 ?_
  refine s5_56 rfl ?_
  refine s5_59 ?_
  refine s5_61 1 rfl (by decide) rfl ?_
  refine s5_62 rfl ?_
  refine s5_64 ?_
  refine s5_41 ?_
  refine s5_43 (fun _ => ?_) (fun h => absurd h (by decide))
  refine s5_67 ?_
  exact s5_68 ⟨rfl, rfl⟩
theorem own_r17  : M5 ⟨0, 1, 1, 0⟩ [.ref 2, .int 2] [(.inr (.int, [.int 2, .int 0, .int 0]) : ACell), (.inr (.int, [.int 2, .int 1, .int 0]) : ACell), (.inl (0, [.ref 3, .ref 4, .ref 5, .ref 6, .ref 7]) : ACell), (.inr (.int, [.int 0, .int 2, .int 4, .int 0, .int 0, .int 0, .int 0, .int 0, .int 0, .int 0, .int 0, .int 0, .int 0, .int 0, .int 0, .int 0]) : ACell), (.inr (.int, [.int 0, .int 1, .int 4, .int 0, .int 0, .int 0, .int 0, .int 0, .int 0, .int 0, .int 0, .int 0, .int 0, .int 0, .int 0, .int 0]) : ACell), (.inr (.int, [.int 0, .int 1, .int 1, .int 0, .int 2]) : ACell), (.inr (.int, [.int 0, .int 2, .int 0, .int 0, .int 0]) : ACell), (.inr (.int, [.int 0, .int 0, .int 1, .int 0, .int 0]) : ACell), (.inr (.int, [.int 2, .int 1]) : ACell)] (Is (some (.ref 9)) [(.inr (.int, [.int 2, .int 0, .int 0]) : ACell), (.inr (.int, [.int 2, .int 1, .int 0]) : ACell), (.inl (0, [.ref 3, .ref 4, .ref 5, .ref 6, .ref 7]) : ACell), (.inr (.int, [.int 0, .int 2, .int 4, .int 0, .int 0, .int 0, .int 0, .int 0, .int 0, .int 0, .int 0, .int 0, .int 0, .int 0, .int 0, .int 0]) : ACell), (.inr (.int, [.int 0, .int 1, .int 4, .int 0, .int 0, .int 0, .int 0, .int 0, .int 0, .int 0, .int 0, .int 0, .int 0, .int 0, .int 0, .int 0]) : ACell), (.inr (.int, [.int 0, .int 1, .int 1, .int 0, .int 2]) : ACell), (.inr (.int, [.int 0, .int 2, .int 0, .int 0, .int 0]) : ACell), (.inr (.int, [.int 0, .int 0, .int 1, .int 0, .int 0]) : ACell), (.inr (.int, [.int 2, .int 1]) : ACell), (.inr (.int, [.int 4]) : ACell)]) := by
  refine e5 ?_
  refine s5_0 ?_
  refine s5_1 rfl ?_
  refine s5_2 ?_
  refine s5_3 rfl ?_
  refine s5_6 ?_
  refine s5_7 2 rfl (by decide) rfl ?_
  refine s5_8 rfl ?_
  refine s5_9 ?_
  refine s5_10 (fun h => absurd h (by decide)) (fun _ => ?_)
  refine s5_13 ?_
  refine s5_16 ?_
  refine s5_17 rfl ?_
  refine s5_20 ?_
  refine s5_21 4 rfl (by decide) rfl ?_
  refine s5_22 rfl ?_
  refine s5_23 ?_
  refine s5_9 ?_
  refine s5_10 (fun _ => ?_) (fun h => absurd h (by decide))
  refine s5_26 ?_
  refine s5_27 9 1 (by decide) rfl rfl ?_
  refine s5_29 rfl ?_
  refine s5_30 ?_
  refine s5_31 rfl ?_
  refine s5_33 ?_
  refine s5_34 rfl ?_
  refine s5_37 ?_
  refine s5_38 2 rfl (by decide) rfl ?_
  refine s5_39 rfl ?_
  refine s5_41 ?_
  refine s5_43 (fun h => absurd h (by decide)) (fun _ => ?_)
  refine s5_46 ?_
  refine s5_47 ?_
  refine s5_49 ?_
  refine s5_51 0 rfl (by decide) rfl ?_
  refine s5_52 ?_
  refine s5_55 ?_
  refine s5_56 rfl ?_
  refine s5_59 ?_
  refine s5_61 4 rfl (by decide) rfl ?_
  refine s5_62 rfl ?_
  refine s5_64 ?_
  refine s5_41 ?_
  refine s5_43 (fun _ => ?_) (fun h => absurd h (by decide))
  refine s5_67 ?_
  exact s5_68 ⟨rfl, rfl⟩
theorem own_r18  : M6 ⟨0, 0, 0, 0⟩ [.ref 8, .ref 1, .int 2] [(.inr (.int, [.int 2, .int 0, .int 0]) : ACell), (.inr (.int, [.int 2, .int 1, .int 0]) : ACell), (.inl (0, [.ref 3, .ref 4, .ref 5, .ref 6, .ref 7]) : ACell), (.inr (.int, [.int 0, .int 2, .int 4, .int 0, .int 0, .int 0, .int 0, .int 0, .int 0, .int 0, .int 0, .int 0, .int 0, .int 0, .int 0, .int 0]) : ACell), (.inr (.int, [.int 0, .int 1, .int 4, .int 0, .int 0, .int 0, .int 0, .int 0, .int 0, .int 0, .int 0, .int 0, .int 0, .int 0, .int 0, .int 0]) : ACell), (.inr (.int, [.int 0, .int 1, .int 1, .int 0, .int 2]) : ACell), (.inr (.int, [.int 0, .int 2, .int 0, .int 0, .int 0]) : ACell), (.inr (.int, [.int 0, .int 0, .int 1, .int 0, .int 0]) : ACell), (.inr (.int, [.int 2, .int 1]) : ACell), (.inr (.int, [.int 4]) : ACell)] (Is (some (.int 1)) [(.inr (.int, [.int 2, .int 0, .int 0]) : ACell), (.inr (.int, [.int 2, .int 1, .int 0]) : ACell), (.inl (0, [.ref 3, .ref 4, .ref 5, .ref 6, .ref 7]) : ACell), (.inr (.int, [.int 0, .int 2, .int 4, .int 0, .int 0, .int 0, .int 0, .int 0, .int 0, .int 0, .int 0, .int 0, .int 0, .int 0, .int 0, .int 0]) : ACell), (.inr (.int, [.int 0, .int 1, .int 4, .int 0, .int 0, .int 0, .int 0, .int 0, .int 0, .int 0, .int 0, .int 0, .int 0, .int 0, .int 0, .int 0]) : ACell), (.inr (.int, [.int 0, .int 1, .int 1, .int 0, .int 2]) : ACell), (.inr (.int, [.int 0, .int 2, .int 0, .int 0, .int 0]) : ACell), (.inr (.int, [.int 0, .int 0, .int 1, .int 0, .int 0]) : ACell), (.inr (.int, [.int 2, .int 1]) : ACell), (.inr (.int, [.int 4]) : ACell)]) := by
  refine e6 ?_
  refine s6_0 ?_
  refine s6_1k 2 rfl rfl ?_
  refine s6_2 ?_
  refine s6_3 (fun h => absurd h (by decide)) (fun _ => ?_)
  refine s6_6 ?_
  refine s6_7 ?_
  refine s6_8 (fun h => absurd h (by decide)) (fun _ => ?_)
  refine s6_11 ?_
  refine s6_12 ?_
  refine s6_13 0 rfl (by decide) rfl ?_
  refine s6_14 ?_
  refine s6_15 ?_
  refine s6_16 0 rfl (by decide) rfl ?_
  refine s6_17 (fun h => absurd h (by decide)) (fun _ => ?_)
  refine s6_20 ?_
  refine s6_21 ?_
  refine s6_22 (fun h => absurd h (by decide)) (fun _ => ?_)
  refine s6_25 ?_
  refine s6_26 ?_
  refine s6_27 1 rfl (by decide) rfl ?_
  refine s6_28 ?_
  refine s6_29 ?_
  refine s6_30 1 rfl (by decide) rfl ?_
  refine s6_31 (fun h => absurd h (by decide)) (fun _ => ?_)
  refine s6_34 ?_
  refine s6_35 ?_
  refine s6_36 (fun _ => ?_) (fun h => absurd h (by decide))
  refine s6_48 ?_
  refine s6_49 ?_
  exact s6_53 ⟨rfl, rfl⟩
theorem own_r19  : M1 ⟨1, 5, 47, 12⟩ [.ref 2, .int 4] [(.inr (.int, [.int 2, .int 0, .int 0]) : ACell), (.inr (.int, [.int 1, .int 0, .int 0]) : ACell), (.inl (0, [.null, .null, .null, .null, .null]) : ACell)] (Is none [(.inr (.int, [.int 2, .int 0, .int 0]) : ACell), (.inr (.int, [.int 1, .int 0, .int 0]) : ACell), (.inl (0, [.ref 3, .ref 4, .ref 5, .ref 6, .ref 7]) : ACell), (.inr (.int, [.int 0, .int 0, .int 0, .int 0, .int 0, .int 0, .int 0, .int 0, .int 0, .int 0, .int 0, .int 0, .int 0, .int 0, .int 0, .int 0]) : ACell), (.inr (.int, [.int 0, .int 0, .int 0, .int 0, .int 0, .int 0, .int 0, .int 0, .int 0, .int 0, .int 0, .int 0, .int 0, .int 0, .int 0, .int 0]) : ACell), (.inr (.int, [.int 0, .int 0, .int 0, .int 0, .int 0]) : ACell), (.inr (.int, [.int 0, .int 0, .int 0, .int 0, .int 0]) : ACell), (.inr (.int, [.int 0, .int 0, .int 0, .int 0, .int 0]) : ACell)]) := by
  refine e1 ?_
  refine s1_0 ?_
  refine s1_1 rfl ?_
  refine s1_4 ?_
  refine s1_5 ?_
  refine s1_7 3 16 (by decide) rfl rfl ?_
  refine s1_9 rfl ?_
  refine s1_12 ?_
  refine s1_13 ?_
  refine s1_15 4 16 (by decide) rfl rfl ?_
  refine s1_17 rfl ?_
  refine s1_20 ?_
  refine s1_21 ?_
  refine s1_22 ?_
  refine s1_23 ?_
  refine s1_24 5 5 (by decide) rfl rfl ?_
  refine s1_26 rfl ?_
  refine s1_29 ?_
  refine s1_30 ?_
  refine s1_31 ?_
  refine s1_32 ?_
  refine s1_33 6 5 (by decide) rfl rfl ?_
  refine s1_35 rfl ?_
  refine s1_38 ?_
  refine s1_39 ?_
  refine s1_40 ?_
  refine s1_41 ?_
  refine s1_42 7 5 (by decide) rfl rfl ?_
  refine s1_44 rfl ?_
  exact s1_47 ⟨rfl, rfl⟩
theorem own_r20  : M2 ⟨0, 0, 0, 0⟩ [.ref 2, .int 1, .int 1] [(.inr (.int, [.int 2, .int 0, .int 0]) : ACell), (.inr (.int, [.int 1, .int 0, .int 0]) : ACell), (.inl (0, [.ref 3, .ref 4, .ref 5, .ref 6, .ref 7]) : ACell), (.inr (.int, [.int 0, .int 0, .int 0, .int 0, .int 0, .int 0, .int 0, .int 0, .int 0, .int 0, .int 0, .int 0, .int 0, .int 0, .int 0, .int 0]) : ACell), (.inr (.int, [.int 0, .int 0, .int 0, .int 0, .int 0, .int 0, .int 0, .int 0, .int 0, .int 0, .int 0, .int 0, .int 0, .int 0, .int 0, .int 0]) : ACell), (.inr (.int, [.int 0, .int 0, .int 0, .int 0, .int 0]) : ACell), (.inr (.int, [.int 0, .int 0, .int 0, .int 0, .int 0]) : ACell), (.inr (.int, [.int 0, .int 0, .int 0, .int 0, .int 0]) : ACell)] (Is none [(.inr (.int, [.int 2, .int 0, .int 0]) : ACell), (.inr (.int, [.int 1, .int 0, .int 0]) : ACell), (.inl (0, [.ref 3, .ref 4, .ref 5, .ref 6, .ref 7]) : ACell), (.inr (.int, [.int 0, .int 1, .int 0, .int 0, .int 0, .int 0, .int 0, .int 0, .int 0, .int 0, .int 0, .int 0, .int 0, .int 0, .int 0, .int 0]) : ACell), (.inr (.int, [.int 0, .int 1, .int 0, .int 0, .int 0, .int 0, .int 0, .int 0, .int 0, .int 0, .int 0, .int 0, .int 0, .int 0, .int 0, .int 0]) : ACell), (.inr (.int, [.int 0, .int 1, .int 0, .int 0, .int 0]) : ACell), (.inr (.int, [.int 0, .int 0, .int 0, .int 0, .int 0]) : ACell), (.inr (.int, [.int 0, .int 0, .int 0, .int 0, .int 0]) : ACell)]) := by
  refine e2 ?_
  refine s2_0 ?_
  refine s2_1 ?_
  refine s2_2 rfl ?_
  refine s2_5k 16 rfl rfl ?_
  refine s2_6 (fun _ => ?_) (fun h => absurd h (by decide))
  refine s2_45 ?_
  refine s2_46 rfl ?_
  refine s2_49 ?_
  refine s2_50 ?_
  refine s2_51 1 rfl (by decide) rfl ?_
  refine s2_52 ?_
  refine s2_53 rfl ?_
  refine s2_56 ?_
  refine s2_57 ?_
  refine s2_58 rfl ?_
  refine s2_61 ?_
  refine s2_62 1 rfl (by decide) rfl ?_
  refine s2_63 1 rfl (by decide) rfl ?_
  refine s2_64 ?_
  refine s2_65 rfl ?_
  refine s2_68 ?_
  refine s2_69 ?_
  refine s2_70 1 rfl (by decide) rfl ?_
  refine s2_71 ?_
  refine s2_72 rfl ?_
  refine s2_75 ?_
  refine s2_76 1 rfl (by decide) rfl ?_
  refine s2_77 (fun h => absurd h (by decide)) (fun _ => ?_)
  refine s2_80 ?_
  refine s2_81 rfl ?_
  refine s2_84 ?_
  refine s2_85 ?_
  refine s2_86 1 rfl (by decide) rfl ?_
  refine s2_87 ?_
  refine s2_102 ?_
  refine s2_103 rfl ?_
  refine s2_106 ?_
  refine s2_107 ?_
  refine s2_108 1 rfl (by decide) rfl ?_
  exact s2_109 ⟨rfl, rfl⟩
theorem own_r21  : M2 ⟨0, 0, 0, 0⟩ [.ref 2, .int 2, .int 1] [(.inr (.int, [.int 2, .int 0, .int 0]) : ACell), (.inr (.int, [.int 1, .int 0, .int 0]) : ACell), (.inl (0, [.ref 3, .ref 4, .ref 5, .ref 6, .ref 7]) : ACell), (.inr (.int, [.int 0, .int 1, .int 0, .int 0, .int 0, .int 0, .int 0, .int 0, .int 0, .int 0, .int 0, .int 0, .int 0, .int 0, .int 0, .int 0]) : ACell), (.inr (.int, [.int 0, .int 1, .int 0, .int 0, .int 0, .int 0, .int 0, .int 0, .int 0, .int 0, .int 0, .int 0, .int 0, .int 0, .int 0, .int 0]) : ACell), (.inr (.int, [.int 0, .int 1, .int 0, .int 0, .int 0]) : ACell), (.inr (.int, [.int 0, .int 0, .int 0, .int 0, .int 0]) : ACell), (.inr (.int, [.int 0, .int 0, .int 0, .int 0, .int 0]) : ACell)] (Is none [(.inr (.int, [.int 2, .int 0, .int 0]) : ACell), (.inr (.int, [.int 1, .int 0, .int 0]) : ACell), (.inl (0, [.ref 3, .ref 4, .ref 5, .ref 6, .ref 7]) : ACell), (.inr (.int, [.int 0, .int 1, .int 0, .int 0, .int 0, .int 0, .int 0, .int 0, .int 0, .int 0, .int 0, .int 0, .int 0, .int 0, .int 0, .int 0]) : ACell), (.inr (.int, [.int 0, .int 2, .int 0, .int 0, .int 0, .int 0, .int 0, .int 0, .int 0, .int 0, .int 0, .int 0, .int 0, .int 0, .int 0, .int 0]) : ACell), (.inr (.int, [.int 0, .int 1, .int 1, .int 0, .int 0]) : ACell), (.inr (.int, [.int 0, .int 0, .int 1, .int 0, .int 0]) : ACell), (.inr (.int, [.int 0, .int 2, .int 0, .int 0, .int 0]) : ACell)]) := by
  refine e2 ?_
  refine s2_0 ?_
  refine s2_1 ?_
  refine s2_2 rfl ?_
  refine s2_5k 16 rfl rfl ?_
  refine s2_6 (fun _ => ?_) (fun h => absurd h (by decide))
  refine s2_45 ?_
  refine s2_46 rfl ?_
  refine s2_49 ?_
  refine s2_50 ?_
  refine s2_51 2 rfl (by decide) rfl ?_
  refine s2_52 ?_
  refine s2_53 rfl ?_
  refine s2_56 ?_
  refine s2_57 ?_
  refine s2_58 rfl ?_
  refine s2_61 ?_
  refine s2_62 1 rfl (by decide) rfl ?_
  refine s2_63 2 rfl (by decide) rfl ?_
  refine s2_64 ?_
  refine s2_65 rfl ?_
  refine s2_68 ?_
  refine s2_69 ?_
  refine s2_70 2 rfl (by decide) rfl ?_
  refine s2_71 ?_
  refine s2_72 rfl ?_
  refine s2_75 ?_
  refine s2_76 1 rfl (by decide) rfl ?_
  refine s2_77 (fun _ => ?_) (fun h => absurd h (by decide))
  refine s2_90 ?_
  refine s2_91 rfl ?_
  refine s2_94 ?_
  refine s2_95 rfl ?_
  refine s2_98 ?_
  refine s2_99 1 rfl (by decide) rfl ?_
  refine s2_100 ?_
  refine s2_101 1 rfl (by decide) rfl ?_
  refine s2_102 ?_
  refine s2_103 rfl ?_
  refine s2_106 ?_
  refine s2_107 ?_
  refine s2_108 1 rfl (by decide) rfl ?_
  exact s2_109 ⟨rfl, rfl⟩
theorem own_r22  : M2 ⟨0, 0, 0, 0⟩ [.ref 2, .int 4, .int 2] [(.inr (.int, [.int 2, .int 0, .int 0]) : ACell), (.inr (.int, [.int 1, .int 0, .int 0]) : ACell), (.inl (0, [.ref 3, .ref 4, .ref 5, .ref 6, .ref 7]) : ACell), (.inr (.int, [.int 0, .int 1, .int 0, .int 0, .int 0, .int 0, .int 0, .int 0, .int 0, .int 0, .int 0, .int 0, .int 0, .int 0, .int 0, .int 0]) : ACell), (.inr (.int, [.int 0, .int 2, .int 0, .int 0, .int 0, .int 0, .int 0, .int 0, .int 0, .int 0, .int 0, .int 0, .int 0, .int 0, .int 0, .int 0]) : ACell), (.inr (.int, [.int 0, .int 1, .int 1, .int 0, .int 0]) : ACell), (.inr (.int, [.int 0, .int 0, .int 1, .int 0, .int 0]) : ACell), (.inr (.int, [.int 0, .int 2, .int 0, .int 0, .int 0]) : ACell)] (Is none [(.inr (.int, [.int 2, .int 0, .int 0]) : ACell), (.inr (.int, [.int 1, .int 0, .int 0]) : ACell), (.inl (0, [.ref 3, .ref 4, .ref 5, .ref 6, .ref 7]) : ACell), (.inr (.int, [.int 0, .int 1, .int 4, .int 0, .int 0, .int 0, .int 0, .int 0, .int 0, .int 0, .int 0, .int 0, .int 0, .int 0, .int 0, .int 0]) : ACell), (.inr (.int, [.int 0, .int 2, .int 4, .int 0, .int 0, .int 0, .int 0, .int 0, .int 0, .int 0, .int 0, .int 0, .int 0, .int 0, .int 0, .int 0]) : ACell), (.inr (.int, [.int 0, .int 1, .int 1, .int 0, .int 2]) : ACell), (.inr (.int, [.int 0, .int 0, .int 1, .int 0, .int 0]) : ACell), (.inr (.int, [.int 0, .int 2, .int 0, .int 0, .int 0]) : ACell)]) := by
  refine e2 ?_
  refine s2_0 ?_
  refine s2_1 ?_
  refine s2_2 rfl ?_
  refine s2_5k 16 rfl rfl ?_
  refine s2_6 (fun _ => ?_) (fun h => absurd h (by decide))
  refine s2_45 ?_
  refine s2_46 rfl ?_
  refine s2_49 ?_
  refine s2_50 ?_
  refine s2_51 4 rfl (by decide) rfl ?_
  refine s2_52 ?_
  refine s2_53 rfl ?_
  refine s2_56 ?_
  refine s2_57 ?_
  refine s2_58 rfl ?_
  refine s2_61 ?_
  refine s2_62 2 rfl (by decide) rfl ?_
  refine s2_63 4 rfl (by decide) rfl ?_
  refine s2_64 ?_
  refine s2_65 rfl ?_
  refine s2_68 ?_
  refine s2_69 ?_
  refine s2_70 4 rfl (by decide) rfl ?_
  refine s2_71 ?_
  refine s2_72 rfl ?_
  refine s2_75 ?_
  refine s2_76 2 rfl (by decide) rfl ?_
  refine s2_77 (fun h => absurd h (by decide)) (fun _ => ?_)
  refine s2_80 ?_
  refine s2_81 rfl ?_
  refine s2_84 ?_
  refine s2_85 ?_
  refine s2_86 2 rfl (by decide) rfl ?_
  refine s2_87 ?_
  refine s2_102 ?_
  refine s2_103 rfl ?_
  refine s2_106 ?_
  refine s2_107 ?_
  refine s2_108 2 rfl (by decide) rfl ?_
  exact s2_109 ⟨rfl, rfl⟩
theorem own_r23  : M3 ⟨0, 0, 0, 0⟩ [.ref 2, .int 1] [(.inr (.int, [.int 2, .int 0, .int 0]) : ACell), (.inr (.int, [.int 1, .int 0, .int 0]) : ACell), (.inl (0, [.ref 3, .ref 4, .ref 5, .ref 6, .ref 7]) : ACell), (.inr (.int, [.int 0, .int 1, .int 4, .int 0, .int 0, .int 0, .int 0, .int 0, .int 0, .int 0, .int 0, .int 0, .int 0, .int 0, .int 0, .int 0]) : ACell), (.inr (.int, [.int 0, .int 2, .int 4, .int 0, .int 0, .int 0, .int 0, .int 0, .int 0, .int 0, .int 0, .int 0, .int 0, .int 0, .int 0, .int 0]) : ACell), (.inr (.int, [.int 0, .int 1, .int 1, .int 0, .int 2]) : ACell), (.inr (.int, [.int 0, .int 0, .int 1, .int 0, .int 0]) : ACell), (.inr (.int, [.int 0, .int 2, .int 0, .int 0, .int 0]) : ACell)] (Is none [(.inr (.int, [.int 2, .int 0, .int 0]) : ACell), (.inr (.int, [.int 1, .int 0, .int 0]) : ACell), (.inl (0, [.ref 3, .ref 4, .ref 5, .ref 6, .ref 7]) : ACell), (.inr (.int, [.int 0, .int 2, .int 4, .int 0, .int 0, .int 0, .int 0, .int 0, .int 0, .int 0, .int 0, .int 0, .int 0, .int 0, .int 0, .int 0]) : ACell), (.inr (.int, [.int 0, .int 2, .int 4, .int 0, .int 0, .int 0, .int 0, .int 0, .int 0, .int 0, .int 0, .int 0, .int 0, .int 0, .int 0, .int 0]) : ACell), (.inr (.int, [.int 0, .int 0, .int 1, .int 0, .int 2]) : ACell), (.inr (.int, [.int 0, .int 0, .int 0, .int 0, .int 0]) : ACell), (.inr (.int, [.int 0, .int 2, .int 0, .int 0, .int 0]) : ACell)]) := by
  refine e3 ?_
  refine s3_0 ?_
  refine s3_1 rfl ?_
  refine s3_4 ?_
  refine s3_5 1 rfl (by decide) rfl ?_
  refine s3_6 rfl ?_
  refine s3_7 ?_
  refine s3_8 rfl ?_
  refine s3_11 ?_
  refine s3_12 1 rfl (by decide) rfl ?_
  refine s3_13 (fun h => absurd h (by decide)) (fun _ => ?_)
  refine s3_16 ?_
  refine s3_17 rfl ?_
  refine s3_20 ?_
  refine s3_21 ?_
  refine s3_22 rfl ?_
  refine s3_25 ?_
  refine s3_26 1 rfl (by decide) rfl ?_
  refine s3_27 1 rfl (by decide) rfl ?_
  refine s3_28 ?_
  refine s3_48 ?_
  refine s3_49 rfl ?_
  refine s3_52 ?_
  refine s3_53 1 rfl (by decide) rfl ?_
  refine s3_54 (fun _ => ?_) (fun h => absurd h (by decide))
  refine s3_72 ?_
  refine s3_73 rfl ?_
  refine s3_76 ?_
  refine s3_77 rfl ?_
  refine s3_80 ?_
  refine s3_81 1 rfl (by decide) rfl ?_
  refine s3_82 ?_
  refine s3_83 rfl ?_
  refine s3_86 ?_
  refine s3_87 1 rfl (by decide) rfl ?_
  refine s3_88 2 rfl (by decide) rfl ?_
  refine s3_89 ?_
  refine s3_90 rfl ?_
  refine s3_93 ?_
  refine s3_94 ?_
  refine s3_95 1 rfl (by decide) rfl ?_
  exact s3_96 ⟨rfl, rfl⟩
theorem own_r24  : M4 ⟨0, 0, 0, 0⟩ [.ref 2, .int 1] [(.inr (.int, [.int 2, .int 0, .int 0]) : ACell), (.inr (.int, [.int 1, .int 0, .int 0]) : ACell), (.inl (0, [.ref 3, .ref 4, .ref 5, .ref 6, .ref 7]) : ACell), (.inr (.int, [.int 0, .int 2, .int 4, .int 0, .int 0, .int 0, .int 0, .int 0, .int 0, .int 0, .int 0, .int 0, .int 0, .int 0, .int 0, .int 0]) : ACell), (.inr (.int, [.int 0, .int 2, .int 4, .int 0, .int 0, .int 0, .int 0, .int 0, .int 0, .int 0, .int 0, .int 0, .int 0, .int 0, .int 0, .int 0]) : ACell), (.inr (.int, [.int 0, .int 0, .int 1, .int 0, .int 2]) : ACell), (.inr (.int, [.int 0, .int 0, .int 0, .int 0, .int 0]) : ACell), (.inr (.int, [.int 0, .int 2, .int 0, .int 0, .int 0]) : ACell)] (Is (some (.int 0)) [(.inr (.int, [.int 2, .int 0, .int 0]) : ACell), (.inr (.int, [.int 1, .int 0, .int 0]) : ACell), (.inl (0, [.ref 3, .ref 4, .ref 5, .ref 6, .ref 7]) : ACell), (.inr (.int, [.int 0, .int 2, .int 4, .int 0, .int 0, .int 0, .int 0, .int 0, .int 0, .int 0, .int 0, .int 0, .int 0, .int 0, .int 0, .int 0]) : ACell), (.inr (.int, [.int 0, .int 2, .int 4, .int 0, .int 0, .int 0, .int 0, .int 0, .int 0, .int 0, .int 0, .int 0, .int 0, .int 0, .int 0, .int 0]) : ACell), (.inr (.int, [.int 0, .int 0, .int 1, .int 0, .int 2]) : ACell), (.inr (.int, [.int 0, .int 0, .int 0, .int 0, .int 0]) : ACell), (.inr (.int, [.int 0, .int 2, .int 0, .int 0, .int 0]) : ACell)]) := by
  refine e4 ?_
  refine s4_0 ?_
  refine s4_1 rfl ?_
  refine s4_4 ?_
  refine s4_5 1 rfl (by decide) rfl ?_
  exact s4_6 ⟨rfl, rfl⟩
theorem own_r25  : M3 ⟨0, 0, 0, 0⟩ [.ref 2, .int 2] [(.inr (.int, [.int 2, .int 0, .int 0]) : ACell), (.inr (.int, [.int 1, .int 0, .int 0]) : ACell), (.inl (0, [.ref 3, .ref 4, .ref 5, .ref 6, .ref 7]) : ACell), (.inr (.int, [.int 0, .int 2, .int 4, .int 0, .int 0, .int 0, .int 0, .int 0, .int 0, .int 0, .int 0, .int 0, .int 0, .int 0, .int 0, .int 0]) : ACell), (.inr (.int, [.int 0, .int 2, .int 4, .int 0, .int 0, .int 0, .int 0, .int 0, .int 0, .int 0, .int 0, .int 0, .int 0, .int 0, .int 0, .int 0]) : ACell), (.inr (.int, [.int 0, .int 0, .int 1, .int 0, .int 2]) : ACell), (.inr (.int, [.int 0, .int 0, .int 0, .int 0, .int 0]) : ACell), (.inr (.int, [.int 0, .int 2, .int 0, .int 0, .int 0]) : ACell)] (Is none [(.inr (.int, [.int 2, .int 0, .int 0]) : ACell), (.inr (.int, [.int 1, .int 0, .int 0]) : ACell), (.inl (0, [.ref 3, .ref 4, .ref 5, .ref 6, .ref 7]) : ACell), (.inr (.int, [.int 0, .int 0, .int 4, .int 0, .int 0, .int 0, .int 0, .int 0, .int 0, .int 0, .int 0, .int 0, .int 0, .int 0, .int 0, .int 0]) : ACell), (.inr (.int, [.int 0, .int 0, .int 4, .int 0, .int 0, .int 0, .int 0, .int 0, .int 0, .int 0, .int 0, .int 0, .int 0, .int 0, .int 0, .int 0]) : ACell), (.inr (.int, [.int 0, .int 0, .int 0, .int 0, .int 2]) : ACell), (.inr (.int, [.int 0, .int 0, .int 0, .int 0, .int 0]) : ACell), (.inr (.int, [.int 0, .int 2, .int 0, .int 0, .int 0]) : ACell)]) := by
  refine e3 ?_
  refine s3_0 ?_
  refine s3_1 rfl ?_
  refine s3_4 ?_
  refine s3_5 2 rfl (by decide) rfl ?_
  refine s3_6 rfl ?_
  refine s3_7 ?_
  refine s3_8 rfl ?_
  refine s3_11 ?_
  refine s3_12 2 rfl (by decide) rfl ?_
  refine s3_13 (fun h => absurd h (by decide)) (fun _ => ?_)
  refine s3_16 ?_
  refine s3_17 rfl ?_
  refine s3_20 ?_
  refine s3_21 ?_
  refine s3_22 rfl ?_
  refine s3_25 ?_
  refine s3_26 2 rfl (by decide) rfl ?_
  refine s3_27 1 rfl (by decide) rfl ?_
  refine s3_28 ?_
  refine s3_48 ?_
  refine s3_49 rfl ?_
  refine s3_52 ?_
  refine s3_53 2 rfl (by decide) rfl ?_
  refine s3_54 (fun h => absurd h (by decide)) (fun _ => ?_)
  refine s3_57 ?_
  refine s3_58 rfl ?_
  refine s3_61 ?_
  refine s3_62 ?_
  refine s3_63 rfl ?_
  refine s3_66 ?_
  refine s3_67 2 rfl (by decide) rfl ?_
  refine s3_68 1 rfl (by decide) rfl ?_
  refine s3_69 ?_
  refine s3_89 ?_
  refine s3_90 rfl ?_
  refine s3_93 ?_
  refine s3_94 ?_
  refine s3_95 2 rfl (by decide) rfl ?_
  exact s3_96 ⟨rfl, rfl⟩
theorem own_r26  : M2 ⟨0, 0, 0, 0⟩ [.ref 2, .int 1, .int 1] [(.inr (.int, [.int 2, .int 0, .int 0]) : ACell), (.inr (.int, [.int 1, .int 0, .int 0]) : ACell), (.inl (0, [.ref 3, .ref 4, .ref 5, .ref 6, .ref 7]) : ACell), (.inr (.int, [.int 0, .int 0, .int 4, .int 0, .int 0, .int 0, .int 0, .int 0, .int 0, .int 0, .int 0, .int 0, .int 0, .int 0, .int 0, .int 0]) : ACell), (.inr (.int, [.int 0, .int 0, .int 4, .int 0, .int 0, .int 0, .int 0, .int 0, .int 0, .int 0, .int 0, .int 0, .int 0, .int 0, .int 0, .int 0]) : ACell), (.inr (.int, [.int 0, .int 0, .int 0, .int 0, .int 2]) : ACell), (.inr (.int, [.int 0, .int 0, .int 0, .int 0, .int 0]) : ACell), (.inr (.int, [.int 0, .int 2, .int 0, .int 0, .int 0]) : ACell)] (Is none [(.inr (.int, [.int 2, .int 0, .int 0]) : ACell), (.inr (.int, [.int 1, .int 0, .int 0]) : ACell), (.inl (0, [.ref 3, .ref 4, .ref 5, .ref 6, .ref 7]) : ACell), (.inr (.int, [.int 0, .int 1, .int 4, .int 0, .int 0, .int 0, .int 0, .int 0, .int 0, .int 0, .int 0, .int 0, .int 0, .int 0, .int 0, .int 0]) : ACell), (.inr (.int, [.int 0, .int 1, .int 4, .int 0, .int 0, .int 0, .int 0, .int 0, .int 0, .int 0, .int 0, .int 0, .int 0, .int 0, .int 0, .int 0]) : ACell), (.inr (.int, [.int 0, .int 1, .int 0, .int 0, .int 2]) : ACell), (.inr (.int, [.int 0, .int 0, .int 0, .int 0, .int 0]) : ACell), (.inr (.int, [.int 0, .int 0, .int 0, .int 0, .int 0]) : ACell)]) := by
  refine e2 ?_
  refine s2_0 ?_
  refine s2_1 ?_
  refine s2_2 rfl ?_
  refine s2_5k 16 rfl rfl ?_
  refine s2_6 (fun _ => ?_) (fun h => absurd h (by decide))
  refine s2_45 ?_
  refine s2_46 rfl ?_
  refine s2_49 ?_
  refine s2_50 ?_
  refine s2_51 1 rfl (by decide) rfl ?_
  refine s2_52 ?_
  refine s2_53 rfl ?_
  refine s2_56 ?_
  refine s2_57 ?_
  refine s2_58 rfl ?_
  refine s2_61 ?_
  refine s2_62 1 rfl (by decide) rfl ?_
  refine s2_63 1 rfl (by decide) rfl ?_
  refine s2_64 ?_
  refine s2_65 rfl ?_
  refine s2_68 ?_
  refine s2_69 ?_
  refine s2_70 1 rfl (by decide) rfl ?_
  refine s2_71 ?_
  refine s2_72 rfl ?_
  refine s2_75 ?_
  refine s2_76 1 rfl (by decide) rfl ?_
  refine s2_77 (fun h => absurd h (by decide)) (fun _ => ?_)
  refine s2_80 ?_
  refine s2_81 rfl ?_
  refine s2_84 ?_
  refine s2_85 ?_
  refine s2_86 1 rfl (by decide) rfl ?_
  refine s2_87 ?_
  refine s2_102 ?_
  refine s2_103 rfl ?_
  refine s2_106 ?_
  refine s2_107 ?_
  refine s2_108 1 rfl (by decide) rfl ?_
  exact s2_109 ⟨rfl, rfl⟩
theorem own_r27  : M5 ⟨0, 1, 1, 0⟩ [.ref 2, .int 1] [(.inr (.int, [.int 2, .int 0, .int 0]) : ACell), (.inr (.int, [.int 1, .int 0, .int 0]) : ACell), (.inl (0, [.ref 3, .ref 4, .ref 5, .ref 6, .ref 7]) : ACell), (.inr (.int, [.int 0, .int 1, .int 4, .int 0, .int 0, .int 0, .int 0, .int 0, .int 0, .int 0, .int 0, .int 0, .int 0, .int 0, .int 0, .int 0]) : ACell), (.inr (.int, [.int 0, .int 1, .int 4, .int 0, .int 0, .int 0, .int 0, .int 0, .int 0, .int 0, .int 0, .int 0, .int 0, .int 0, .int 0, .int 0]) : ACell), (.inr (.int, [.int 0, .int 1, .int 0, .int 0, .int 2]) : ACell), (.inr (.int, [.int 0, .int 0, .int 0, .int 0, .int 0]) : ACell), (.inr (.int, [.int 0, .int 0, .int 0, .int 0, .int 0]) : ACell)] (Is (some (.ref 8)) [(.inr (.int, [.int 2, .int 0, .int 0]) : ACell), (.inr (.int, [.int 1, .int 0, .int 0]) : ACell), (.inl (0, [.ref 3, .ref 4, .ref 5, .ref 6, .ref 7]) : ACell), (.inr (.int, [.int 0, .int 1, .int 4, .int 0, .int 0, .int 0, .int 0, .int 0, .int 0, .int 0, .int 0, .int 0, .int 0, .int 0, .int 0, .int 0]) : ACell), (.inr (.int, [.int 0, .int 1, .int 4, .int 0, .int 0, .int 0, .int 0, .int 0, .int 0, .int 0, .int 0, .int 0, .int 0, .int 0, .int 0, .int 0]) : ACell), (.inr (.int, [.int 0, .int 1, .int 0, .int 0, .int 2]) : ACell), (.inr (.int, [.int 0, .int 0, .int 0, .int 0, .int 0]) : ACell), (.inr (.int, [.int 0, .int 0, .int 0, .int 0, .int 0]) : ACell), (.inr (.int, [.int 1]) : ACell)]) := by
  refine e5 ?_
  refine s5_0 ?_
  refine s5_1 rfl ?_
  refine s5_2 ?_
  refine s5_3 rfl ?_
  refine s5_6 ?_
  refine s5_7 1 rfl (by decide) rfl ?_
  refine s5_8 rfl ?_
  refine s5_9 ?_
  refine s5_10 (fun h => absurd h (by decide)) (fun _ => ?_)
  refine s5_13 ?_
  refine s5_16 ?_
  refine s5_17 rfl ?_
  refine s5_20 ?_
  refine s5_21 1 rfl (by decide) rfl ?_
  refine s5_22 rfl ?_
  refine s5_23 ?_
  refine s5_9 ?_
  refine s5_10 (fun _ => ?_) (fun h => absurd h (by decide))
  refine s5_26 ?_
  refine s5_27 8 1 (by decide) rfl rfl ?_
  refine s5_29 rfl ?_
  refine s5_30 ?_
  refine s5_31 rfl ?_
  refine s5_33 ?_
  refine s5_34 rfl ?_
  refine s5_37 ?_
  refine s5_38 1 rfl (by decide) rfl ?_
  refine s5_39 rfl ?_
  refine s5_41 ?_
  refine s5_43 (fun h => absurd h (by decide)) (fun _ => ?_)
  refine s5_46 ?_
  refine s5_47 ?_
  refine s5_49 ?_
  refine s5_51 0 rfl (by decide) rfl ?_
  refine s5_52 ?_
  refine s5_55 ?_
  refine s5_56 rfl ?_
  refine s5_59 ?_
  refine s5_61 1 rfl (by decide) rfl ?_
  refine s5_62 rfl ?_
  refine s5_64 ?_
  refine s5_41 ?_
  refine s5_43 (fun _ => ?_) (fun h => absurd h (by decide))
  refine s5_67 ?_
  exact s5_68 ⟨rfl, rfl⟩
theorem own_r28  : M5 ⟨0, 1, 1, 0⟩ [.ref 2, .int 2] [(.inr (.int, [.int 2, .int 0, .int 0]) : ACell), (.inr (.int, [.int 1, .int 0, .int 0]) : ACell), (.inl (0, [.ref 3, .ref 4, .ref 5, .ref 6, .ref 7]) : ACell), (.inr (.int, [.int 0, .int 1, .int 4, .int 0, .int 0, .int 0, .int 0, .int 0, .int 0, .int 0, .int 0, .int 0, .int 0, .int 0, .int 0, .int 0]) : ACell), (.inr (.int, [.int 0, .int 1, .int 4, .int 0, .int 0, .int 0, .int 0, .int 0, .int 0, .int 0, .int 0, .int 0, .int 0, .int 0, .int 0, .int 0]) : ACell), (.inr (.int, [.int 0, .int 1, .int 0, .int 0, .int 2]) : ACell), (.inr (.int, [.int 0, .int 0, .int 0, .int 0, .int 0]) : ACell), (.inr (.int, [.int 0, .int 0, .int 0, .int 0, .int 0]) : ACell), (.inr (.int, [.int 1]) : ACell)] (Is (some (.ref 9)) [(.inr (.int, [.int 2, .int 0, .int 0]) : ACell), (.inr (.int, [.int 1, .int 0, .int 0]) : ACell), (.inl (0, [.ref 3, .ref 4, .ref 5, .ref 6, .ref 7]) : ACell), (.inr (.int, [.int 0, .int 1, .int 4, .int 0, .int 0, .int 0, .int 0, .int 0, .int 0, .int 0, .int 0, .int 0, .int 0, .int 0, .int 0, .int 0]) : ACell), (.inr (.int, [.int 0, .int 1, .int 4, .int 0, .int 0, .int 0, .int 0, .int 0, .int 0, .int 0, .int 0, .int 0, .int 0, .int 0, .int 0, .int 0]) : ACell), (.inr (.int, [.int 0, .int 1, .int 0, .int 0, .int 2]) : ACell), (.inr (.int, [.int 0, .int 0, .int 0, .int 0, .int 0]) : ACell), (.inr (.int, [.int 0, .int 0, .int 0, .int 0, .int 0]) : ACell), (.inr (.int, [.int 1]) : ACell), (.inr (.int, [.int 4]) : ACell)]) := by
  refine e5 ?_
  refine s5_0 ?_
  refine s5_1 rfl ?_
  refine s5_2 ?_
  refine s5_3 rfl ?_
  refine s5_6 ?_
  refine s5_7 2 rfl (by decide) rfl ?_
  refine s5_8 rfl ?_
  refine s5_9 ?_
  refine s5_10 (fun h => absurd h (by decide)) (fun _ => ?_)
  refine s5_13 ?_
  refine s5_16 ?_
  refine s5_17 rfl ?_
  refine s5_20 ?_
  refine s5_21 4 rfl (by decide) rfl ?_
  refine s5_22 rfl ?_
  refine s5_23 ?_
  refine s5_9 ?_
  refine s5_10 (fun _ => ?_) (fun h => absurd h (by decide))
  refine s5_26 ?_
  refine s5_27 9 1 (by decide) rfl rfl ?_
  refine s5_29 rfl ?_
  refine s5_30 ?_
  refine s5_31 rfl ?_
  refine s5_33 ?_
  refine s5_34 rfl ?_
  refine s5_37 ?_
  refine s5_38 2 rfl (by decide) rfl ?_
  refine s5_39 rfl ?_
  refine s5_41 ?_
  refine s5_43 (fun h => absurd h (by decide)) (fun _ => ?_)
  refine s5_46 ?_
  refine s5_47 ?_
  refine s5_49 ?_
  refine s5_51 0 rfl (by decide) rfl ?_
  refine s5_52 ?_
  refine s5_55 ?_
  refine s5_56 rfl ?_
  refine s5_59 ?_
  refine s5_61 4 rfl (by decide) rfl ?_
  refine s5_62 rfl ?_
  refine s5_64 ?_
  refine s5_41 ?_
  refine s5_43 (fun _ => ?_) (fun h => absurd h (by decide))
  refine s5_67 ?_
  exact s5_68 ⟨rfl, rfl⟩
theorem own_r29  : M6 ⟨0, 0, 0, 0⟩ [.ref 8, .ref 1, .int 1] [(.inr (.int, [.int 2, .int 0, .int 0]) : ACell), (.inr (.int, [.int 1, .int 0, .int 0]) : ACell), (.inl (0, [.ref 3, .ref 4, .ref 5, .ref 6, .ref 7]) : ACell), (.inr (.int, [.int 0, .int 1, .int 4, .int 0, .int 0, .int 0, .int 0, .int 0, .int 0, .int 0, .int 0, .int 0, .int 0, .int 0, .int 0, .int 0]) : ACell), (.inr (.int, [.int 0, .int 1, .int 4, .int 0, .int 0, .int 0, .int 0, .int 0, .int 0, .int 0, .int 0, .int 0, .int 0, .int 0, .int 0, .int 0]) : ACell), (.inr (.int, [.int 0, .int 1, .int 0, .int 0, .int 2]) : ACell), (.inr (.int, [.int 0, .int 0, .int 0, .int 0, .int 0]) : ACell), (.inr (.int, [.int 0, .int 0, .int 0, .int 0, .int 0]) : ACell), (.inr (.int, [.int 1]) : ACell), (.inr (.int, [.int 4]) : ACell)] (Is (some (.int 1)) [(.inr (.int, [.int 2, .int 0, .int 0]) : ACell), (.inr (.int, [.int 1, .int 0, .int 0]) : ACell), (.inl (0, [.ref 3, .ref 4, .ref 5, .ref 6, .ref 7]) : ACell), (.inr (.int, [.int 0, .int 1, .int 4, .int 0, .int 0, .int 0, .int 0, .int 0, .int 0, .int 0, .int 0, .int 0, .int 0, .int 0, .int 0, .int 0]) : ACell), (.inr (.int, [.int 0, .int 1, .int 4, .int 0, .int 0, .int 0, .int 0, .int 0, .int 0, .int 0, .int 0, .int 0, .int 0, .int 0, .int 0, .int 0]) : ACell), (.inr (.int, [.int 0, .int 1, .int 0, .int 0, .int 2]) : ACell), (.inr (.int, [.int 0, .int 0, .int 0, .int 0, .int 0]) : ACell), (.inr (.int, [.int 0, .int 0, .int 0, .int 0, .int 0]) : ACell), (.inr (.int, [.int 1]) : ACell), (.inr (.int, [.int 4]) : ACell)]) := by
  refine e6 ?_
  refine s6_0 ?_
  refine s6_1k 1 rfl rfl ?_
  refine s6_2 ?_
  refine s6_3 (fun h => absurd h (by decide)) (fun _ => ?_)
  refine s6_6 ?_
  refine s6_7 ?_
  refine s6_8 (fun h => absurd h (by decide)) (fun _ => ?_)
  refine s6_11 ?_
  refine s6_12 ?_
  refine s6_13 0 rfl (by decide) rfl ?_
  refine s6_14 ?_
  refine s6_15 ?_
  refine s6_16 0 rfl (by decide) rfl ?_
  refine s6_17 (fun h => absurd h (by decide)) (fun _ => ?_)
  refine s6_20 ?_
  refine s6_21 ?_
  refine s6_22 (fun _ => ?_) (fun h => absurd h (by decide))
  refine s6_34 ?_
  refine s6_35 ?_
  refine s6_36 (fun _ => ?_) (fun h => absurd h (by decide))
  refine s6_48 ?_
  refine s6_49 ?_
  exact s6_53 ⟨rfl, rfl⟩
theorem own_r30  : M1 ⟨1, 5, 47, 12⟩ [.ref 2, .int 4] [(.inr (.int, [.int 1, .int 0, .int 0]) : ACell), (.inr (.int, [.int 1, .int 2, .int 0]) : ACell), (.inl (0, [.null, .null, .null, .null, .null]) : ACell)] (Is none [(.inr (.int, [.int 1, .int 0, .int 0]) : ACell), (.inr (.int, [.int 1, .int 2, .int 0]) : ACell), (.inl (0, [.ref 3, .ref 4, .ref 5, .ref 6, .ref 7]) : ACell), (.inr (.int, [.int 0, .int 0, .int 0, .int 0, .int 0, .int 0, .int 0, .int 0, .int 0, .int 0, .int 0, .int 0, .int 0, .int 0, .int 0, .int 0]) : ACell), (.inr (.int, [.int 0, .int 0, .int 0, .int 0, .int 0, .int 0, .int 0, .int 0, .int 0, .int 0, .int 0, .int 0, .int 0, .int 0, .int 0, .int 0]) : ACell), (.inr (.int, [.int 0, .int 0, .int 0, .int 0, .int 0]) : ACell), (.inr (.int, [.int 0, .int 0, .int 0, .int 0, .int 0]) : ACell), (.inr (.int, [.int 0, .int 0, .int 0, .int 0, .int 0]) : ACell)]) := by
  refine e1 ?_
  refine s1_0 ?_
  refine s1_1 rfl ?_
  refine s1_4 ?_
  refine s1_5 ?_
  refine s1_7 3 16 (by decide) rfl rfl ?_
  refine s1_9 rfl ?_
  refine s1_12 ?_
  refine s1_13 ?_
  refine s1_15 4 16 (by decide) rfl rfl ?_
  refine s1_17 rfl ?_
  refine s1_20 ?_
  refine s1_21 ?_
  refine s1_22 ?_
  refine s1_23 ?_
  refine s1_24 5 5 (by decide) rfl rfl ?_
  refine s1_26 rfl ?_
  refine s1_29 ?_
  refine s1_30 ?_
  refine s1_31 ?_
  refine s1_32 ?_
  refine s1_33 6 5 (by decide) rfl rfl ?_
  refine s1_35 rfl ?_
  refine s1_38 ?_
  refine s1_39 ?_
  refine s1_40 ?_
  refine s1_41 ?_
  refine s1_42 7 5 (by decide) rfl rfl ?_
  refine s1_44 rfl ?_
  exact s1_47 ⟨rfl, rfl⟩
theorem own_r31  : M2 ⟨0, 0, 0, 0⟩ [.ref 2, .int 1, .int 1] [(.inr (.int, [.int 1, .int 0, .int 0]) : ACell), (.inr (.int, [.int 1, .int 2, .int 0]) : ACell), (.inl (0, [.ref 3, .ref 4, .ref 5, .ref 6, .ref 7]) : ACell), (.inr (.int, [.int 0, .int 0, .int 0, .int 0, .int 0, .int 0, .int 0, .int 0, .int 0, .int 0, .int 0, .int 0, .int 0, .int 0, .int 0, .int 0]) : ACell), (.inr (.int, [.int 0, .int 0, .int 0, .int 0, .int 0, .int 0, .int 0, .int 0, .int 0, .int 0, .int 0, .int 0, .int 0, .int 0, .int 0, .int 0]) : ACell), (.inr (.int, [.int 0, .int 0, .int 0, .int 0, .int 0]) : ACell), (.inr (.int, [.int 0, .int 0, .int 0, .int 0, .int 0]) : ACell), (.inr (.int, [.int 0, .int 0, .int 0, .int 0, .int 0]) : ACell)] (Is none [(.inr (.int, [.int 1, .int 0, .int 0]) : ACell), (.inr (.int, [.int 1, .int 2, .int 0]) : ACell), (.inl (0, [.ref 3, .ref 4, .ref 5, .ref 6, .ref 7]) : ACell), (.inr (.int, [.int 0, .int 1, .int 0, .int 0, .int 0, .int 0, .int 0, .int 0, .int 0, .int 0, .int 0, .int 0, .int 0, .int 0, .int 0, .int 0]) : ACell), (.inr (.int, [.int 0, .int 1, .int 0, .int 0, .int 0, .int 0, .int 0, .int 0, .int 0, .int 0, .int 0, .int 0, .int 0, .int 0, .int 0, .int 0]) : ACell), (.inr (.int, [.int 0, .int 1, .int 0, .int 0, .int 0]) : ACell), (.inr (.int, [.int 0, .int 0, .int 0, .int 0, .int 0]) : ACell), (.inr (.int, [.int 0, .int 0, .int 0, .int 0, .int 0]) : ACell)]) := by
  refine e2 ?_
  refine s2_0 ?_
  refine s2_1 ?_
  refine s2_2 rfl ?_
  refine s2_5k 16 rfl rfl ?_
  refine s2_6 (fun _ => ?_) (fun h => absurd h (by decide))
  refine s2_45 ?_
  refine s2_46 rfl ?_
  refine s2_49 ?_
  refine s2_50 ?_
  refine s2_51 1 rfl (by decide) rfl ?_
  refine s2_52 ?_
  refine s2_53 rfl ?_
  refine s2_56 ?_
  refine s2_57 ?_
  refine s2_58 rfl ?_
  refine s2_61 ?_
  refine s2_62 1 rfl (by decide) rfl ?_
  refine s2_63 1 rfl (by decide) rfl ?_
  refine s2_64 ?_
  refine s2_65 rfl ?_
  refine s2_68 ?_
  refine s2_69 ?_
  refine s2_70 1 rfl (by decide) rfl ?_
  refine s2_71 ?_
  refine s2_72 rfl ?_
  refine s2_75 ?_
  refine s2_76 1 rfl (by decide) rfl ?_
  refine s2_77 (fun h => absurd h (by decide)) (fun _ => ?_)
  refine s2_80 ?_
  refine s2_81 rfl ?_
  refine s2_84 ?_
  refine s2_85 ?_
  refine s2_86 1 rfl (by decide) rfl ?_
  refine s2_87 ?_
  refine s2_102 ?_
  refine s2_103 rfl ?_
  refine s2_106 ?_
  refine s2_107 ?_
  refine s2_108 1 rfl (by decide) rfl ?_
  exact s2_109 ⟨rfl, rfl⟩
theorem own_r32  : M2 ⟨0, 0, 0, 0⟩ [.ref 2, .int 2, .int 1] [(.inr (.int, [.int 1, .int 0, .int 0]) : ACell), (.inr (.int, [.int 1, .int 2, .int 0]) : ACell), (.inl (0, [.ref 3, .ref 4, .ref 5, .ref 6, .ref 7]) : ACell), (.inr (.int, [.int 0, .int 1, .int 0, .int 0, .int 0, .int 0, .int 0, .int 0, .int 0, .int 0, .int 0, .int 0, .int 0, .int 0, .int 0, .int 0]) : ACell), (.inr (.int, [.int 0, .int 1, .int 0, .int 0, .int 0, .int 0, .int 0, .int 0, .int 0, .int 0, .int 0, .int 0, .int 0, .int 0, .int 0, .int 0]) : ACell), (.inr (.int, [.int 0, .int 1, .int 0, .int 0, .int 0]) : ACell), (.inr (.int, [.int 0, .int 0, .int 0, .int 0, .int 0]) : ACell), (.inr (.int, [.int 0, .int 0, .int 0, .int 0, .int 0]) : ACell)] (Is none [(.inr (.int, [.int 1, .int 0, .int 0]) : ACell), (.inr (.int, [.int 1, .int 2, .int 0]) : ACell), (.inl (0, [.ref 3, .ref 4, .ref 5, .ref 6, .ref 7]) : ACell), (.inr (.int, [.int 0, .int 1, .int 0, .int 0, .int 0, .int 0, .int 0, .int 0, .int 0, .int 0, .int 0, .int 0, .int 0, .int 0, .int 0, .int 0]) : ACell), (.inr (.int, [.int 0, .int 2, .int 0, .int 0, .int 0, .int 0, .int 0, .int 0, .int 0, .int 0, .int 0, .int 0, .int 0, .int 0, .int 0, .int 0]) : ACell), (.inr (.int, [.int 0, .int 1, .int 1, .int 0, .int 0]) : ACell), (.inr (.int, [.int 0, .int 0, .int 1, .int 0, .int 0]) : ACell), (.inr (.int, [.int 0, .int 2, .int 0, .int 0, .int 0]) : ACell)]) := by
  refine e2 ?_
  refine s2_0 ?_
  refine s2_1 ?_
  refine s2_2 rfl ?_
  refine s2_5k 16 rfl rfl ?_
  refine s2_6 (fun _ => ?_) (fun h => absurd h (by decide))
  refine s2_45 ?_
  refine s2_46 rfl ?_
  refine s2_49 ?_
  refine s2_50 ?_
  refine s2_51 2 rfl (by decide) rfl ?_
  refine s2_52 ?_
  refine s2_53 rfl ?_
  refine s2_56 ?_
  refine s2_57 ?_
  refine s2_58 rfl ?_
  refine s2_61 ?_
  refine s2_62 1 rfl (by decide) rfl ?_
  refine s2_63 2 rfl (by decide) rfl ?_
  refine s2_64 ?_
  refine s2_65 rfl ?_
  refine s2_68 ?_
  refine s2_69 ?_
  refine s2_70 2 rfl (by decide) rfl ?_
  refine s2_71 ?_
  refine s2_72 rfl ?_
  refine s2_75 ?_
  refine s2_76 1 rfl (by decide) rfl ?_
  refine s2_77 (fun _ => ?_) (fun h => absurd h (by decide))
  refine s2_90 ?_
  refine s2_91 rfl ?_
  refine s2_94 ?_
  refine s2_95 rfl ?_
  refine s2_98 ?_
  refine s2_99 1 rfl (by decide) rfl ?_
  refine s2_100 ?_
  refine s2_101 1 rfl (by decide) rfl ?_
  refine s2_102 ?_
  refine s2_103 rfl ?_
  refine s2_106 ?_
  refine s2_107 ?_
  refine s2_108 1 rfl (by decide) rfl ?_
  exact s2_109 ⟨rfl, rfl⟩
theorem own_r33  : M2 ⟨0, 0, 0, 0⟩ [.ref 2, .int 4, .int 2] [(.inr (.int, [.int 1, .int 0, .int 0]) : ACell), (.inr (.int, [.int 1, .int 2, .int 0]) : ACell), (.inl (0, [.ref 3, .ref 4, .ref 5, .ref 6, .ref 7]) : ACell), (.inr (.int, [.int 0, .int 1, .int 0, .int 0, .int 0, .int 0, .int 0, .int 0, .int 0, .int 0, .int 0, .int 0, .int 0, .int 0, .int 0, .int 0]) : ACell), (.inr (.int, [.int 0, .int 2, .int 0, .int 0, .int 0, .int 0, .int 0, .int 0, .int 0, .int 0, .int 0, .int 0, .int 0, .int 0, .int 0, .int 0]) : ACell), (.inr (.int, [.int 0, .int 1, .int 1, .int 0, .int 0]) : ACell), (.inr (.int, [.int 0, .int 0, .int 1, .int 0, .int 0]) : ACell), (.inr (.int, [.int 0, .int 2, .int 0, .int 0, .int 0]) : ACell)] (Is none [(.inr (.int, [.int 1, .int 0, .int 0]) : ACell), (.inr (.int, [.int 1, .int 2, .int 0]) : ACell), (.inl (0, [.ref 3, .ref 4, .ref 5, .ref 6, .ref 7]) : ACell), (.inr (.int, [.int 0, .int 1, .int 4, .int 0, .int 0, .int 0, .int 0, .int 0, .int 0, .int 0, .int 0, .int 0, .int 0, .int 0, .int 0, .int 0]) : ACell), (.inr (.int, [.int 0, .int 2, .int 4, .int 0, .int 0, .int 0, .int 0, .int 0, .int 0, .int 0, .int 0, .int 0, .int 0, .int 0, .int 0, .int 0]) : ACell), (.inr (.int, [.int 0, .int 1, .int 1, .int 0, .int 2]) : ACell), (.inr (.int, [.int 0, .int 0, .int 1, .int 0, .int 0]) : ACell), (.inr (.int, [.int 0, .int 2, .int 0, .int 0, .int 0]) : ACell)]) := by
  refine e2 ?_
  refine s2_0 ?_
  refine s2_1 ?_
  refine s2_2 rfl ?_
  refine s2_5k 16 rfl rfl ?_
  refine s2_6 (fun _ => ?_) (fun h => absurd h (by decide))
  refine s2_45 ?_
  refine s2_46 rfl ?_
  refine s2_49 ?_
  refine s2_50 ?_
  refine s2_51 4 rfl (by decide) rfl ?_
  refine s2_52 ?_
  refine s2_53 rfl ?_
  refine s2_56 ?_
  refine s2_57 ?_
  refine s2_58 rfl ?_
  refine s2_61 ?_
  refine s2_62 2 rfl (by decide) rfl ?_
  refine s2_63 4 rfl (by decide) rfl ?_
  refine s2_64 ?_
  refine s2_65 rfl ?_
  refine s2_68 ?_
  refine s2_69 ?_
  refine s2_70 4 rfl (by decide) rfl ?_
  refine s2_71 ?_
  refine s2_72 rfl ?_
  refine s2_75 ?_
  refine s2_76 2 rfl (by decide) rfl ?_
  refine s2_77 (fun h => absurd h (by decide)) (fun _ => ?_)
  refine s2_80 ?_
  refine s2_81 rfl ?_
  refine s2_84 ?_
  refine s2_85 ?_
  refine s2_86 2 rfl (by decide) rfl ?_
  refine s2_87 ?_
  refine s2_102 ?_
  refine s2_103 rfl ?_
  refine s2_106 ?_
  refine s2_107 ?_
  refine s2_108 2 rfl (by decide) rfl ?_
  exact s2_109 ⟨rfl, rfl⟩
theorem own_r34  : M3 ⟨0, 0, 0, 0⟩ [.ref 2, .int 2] [(.inr (.int, [.int 1, .int 0, .int 0]) : ACell), (.inr (.int, [.int 1, .int 2, .int 0]) : ACell), (.inl (0, [.ref 3, .ref 4, .ref 5, .ref 6, .ref 7]) : ACell), (.inr (.int, [.int 0, .int 1, .int 4, .int 0, .int 0, .int 0, .int 0, .int 0, .int 0, .int 0, .int 0, .int 0, .int 0, .int 0, .int 0, .int 0]) : ACell), (.inr (.int, [.int 0, .int 2, .int 4, .int 0, .int 0, .int 0, .int 0, .int 0, .int 0, .int 0, .int 0, .int 0, .int 0, .int 0, .int 0, .int 0]) : ACell), (.inr (.int, [.int 0, .int 1, .int 1, .int 0, .int 2]) : ACell), (.inr (.int, [.int 0, .int 0, .int 1, .int 0, .int 0]) : ACell), (.inr (.int, [.int 0, .int 2, .int 0, .int 0, .int 0]) : ACell)] (Is none [(.inr (.int, [.int 1, .int 0, .int 0]) : ACell), (.inr (.int, [.int 1, .int 2, .int 0]) : ACell), (.inl (0, [.ref 3, .ref 4, .ref 5, .ref 6, .ref 7]) : ACell), (.inr (.int, [.int 0, .int 1, .int 4, .int 0, .int 0, .int 0, .int 0, .int 0, .int 0, .int 0, .int 0, .int 0, .int 0, .int 0, .int 0, .int 0]) : ACell), (.inr (.int, [.int 0, .int 1, .int 4, .int 0, .int 0, .int 0, .int 0, .int 0, .int 0, .int 0, .int 0, .int 0, .int 0, .int 0, .int 0, .int 0]) : ACell), (.inr (.int, [.int 0, .int 1, .int 0, .int 0, .int 2]) : ACell), (.inr (.int, [.int 0, .int 0, .int 1, .int 0, .int 0]) : ACell), (.inr (.int, [.int 0, .int 0, .int 0, .int 0, .int 0]) : ACell)]) := by
  refine e3 ?_
  refine s3_0 ?_
  refine s3_1 rfl ?_
  refine s3_4 ?_
  refine s3_5 2 rfl (by decide) rfl ?_
  refine s3_6 rfl ?_
  refine s3_7 ?_
  refine s3_8 rfl ?_
  refine s3_11 ?_
  refine s3_12 2 rfl (by decide) rfl ?_
  refine s3_13 (fun _ => ?_) (fun h => absurd h (by decide))
  refine s3_31 ?_
  refine s3_32 rfl ?_
  refine s3_35 ?_
  refine s3_36 rfl ?_
  refine s3_39 ?_
  refine s3_40 2 rfl (by decide) rfl ?_
  refine s3_41 ?_
  refine s3_42 rfl ?_
  refine s3_45 ?_
  refine s3_46 2 rfl (by decide) rfl ?_
  refine s3_47 1 rfl (by decide) rfl ?_
  refine s3_48 ?_
  refine s3_49 rfl ?_
  refine s3_52 ?_
  refine s3_53 2 rfl (by decide) rfl ?_
  refine s3_54 (fun h => absurd h (by decide)) (fun _ => ?_)
  refine s3_57 ?_
  refine s3_58 rfl ?_
  refine s3_61 ?_
  refine s3_62 ?_
  refine s3_63 rfl ?_
  refine s3_66 ?_
  refine s3_67 2 rfl (by decide) rfl ?_
  refine s3_68 1 rfl (by decide) rfl ?_
  refine s3_69 ?_
  refine s3_89 ?_
  refine s3_90 rfl ?_
  refine s3_93 ?_
  refine s3_94 ?_
  refine s3_95 2 rfl (by decide) rfl ?_
  exact s3_96 ⟨rfl, rfl⟩
theorem own_r35  : M4 ⟨0, 0, 0, 0⟩ [.ref 2, .int 2] [(.inr (.int, [.int 1, .int 0, .int 0]) : ACell), (.inr (.int, [.int 1, .int 2, .int 0]) : ACell), (.inl (0, [.ref 3, .ref 4, .ref 5, .ref 6, .ref 7]) : ACell), (.inr (.int, [.int 0, .int 1, .int 4, .int 0, .int 0, .int 0, .int 0, .int 0, .int 0, .int 0, .int 0, .int 0, .int 0, .int 0, .int 0, .int 0]) : ACell), (.inr (.int, [.int 0, .int 1, .int 4, .int 0, .int 0, .int 0, .int 0, .int 0, .int 0, .int 0, .int 0, .int 0, .int 0, .int 0, .int 0, .int 0]) : ACell), (.inr (.int, [.int 0, .int 1, .int 0, .int 0, .int 2]) : ACell), (.inr (.int, [.int 0, .int 0, .int 1, .int 0, .int 0]) : ACell), (.inr (.int, [.int 0, .int 0, .int 0, .int 0, .int 0]) : ACell)] (Is (some (.int 0)) [(.inr (.int, [.int 1, .int 0, .int 0]) : ACell), (.inr (.int, [.int 1, .int 2, .int 0]) : ACell), (.inl (0, [.ref 3, .ref 4, .ref 5, .ref 6, .ref 7]) : ACell), (.inr (.int, [.int 0, .int 1, .int 4, .int 0, .int 0, .int 0, .int 0, .int 0, .int 0, .int 0, .int 0, .int 0, .int 0, .int 0, .int 0, .int 0]) : ACell), (.inr (.int, [.int 0, .int 1, .int 4, .int 0, .int 0, .int 0, .int 0, .int 0, .int 0, .int 0, .int 0, .int 0, .int 0, .int 0, .int 0, .int 0]) : ACell), (.inr (.int, [.int 0, .int 1, .int 0, .int 0, .int 2]) : ACell), (.inr (.int, [.int 0, .int 0, .int 1, .int 0, .int 0]) : ACell), (.inr (.int, [.int 0, .int 0, .int 0, .int 0, .int 0]) : ACell)]) := by
  refine e4 ?_
  refine s4_0 ?_
  refine s4_1 rfl ?_
  refine s4_4 ?_
  refine s4_5 2 rfl (by decide) rfl ?_
  exact s4_6 ⟨rfl, rfl⟩
theorem own_r36  : M2 ⟨0, 0, 0, 0⟩ [.ref 2, .int 2, .int 1] [(.inr (.int, [.int 1, .int 0, .int 0]) : ACell), (.inr (.int, [.int 1, .int 2, .int 0]) : ACell), (.inl (0, [.ref 3, .ref 4, .ref 5, .ref 6, .ref 7]) : ACell), (.inr (.int, [.int 0, .int 1, .int 4, .int 0, .int 0, .int 0, .int 0, .int 0, .int 0, .int 0, .int 0, .int 0, .int 0, .int 0, .int 0, .int 0]) : ACell), (.inr (.int, [.int 0, .int 1, .int 4, .int 0, .int 0, .int 0, .int 0, .int 0, .int 0, .int 0, .int 0, .int 0, .int 0, .int 0, .int 0, .int 0]) : ACell), (.inr (.int, [.int 0, .int 1, .int 0, .int 0, .int 2]) : ACell), (.inr (.int, [.int 0, .int 0, .int 1, .int 0, .int 0]) : ACell), (.inr (.int, [.int 0, .int 0, .int 0, .int 0, .int 0]) : ACell)] (Is none [(.inr (.int, [.int 1, .int 0, .int 0]) : ACell), (.inr (.int, [.int 1, .int 2, .int 0]) : ACell), (.inl (0, [.ref 3, .ref 4, .ref 5, .ref 6, .ref 7]) : ACell), (.inr (.int, [.int 0, .int 1, .int 4, .int 0, .int 0, .int 0, .int 0, .int 0, .int 0, .int 0, .int 0, .int 0, .int 0, .int 0, .int 0, .int 0]) : ACell), (.inr (.int, [.int 0, .int 2, .int 4, .int 0, .int 0, .int 0, .int 0, .int 0, .int 0, .int 0, .int 0, .int 0, .int 0, .int 0, .int 0, .int 0]) : ACell), (.inr (.int, [.int 0, .int 1, .int 1, .int 0, .int 2]) : ACell), (.inr (.int, [.int 0, .int 0, .int 1, .int 0, .int 0]) : ACell), (.inr (.int, [.int 0, .int 2, .int 0, .int 0, .int 0]) : ACell)]) := by
  refine e2 ?_
  refine s2_0 ?_
  refine s2_1 ?_
  refine s2_2 rfl ?_
  refine s2_5k 16 rfl rfl ?_
  refine s2_6 (fun _ => ?_) (fun h => absurd h (by decide))
  refine s2_45 ?_
  refine s2_46 rfl ?_
  refine s2_49 ?_
  refine s2_50 ?_
  refine s2_51 2 rfl (by decide) rfl ?_
  refine s2_52 ?_
  refine s2_53 rfl ?_
  refine s2_56 ?_
  refine s2_57 ?_
  refine s2_58 rfl ?_
  refine s2_61 ?_
  refine s2_62 1 rfl (by decide) rfl ?_
  refine s2_63 2 rfl (by decide) rfl ?_
  refine s2_64 ?_
  refine s2_65 rfl ?_
  refine s2_68 ?_
  refine s2_69 ?_
  refine s2_70 2 rfl (by decide) rfl ?_
  refine s2_71 ?_
  refine s2_72 rfl ?_
  refine s2_75 ?_
  refine s2_76 1 rfl (by decide) rfl ?_
  refine s2_77 (fun _ => ?_) (fun h => absurd h (by decide))
  refine s2_90 ?_
  refine s2_91 rfl ?_
  refine s2_94 ?_
  refine s2_95 rfl ?_
  refine s2_98 ?_
  refine s2_99 1 rfl (by decide) rfl ?_
  refine s2_100 ?_
  refine s2_101 1 rfl (by decide) rfl ?_
  refine s2_102 ?_
  refine s2_103 rfl ?_
  refine s2_106 ?_
  refine s2_107 ?_
  refine s2_108 1 rfl (by decide) rfl ?_
  exact s2_109 ⟨rfl, rfl⟩
theorem own_r37  : M5 ⟨0, 1, 2, 0⟩ [.ref 2, .int 1] [(.inr (.int, [.int 1, .int 0, .int 0]) : ACell), (.inr (.int, [.int 1, .int 2, .int 0]) : ACell), (.inl (0, [.ref 3, .ref 4, .ref 5, .ref 6, .ref 7]) : ACell), (.inr (.int, [.int 0, .int 1, .int 4, .int 0, .int 0, .int 0, .int 0, .int 0, .int 0, .int 0, .int 0, .int 0, .int 0, .int 0, .int 0, .int 0]) : ACell), (.inr (.int, [.int 0, .int 2, .int 4, .int 0, .int 0, .int 0, .int 0, .int 0, .int 0, .int 0, .int 0, .int 0, .int 0, .int 0, .int 0, .int 0]) : ACell), (.inr (.int, [.int 0, .int 1, .int 1, .int 0, .int 2]) : ACell), (.inr (.int, [.int 0, .int 0, .int 1, .int 0, .int 0]) : ACell), (.inr (.int, [.int 0, .int 2, .int 0, .int 0, .int 0]) : ACell)] (Is (some (.ref 8)) [(.inr (.int, [.int 1, .int 0, .int 0]) : ACell), (.inr (.int, [.int 1, .int 2, .int 0]) : ACell), (.inl (0, [.ref 3, .ref 4, .ref 5, .ref 6, .ref 7]) : ACell), (.inr (.int, [.int 0, .int 1, .int 4, .int 0, .int 0, .int 0, .int 0, .int 0, .int 0, .int 0, .int 0, .int 0, .int 0, .int 0, .int 0, .int 0]) : ACell), (.inr (.int, [.int 0, .int 2, .int 4, .int 0, .int 0, .int 0, .int 0, .int 0, .int 0, .int 0, .int 0, .int 0, .int 0, .int 0, .int 0, .int 0]) : ACell), (.inr (.int, [.int 0, .int 1, .int 1, .int 0, .int 2]) : ACell), (.inr (.int, [.int 0, .int 0, .int 1, .int 0, .int 0]) : ACell), (.inr (.int, [.int 0, .int 2, .int 0, .int 0, .int 0]) : ACell), (.inr (.int, [.int 1, .int 2]) : ACell)]) := by
  refine e5 ?_
  refine s5_0 ?_
  refine s5_1 rfl ?_
  refine s5_2 ?_
  refine s5_3 rfl ?_
  refine s5_6 ?_
  refine s5_7 1 rfl (by decide) rfl ?_
  refine s5_8 rfl ?_
  refine s5_9 ?_
  refine s5_10 (fun h => absurd h (by decide)) (fun _ => ?_)
  refine s5_13 ?_
  refine s5_16 ?_
  refine s5_17 rfl ?_
  refine s5_20 ?_
  refine s5_21 1 rfl (by decide) rfl ?_
  refine s5_22 rfl ?_
  refine s5_23 ?_
  refine s5_9 ?_
  refine s5_10 (fun h => absurd h (by decide)) (fun _ => ?_)
  refine s5_13 ?_
  refine s5_16 ?_
  refine s5_17 rfl ?_
  refine s5_20 ?_
  refine s5_21 2 rfl (by decide) rfl ?_
  refine s5_22 rfl ?_
  refine s5_23 ?_
  refine s5_9 ?_
  refine s5_10 (fun _ => ?_) (fun h => absurd h (by decide))
  refine s5_26 ?_
  refine s5_27 8 2 (by decide) rfl rfl ?_
  refine s5_29 rfl ?_
  refine s5_30 ?_
  refine s5_31 rfl ?_
  refine s5_33 ?_
  refine s5_34 rfl ?_
  refine s5_37 ?_
  refine s5_38 1 rfl (by decide) rfl ?_
  refine s5_39 rfl ?_
  refine s5_41 ?_
  refine s5_43 (fun h => absurd h (by decide)) (fun _ => ?_)
  refine s5_46 ?_
  refine s5_47 ?_
  refine s5_49 ?_
  refine s5_51 0 rfl (by decide) rfl ?_
  refine s5_52 ?_
  refine s5_55 ?_
  refine s5_56 rfl ?_
  refine s5_59 ?_
  refine s5_61 1 rfl (by decide) rfl ?_
  refine s5_62 rfl ?_
  refine s5_64 ?_
  refine s5_41 ?_
  refine s5_43 (fun h => absurd h (by decide)) (fun _ => ?_)
  refine s5_46 ?_
  refine s5_47 ?_
  refine s5_49 ?_
  refine s5_51 1 rfl (by decide) rfl ?_
  refine s5_52 ?_
  refine s5_55 ?_
  refine s5_56 rfl ?_
  refine s5_59 ?_
  refine s5_61 2 rfl (by decide) rfl ?_
  refine s5_62 rfl ?_
  refine s5_64 ?_
  refine s5_41 ?_
  refine s5_43 (fun _ => ?_) (fun h => absurd h (by decide))
  refine s5_67 ?_
  exact s5_68 ⟨rfl, rfl⟩
theorem own_r38  : M5 ⟨0, 1, 1, 0⟩ [.ref 2, .int 2] [(.inr (.int, [.int 1, .int 0, .int 0]) : ACell), (.inr (.int, [.int 1, .int 2, .int 0]) : ACell), (.inl (0, [.ref 3, .ref 4, .ref 5, .ref 6, .ref 7]) : ACell), (.inr (.int, [.int 0, .int 1, .int 4, .int 0, .int 0, .int 0, .int 0, .int 0, .int 0, .int 0, .int 0, .int 0, .int 0, .int 0, .int 0, .int 0]) : ACell), (.inr (.int, [.int 0, .int 2, .int 4, .int 0, .int 0, .int 0, .int 0, .int 0, .int 0, .int 0, .int 0, .int 0, .int 0, .int 0, .int 0, .int 0]) : ACell), (.inr (.int, [.int 0, .int 1, .int 1, .int 0, .int 2]) : ACell), (.inr (.int, [.int 0, .int 0, .int 1, .int 0, .int 0]) : ACell), (.inr (.int, [.int 0, .int 2, .int 0, .int 0, .int 0]) : ACell), (.inr (.int, [.int 1, .int 2]) : ACell)] (Is (some (.ref 9)) [(.inr (.int, [.int 1, .int 0, .int 0]) : ACell), (.inr (.int, [.int 1, .int 2, .int 0]) : ACell), (.inl (0, [.ref 3, .ref 4, .ref 5, .ref 6, .ref 7]) : ACell), (.inr (.int, [.int 0, .int 1, .int 4, .int 0, .int 0, .int 0, .int 0, .int 0, .int 0, .int 0, .int 0, .int 0, .int 0, .int 0, .int 0, .int 0]) : ACell), (.inr (.int, [.int 0, .int 2, .int 4, .int 0, .int 0, .int 0, .int 0, .int 0, .int 0, .int 0, .int 0, .int 0, .int 0, .int 0, .int 0, .int 0]) : ACell), (.inr (.int, [.int 0, .int 1, .int 1, .int 0, .int 2]) : ACell), (.inr (.int, [.int 0, .int 0, .int 1, .int 0, .int 0]) : ACell), (.inr (.int, [.int 0, .int 2, .int 0, .int 0, .int 0]) : ACell), (.inr (.int, [.int 1, .int 2]) : ACell), (.inr (.int, [.int 4]) : ACell)]) := by
  refine e5 ?_
  refine s5_0 ?_
  refine s5_1 rfl ?_
  refine s5_2 ?_
  refine s5_3 rfl ?_
  refine s5_6 ?_
  refine s5_7 2 rfl (by decide) rfl ?_
  refine s5_8 rfl ?_
  refine s5_9 ?_
  refine s5_10 (fun h => absurd h (by decide)) (fun _ => ?_)
  refine s5_13 ?_
  refine s5_16 ?_
  refine s5_17 rfl ?_
  refine s5_20 ?_
  refine s5_21 4 rfl (by decide) rfl ?_
  refine s5_22 rfl ?_
  refine s5_23 ?_
  refine s5_9 ?_
  refine s5_10 (fun _ => ?_) (fun h => absurd h (by decide))
  refine s5_26 ?_
  refine s5_27 9 1 (by decide) rfl rfl ?_
  refine s5_29 rfl ?_
  refine s5_30 ?_
  refine s5_31 rfl ?_
  refine s5_33 ?_
  refine s5_34 rfl ?_
  refine s5_37 ?_
  refine s5_38 2 rfl (by decide) rfl ?_
  refine s5_39 rfl ?_
  refine s5_41 ?_
  refine s5_43 (fun h => absurd h (by decide)) (fun _ => ?_)
  refine s5_46 ?_
  refine s5_47 ?_
  refine s5_49 ?_
  refine s5_51 0 rfl (by decide) rfl ?_
  refine s5_52 ?_
  refine s5_55 ?_
  refine s5_56 rfl ?_
  refine s5_59 ?_
  refine s5_61 4 rfl (by decide) rfl ?_
  refine s5_62 rfl ?_
  refine s5_64 ?_
  refine s5_41 ?_
  refine s5_43 (fun _ => ?_) (fun h => absurd h (by decide))
  refine s5_67 ?_
  exact s5_68 ⟨rfl, rfl⟩
theorem own_r39  : M6 ⟨0, 0, 0, 0⟩ [.ref 8, .ref 1, .int 2] [(.inr (.int, [.int 1, .int 0, .int 0]) : ACell), (.inr (.int, [.int 1, .int 2, .int 0]) : ACell), (.inl (0, [.ref 3, .ref 4, .ref 5, .ref 6, .ref 7]) : ACell), (.inr (.int, [.int 0, .int 1, .int 4, .int 0, .int 0, .int 0, .int 0, .int 0, .int 0, .int 0, .int 0, .int 0, .int 0, .int 0, .int 0, .int 0]) : ACell), (.inr (.int, [.int 0, .int 2, .int 4, .int 0, .int 0, .int 0, .int 0, .int 0, .int 0, .int 0, .int 0, .int 0, .int 0, .int 0, .int 0, .int 0]) : ACell), (.inr (.int, [.int 0, .int 1, .int 1, .int 0, .int 2]) : ACell), (.inr (.int, [.int 0, .int 0, .int 1, .int 0, .int 0]) : ACell), (.inr (.int, [.int 0, .int 2, .int 0, .int 0, .int 0]) : ACell), (.inr (.int, [.int 1, .int 2]) : ACell), (.inr (.int, [.int 4]) : ACell)] (Is (some (.int 1)) [(.inr (.int, [.int 1, .int 0, .int 0]) : ACell), (.inr (.int, [.int 1, .int 2, .int 0]) : ACell), (.inl (0, [.ref 3, .ref 4, .ref 5, .ref 6, .ref 7]) : ACell), (.inr (.int, [.int 0, .int 1, .int 4, .int 0, .int 0, .int 0, .int 0, .int 0, .int 0, .int 0, .int 0, .int 0, .int 0, .int 0, .int 0, .int 0]) : ACell), (.inr (.int, [.int 0, .int 2, .int 4, .int 0, .int 0, .int 0, .int 0, .int 0, .int 0, .int 0, .int 0, .int 0, .int 0, .int 0, .int 0, .int 0]) : ACell), (.inr (.int, [.int 0, .int 1, .int 1, .int 0, .int 2]) : ACell), (.inr (.int, [.int 0, .int 0, .int 1, .int 0, .int 0]) : ACell), (.inr (.int, [.int 0, .int 2, .int 0, .int 0, .int 0]) : ACell), (.inr (.int, [.int 1, .int 2]) : ACell), (.inr (.int, [.int 4]) : ACell)]) := by
  refine e6 ?_
  refine s6_0 ?_
  refine s6_1k 2 rfl rfl ?_
  refine s6_2 ?_
  refine s6_3 (fun h => absurd h (by decide)) (fun _ => ?_)
  refine s6_6 ?_
  refine s6_7 ?_
  refine s6_8 (fun h => absurd h (by decide)) (fun _ => ?_)
  refine s6_11 ?_
  refine s6_12 ?_
  refine s6_13 0 rfl (by decide) rfl ?_
  refine s6_14 ?_
  refine s6_15 ?_
  refine s6_16 0 rfl (by decide) rfl ?_
  refine s6_17 (fun h => absurd h (by decide)) (fun _ => ?_)
  refine s6_20 ?_
  refine s6_21 ?_
  refine s6_22 (fun h => absurd h (by decide)) (fun _ => ?_)
  refine s6_25 ?_
  refine s6_26 ?_
  refine s6_27 1 rfl (by decide) rfl ?_
  refine s6_28 ?_
  refine s6_29 ?_
  refine s6_30 1 rfl (by decide) rfl ?_
  refine s6_31 (fun h => absurd h (by decide)) (fun _ => ?_)
  refine s6_34 ?_
  refine s6_35 ?_
  refine s6_36 (fun _ => ?_) (fun h => absurd h (by decide))
  refine s6_48 ?_
  refine s6_49 ?_
  exact s6_53 ⟨rfl, rfl⟩
theorem own_r40  : M1 ⟨1, 5, 47, 12⟩ [.ref 2, .int 4] [(.inr (.int, [.int 1, .int 0, .int 0]) : ACell), (.inr (.int, [.int 2, .int 0, .int 0]) : ACell), (.inl (0, [.null, .null, .null, .null, .null]) : ACell)] (Is none [(.inr (.int, [.int 1, .int 0, .int 0]) : ACell), (.inr (.int, [.int 2, .int 0, .int 0]) : ACell), (.inl (0, [.ref 3, .ref 4, .ref 5, .ref 6, .ref 7]) : ACell), (.inr (.int, [.int 0, .int 0, .int 0, .int 0, .int 0, .int 0, .int 0, .int 0, .int 0, .int 0, .int 0, .int 0, .int 0, .int 0, .int 0, .int 0]) : ACell), (.inr (.int, [.int 0, .int 0, .int 0, .int 0, .int 0, .int 0, .int 0, .int 0, .int 0, .int 0, .int 0, .int 0, .int 0, .int 0, .int 0, .int 0]) : ACell), (.inr (.int, [.int 0, .int 0, .int 0, .int 0, .int 0]) : ACell), (.inr (.int, [.int 0, .int 0, .int 0, .int 0, .int 0]) : ACell), (.inr (.int, [.int 0, .int 0, .int 0, .int 0, .int 0]) : ACell)]) := by
  refine e1 ?_
  refine s1_0 ?_
  refine s1_1 rfl ?_
  refine s1_4 ?_
  refine s1_5 ?_
  refine s1_7 3 16 (by decide) rfl rfl ?_
  refine s1_9 rfl ?_
  refine s1_12 ?_
  refine s1_13 ?_
  refine s1_15 4 16 (by decide) rfl rfl ?_
  refine s1_17 rfl ?_
  refine s1_20 ?_
  refine s1_21 ?_
  refine s1_22 ?_
  refine s1_23 ?_
  refine s1_24 5 5 (by decide) rfl rfl ?_
  refine s1_26 rfl ?_
  refine s1_29 ?_
  refine s1_30 ?_
  refine s1_31 ?_
  refine s1_32 ?_
  refine s1_33 6 5 (by decide) rfl rfl ?_
  refine s1_35 rfl ?_
  refine s1_38 ?_
  refine s1_39 ?_
  refine s1_40 ?_
  refine s1_41 ?_
  refine s1_42 7 5 (by decide) rfl rfl ?_
  refine s1_44 rfl ?_
  exact s1_47 ⟨rfl, rfl⟩
theorem own_r41  : M2 ⟨0, 0, 0, 0⟩ [.ref 2, .int 1, .int 1] [(.inr (.int, [.int 1, .int 0, .int 0]) : ACell), (.inr (.int, [.int 2, .int 0, .int 0]) : ACell), (.inl (0, [.ref 3, .ref 4, .ref 5, .ref 6, .ref 7]) : ACell), (.inr (.int, [.int 0, .int 0, .int 0, .int 0, .int 0, .int 0, .int 0, .int 0, .int 0, .int 0, .int 0, .int 0, .int 0, .int 0, .int 0, .int 0]) : ACell), (.inr (.int, [.int 0, .int 0, .int 0, .int 0, .int 0, .int 0, .int 0, .int 0, .int 0, .int 0, .int 0, .int 0, .int 0, .int 0, .int 0, .int 0]) : ACell), (.inr (.int, [.int 0, .int 0, .int 0, .int 0, .int 0]) : ACell), (.inr (.int, [.int 0, .int 0, .int 0, .int 0, .int 0]) : ACell), (.inr (.int, [.int 0, .int 0, .int 0, .int 0, .int 0]) : ACell)] (Is none [(.inr (.int, [.int 1, .int 0, .int 0]) : ACell), (.inr (.int, [.int 2, .int 0, .int 0]) : ACell), (.inl (0, [.ref 3, .ref 4, .ref 5, .ref 6, .ref 7]) : ACell), (.inr (.int, [.int 0, .int 1, .int 0, .int 0, .int 0, .int 0, .int 0, .int 0, .int 0, .int 0, .int 0, .int 0, .int 0, .int 0, .int 0, .int 0]) : ACell), (.inr (.int, [.int 0, .int 1, .int 0, .int 0, .int 0, .int 0, .int 0, .int 0, .int 0, .int 0, .int 0, .int 0, .int 0, .int 0, .int 0, .int 0]) : ACell), (.inr (.int, [.int 0, .int 1, .int 0, .int 0, .int 0]) : ACell), (.inr (.int, [.int 0, .int 0, .int 0, .int 0, .int 0]) : ACell), (.inr (.int, [.int 0, .int 0, .int 0, .int 0, .int 0]) : ACell)]) := by
  refine e2 ?_
  refine s2_0 ?_
  refine s2_1 ?_
  refine s2_2 rfl ?_
  refine s2_5k 16 rfl rfl ?_
  refine s2_6 (fun _ => ?_) (fun h => absurd h (by decide))
  refine s2_45 ?_
  refine s2_46 rfl ?_
  refine s2_49 ?_
  refine s2_50 ?_
  refine s2_51 1 rfl (by decide) rfl ?_
  refine s2_52 ?_
  refine s2_53 rfl ?_
  refine s2_56 ?_
  refine s2_57 ?_
  refine s2_58 rfl ?_
  refine s2_61 ?_
  refine s2_62 1 rfl (by decide) rfl ?_
  refine s2_63 1 rfl (by decide) rfl ?_
  refine s2_64 ?_
  refine s2_65 rfl ?_
  refine s2_68 ?_
  refine s2_69 ?_
  refine s2_70 1 rfl (by decide) rfl ?_
  refine s2_71 ?_
  refine s2_72 rfl ?_
  refine s2_75 ?_
  refine s2_76 1 rfl (by decide) rfl ?_
  refine s2_77 (fun h => absurd h (by decide)) (fun _ => ?_)
  refine s2_80 ?_
  refine s2_81 rfl ?_
  refine s2_84 ?_
  refine s2_85 ?_
  refine s2_86 1 rfl (by decide) rfl ?_
  refine s2_87 ?_
  refine s2_102 ?_
  refine s2_103 rfl ?_
  refine s2_106 ?_
  refine s2_107 ?_
  refine s2_108 1 rfl (by decide) rfl ?_
  exact s2_109 ⟨rfl, rfl⟩
theorem own_r42  : M2 ⟨0, 0, 0, 0⟩ [.ref 2, .int 2, .int 1] [(.inr (.int, [.int 1, .int 0, .int 0]) : ACell), (.inr (.int, [.int 2, .int 0, .int 0]) : ACell), (.inl (0, [.ref 3, .ref 4, .ref 5, .ref 6, .ref 7]) : ACell), (.inr (.int, [.int 0, .int 1, .int 0, .int 0, .int 0, .int 0, .int 0, .int 0, .int 0, .int 0, .int 0, .int 0, .int 0, .int 0, .int 0, .int 0]) : ACell), (.inr (.int, [.int 0, .int 1, .int 0, .int 0, .int 0, .int 0, .int 0, .int 0, .int 0, .int 0, .int 0, .int 0, .int 0, .int 0, .int 0, .int 0]) : ACell), (.inr (.int, [.int 0, .int 1, .int 0, .int 0, .int 0]) : ACell), (.inr (.int, [.int 0, .int 0, .int 0, .int 0, .int 0]) : ACell), (.inr (.int, [.int 0, .int 0, .int 0, .int 0, .int 0]) : ACell)] (Is none [(.inr (.int, [.int 1, .int 0, .int 0]) : ACell), (.inr (.int, [.int 2, .int 0, .int 0]) : ACell), (.inl (0, [.ref 3, .ref 4, .ref 5, .ref 6, .ref 7]) : ACell), (.inr (.int, [.int 0, .int 1, .int 0, .int 0, .int 0, .int 0, .int 0, .int 0, .int 0, .int 0, .int 0, .int 0, .int 0, .int 0, .int 0, .int 0]) : ACell), (.inr (.int, [.int 0, .int 2, .int 0, .int 0, .int 0, .int 0, .int 0, .int 0, .int 0, .int 0, .int 0, .int 0, .int 0, .int 0, .int 0, .int 0]) : ACell), (.inr (.int, [.int 0, .int 1, .int 1, .int 0, .int 0]) : ACell), (.inr (.int, [.int 0, .int 0, .int 1, .int 0, .int 0]) : ACell), (.inr (.int, [.int 0, .int 2, .int 0, .int 0, .int 0]) : ACell)]) := by
  refine e2 ?_
  refine s2_0 ?_
  refine s2_1 ?_
  refine s2_2 rfl ?_
  refine s2_5k 16 rfl rfl ?_
  refine s2_6 (fun _ => ?_) (fun h => absurd h (by decide))
  refine s2_45 ?_
  refine s2_46 rfl ?_
  refine s2_49 ?_
  refine s2_50 ?_
  refine s2_51 2 rfl (by decide) rfl ?_
  refine s2_52 ?_
  refine s2_53 rfl ?_
  refine s2_56 ?_
  refine s2_57 ?_
  refine s2_58 rfl ?_
  refine s2_61 ?_
  refine s2_62 1 rfl (by decide) rfl ?_
  refine s2_63 2 rfl (by decide) rfl ?_
  refine s2_64 ?_
  refine s2_65 rfl ?_
  refine s2_68 ?_
  refine s2_69 ?_
  refine s2_70 2 rfl (by decide) rfl ?_
  refine s2_71 ?_
  refine s2_72 rfl ?_
  refine s2_75 ?_
  refine s2_76 1 rfl (by decide) rfl ?_
  refine s2_77 (fun _ => ?_) (fun h => absurd h (by decide))
  refine s2_90 ?_
  refine s2_91 rfl ?_
  refine s2_94 ?_
  refine s2_95 rfl ?_
  refine s2_98 ?_
  refine s2_99 1 rfl (by decide) rfl ?_
  refine s2_100 ?_
  refine s2_101 1 rfl (by decide) rfl ?_
  refine s2_102 ?_
  refine s2_103 rfl ?_
  refine s2_106 ?_
  refine s2_107 ?_
  refine s2_108 1 rfl (by decide) rfl ?_
  exact s2_109 ⟨rfl, rfl⟩
theorem own_r43  : M2 ⟨0, 0, 0, 0⟩ [.ref 2, .int 4, .int 2] [(.inr (.int, [.int 1, .int 0, .int 0]) : ACell), (.inr (.int, [.int 2, .int 0, .int 0]) : ACell), (.inl (0, [.ref 3, .ref 4, .ref 5, .ref 6, .ref 7]) : ACell), (.inr (.int, [.int 0, .int 1, .int 0, .int 0, .int 0, .int 0, .int 0, .int 0, .int 0, .int 0, .int 0, .int 0, .int 0, .int 0, .int 0, .int 0]) : ACell), (.inr (.int, [.int 0, .int 2, .int 0, .int 0, .int 0, .int 0, .int 0, .int 0, .int 0, .int 0, .int 0, .int 0, .int 0, .int 0, .int 0, .int 0]) : ACell), (.inr (.int, [.int 0, .int 1, .int 1, .int 0, .int 0]) : ACell), (.inr (.int, [.int 0, .int 0, .int 1, .int 0, .int 0]) : ACell), (.inr (.int, [.int 0, .int 2, .int 0, .int 0, .int 0]) : ACell)] (Is none [(.inr (.int, [.int 1, .int 0, .int 0]) : ACell), (.inr (.int, [.int 2, .int 0, .int 0]) : ACell), (.inl (0, [.ref 3, .ref 4, .ref 5, .ref 6, .ref 7]) : ACell), (.inr (.int, [.int 0, .int 1, .int 4, .int 0, .int 0, .int 0, .int 0, .int 0, .int 0, .int 0, .int 0, .int 0, .int 0, .int 0, .int 0, .int 0]) : ACell), (.inr (.int, [.int 0, .int 2, .int 4, .int 0, .int 0, .int 0, .int 0, .int 0, .int 0, .int 0, .int 0, .int 0, .int 0, .int 0, .int 0, .int 0]) : ACell), (.inr (.int, [.int 0, .int 1, .int 1, .int 0, .int 2]) : ACell), (.inr (.int, [.int 0, .int 0, .int 1, .int 0, .int 0]) : ACell), (.inr (.int, [.int 0, .int 2, .int 0, .int 0, .int 0]) : ACell)]) := by
  refine e2 ?_
  refine s2_0 ?_
  refine s2_1 ?_
  refine s2_2 rfl ?_
  refine s2_5k 16 rfl rfl ?_
  refine s2_6 (fun _ => ?_) (fun h => absurd h (by decide))
  refine s2_45 ?_
  refine s2_46 rfl ?_
  refine s2_49 ?_
  refine s2_50 ?_
  refine s2_51 4 rfl (by decide) rfl ?_
  refine s2_52 ?_
  refine s2_53 rfl ?_
  refine s2_56 ?_
  refine s2_57 ?_
  refine s2_58 rfl ?_
  refine s2_61 ?_
  refine s2_62 2 rfl (by decide) rfl ?_
  refine s2_63 4 rfl (by decide) rfl ?_
  refine s2_64 ?_
  refine s2_65 rfl ?_
  refine s2_68 ?_
  refine s2_69 ?_
  refine s2_70 4 rfl (by decide) rfl ?_
  refine s2_71 ?_
  refine s2_72 rfl ?_
  refine s2_75 ?_
  refine s2_76 2 rfl (by decide) rfl ?_
  refine s2_77 (fun h => absurd h (by decide)) (fun _ => ?_)
  refine s2_80 ?_
  refine s2_81 rfl ?_
  refine s2_84 ?_
  refine s2_85 ?_
  refine s2_86 2 rfl (by decide) rfl ?_
  refine s2_87 ?_
  refine s2_102 ?_
  refine s2_103 rfl ?_
  refine s2_106 ?_
  refine s2_107 ?_
  refine s2_108 2 rfl (by decide) rfl ?_
  exact s2_109 ⟨rfl, rfl⟩
theorem own_r44  : M3 ⟨0, 0, 0, 0⟩ [.ref 2, .int 2] [(.inr (.int, [.int 1, .int 0, .int 0]) : ACell), (.inr (.int, [.int 2, .int 0, .int 0]) : ACell), (.inl (0, [.ref 3, .ref 4, .ref 5, .ref 6, .ref 7]) : ACell), (.inr (.int, [.int 0, .int 1, .int 4, .int 0, .int 0, .int 0, .int 0, .int 0, .int 0, .int 0, .int 0, .int 0, .int 0, .int 0, .int 0, .int 0]) : ACell), (.inr (.int, [.int 0, .int 2, .int 4, .int 0, .int 0, .int 0, .int 0, .int 0, .int 0, .int 0, .int 0, .int 0, .int 0, .int 0, .int 0, .int 0]) : ACell), (.inr (.int, [.int 0, .int 1, .int 1, .int 0, .int 2]) : ACell), (.inr (.int, [.int 0, .int 0, .int 1, .int 0, .int 0]) : ACell), (.inr (.int, [.int 0, .int 2, .int 0, .int 0, .int 0]) : ACell)] (Is none [(.inr (.int, [.int 1, .int 0, .int 0]) : ACell), (.inr (.int, [.int 2, .int 0, .int 0]) : ACell), (.inl (0, [.ref 3, .ref 4, .ref 5, .ref 6, .ref 7]) : ACell), (.inr (.int, [.int 0, .int 1, .int 4, .int 0, .int 0, .int 0, .int 0, .int 0, .int 0, .int 0, .int 0, .int 0, .int 0, .int 0, .int 0, .int 0]) : ACell), (.inr (.int, [.int 0, .int 1, .int 4, .int 0, .int 0, .int 0, .int 0, .int 0, .int 0, .int 0, .int 0, .int 0, .int 0, .int 0, .int 0, .int 0]) : ACell), (.inr (.int, [.int 0, .int 1, .int 0, .int 0, .int 2]) : ACell), (.inr (.int, [.int 0, .int 0, .int 1, .int 0, .int 0]) : ACell), (.inr (.int, [.int 0, .int 0, .int 0, .int 0, .int 0]) : ACell)]) := by
  refine e3 ?_
  refine s3_0 ?_
  refine s3_1 rfl ?_
  refine s3_4 ?_
  refine s3_5 2 rfl (by decide) rfl ?_
  refine s3_6 rfl ?_
  refine s3_7 ?_
  refine s3_8 rfl ?_
  refine s3_11 ?_
  refine s3_12 2 rfl (by decide) rfl ?_
  refine s3_13 (fun _ => ?_) (fun h => absurd h (by decide))
  refine s3_31 ?_
  refine s3_32 rfl ?_
  refine s3_35 ?_
  refine s3_36 rfl ?_
  refine s3_39 ?_
  refine s3_40 2 rfl (by decide) rfl ?_
  refine s3_41 ?_
  refine s3_42 rfl ?_
  refine s3_45 ?_
  refine s3_46 2 rfl (by decide) rfl ?_
  refine s3_47 1 rfl (by decide) rfl ?_
  refine s3_48 ?_
  refine s3_49 rfl ?_
  refine s3_52 ?_
  refine s3_53 2 rfl (by decide) rfl ?_
  refine s3_54 (fun h => absurd h (by decide)) (fun _ => ?_)
  refine s3_57 ?_
  refine s3_58 rfl ?_
  refine s3_61 ?_
  refine s3_62 ?_
  refine s3_63 rfl ?_
  refine s3_66 ?_
  refine s3_67 2 rfl (by decide) rfl ?_
  refine s3_68 1 rfl (by decide) rfl ?_
  refine s3_69 ?_
  refine s3_89 ?_
  refine s3_90 rfl ?_
  refine s3_93 ?_
  refine s3_94 ?_
  refine s3_95 2 rfl (by decide) rfl ?_
  exact s3_96 ⟨rfl, rfl⟩
theorem own_r45  : M4 ⟨0, 0, 0, 0⟩ [.ref 2, .int 2] [(.inr (.int, [.int 1, .int 0, .int 0]) : ACell), (.inr (.int, [.int 2, .int 0, .int 0]) : ACell), (.inl (0, [.ref 3, .ref 4, .ref 5, .ref 6, .ref 7]) : ACell), (.inr (.int, [.int 0, .int 1, .int 4, .int 0, .int 0, .int 0, .int 0, .int 0, .int 0, .int 0, .int 0, .int 0, .int 0, .int 0, .int 0, .int 0]) : ACell), (.inr (.int, [.int 0, .int 1, .int 4, .int 0, .int 0, .int 0, .int 0, .int 0, .int 0, .int 0, .int 0, .int 0, .int 0, .int 0, .int 0, .int 0]) : ACell), (.inr (.int, [.int 0, .int 1, .int 0, .int 0, .int 2]) : ACell), (.inr (.int, [.int 0, .int 0, .int 1, .int 0, .int 0]) : ACell), (.inr (.int, [.int 0, .int 0, .int 0, .int 0, .int 0]) : ACell)] (Is (some (.int 0)) [(.inr (.int, [.int 1, .int 0, .int 0]) : ACell), (.inr (.int, [.int 2, .int 0, .int 0]) : ACell), (.inl (0, [.ref 3, .ref 4, .ref 5, .ref 6, .ref 7]) : ACell), (.inr (.int, [.int 0, .int 1, .int 4, .int 0, .int 0, .int 0, .int 0, .int 0, .int 0, .int 0, .int 0, .int 0, .int 0, .int 0, .int 0, .int 0]) : ACell), (.inr (.int, [.int 0, .int 1, .int 4, .int 0, .int 0, .int 0, .int 0, .int 0, .int 0, .int 0, .int 0, .int 0, .int 0, .int 0, .int 0, .int 0]) : ACell), (.inr (.int, [.int 0, .int 1, .int 0, .int 0, .int 2]) : ACell), (.inr (.int, [.int 0, .int 0, .int 1, .int 0, .int 0]) : ACell), (.inr (.int, [.int 0, .int 0, .int 0, .int 0, .int 0]) : ACell)]) := by
  refine e4 ?_
  refine s4_0 ?_
  refine s4_1 rfl ?_
  refine s4_4 ?_
  refine s4_5 2 rfl (by decide) rfl ?_
  exact s4_6 ⟨rfl, rfl⟩
theorem own_r46  : M3 ⟨0, 0, 0, 0⟩ [.ref 2, .int 1] [(.inr (.int, [.int 1, .int 0, .int 0]) : ACell), (.inr (.int, [.int 2, .int 0, .int 0]) : ACell), (.inl (0, [.ref 3, .ref 4, .ref 5, .ref 6, .ref 7]) : ACell), (.inr (.int, [.int 0, .int 1, .int 4, .int 0, .int 0, .int 0, .int 0, .int 0, .int 0, .int 0, .int 0, .int 0, .int 0, .int 0, .int 0, .int 0]) : ACell), (.inr (.int, [.int 0, .int 1, .int 4, .int 0, .int 0, .int 0, .int 0, .int 0, .int 0, .int 0, .int 0, .int 0, .int 0, .int 0, .int 0, .int 0]) : ACell), (.inr (.int, [.int 0, .int 1, .int 0, .int 0, .int 2]) : ACell), (.inr (.int, [.int 0, .int 0, .int 1, .int 0, .int 0]) : ACell), (.inr (.int, [.int 0, .int 0, .int 0, .int 0, .int 0]) : ACell)] (Is none [(.inr (.int, [.int 1, .int 0, .int 0]) : ACell), (.inr (.int, [.int 2, .int 0, .int 0]) : ACell), (.inl (0, [.ref 3, .ref 4, .ref 5, .ref 6, .ref 7]) : ACell), (.inr (.int, [.int 0, .int 0, .int 4, .int 0, .int 0, .int 0, .int 0, .int 0, .int 0, .int 0, .int 0, .int 0, .int 0, .int 0, .int 0, .int 0]) : ACell), (.inr (.int, [.int 0, .int 0, .int 4, .int 0, .int 0, .int 0, .int 0, .int 0, .int 0, .int 0, .int 0, .int 0, .int 0, .int 0, .int 0, .int 0]) : ACell), (.inr (.int, [.int 0, .int 0, .int 0, .int 0, .int 2]) : ACell), (.inr (.int, [.int 0, .int 0, .int 1, .int 0, .int 0]) : ACell), (.inr (.int, [.int 0, .int 0, .int 0, .int 0, .int 0]) : ACell)]) := by
  refine e3 ?_
  refine s3_0 ?_
  refine s3_1 rfl ?_
  refine s3_4 ?_
  refine s3_5 1 rfl (by decide) rfl ?_
  refine s3_6 rfl ?_
  refine s3_7 ?_
  refine s3_8 rfl ?_
  refine s3_11 ?_
  refine s3_12 1 rfl (by decide) rfl ?_
  refine s3_13 (fun h => absurd h (by decide)) (fun _ => ?_)
  refine s3_16 ?_
  refine s3_17 rfl ?_
  refine s3_20 ?_
  refine s3_21 ?_
  refine s3_22 rfl ?_
  refine s3_25 ?_
  refine s3_26 1 rfl (by decide) rfl ?_
  refine s3_27 1 rfl (by decide) rfl ?_
  refine s3_28 ?_
  refine s3_48 ?_
  refine s3_49 rfl ?_
  refine s3_52 ?_
  refine s3_53 1 rfl (by decide) rfl ?_
  refine s3_54 (fun h => absurd h (by decide)) (fun _ => ?_)
  refine s3_57 ?_
  refine s3_58 rfl ?_
  refine s3_61 ?_
  refine s3_62 ?_
  refine s3_63 rfl ?_
  refine s3_66 ?_
  refine s3_67 1 rfl (by decide) rfl ?_
  refine s3_68 1 rfl (by decide) rfl ?_
  refine s3_69 ?_
  refine s3_89 ?_
  refine s3_90 rfl ?_
  refine s3_93 ?_
  refine s3_94 ?_
  refine s3_95 1 rfl (by decide) rfl ?_
  exact s3_96 ⟨rfl, rfl⟩
theorem own_r47  : M2 ⟨0, 0, 0, 0⟩ [.ref 2, .int 2, .int 1] [(.inr (.int, [.int 1, .int 0, .int 0]) : ACell), (.inr (.int, [.int 2, .int 0, .int 0]) : ACell), (.inl (0, [.ref 3, .ref 4, .ref 5, .ref 6, .ref 7]) : ACell), (.inr (.int, [.int 0, .int 0, .int 4, .int 0, .int 0, .int 0, .int 0, .int 0, .int 0, .int 0, .int 0, .int 0, .int 0, .int 0, .int 0, .int 0]) : ACell), (.inr (.int, [.int 0, .int 0, .int 4, .int 0, .int 0, .int 0, .int 0, .int 0, .int 0, .int 0, .int 0, .int 0, .int 0, .int 0, .int 0, .int 0]) : ACell), (.inr (.int, [.int 0, .int 0, .int 0, .int 0, .int 2]) : ACell), (.inr (.int, [.int 0, .int 0, .int 1, .int 0, .int 0]) : ACell), (.inr (.int, [.int 0, .int 0, .int 0, .int 0, .int 0]) : ACell)] (Is none [(.inr (.int, [.int 1, .int 0, .int 0]) : ACell), (.inr (.int, [.int 2, .int 0, .int 0]) : ACell), (.inl (0, [.ref 3, .ref 4, .ref 5, .ref 6, .ref 7]) : ACell), (.inr (.int, [.int 0, .int 2, .int 4, .int 0, .int 0, .int 0, .int 0, .int 0, .int 0, .int 0, .int 0, .int 0, .int 0, .int 0, .int 0, .int 0]) : ACell), (.inr (.int, [.int 0, .int 2, .int 4, .int 0, .int 0, .int 0, .int 0, .int 0, .int 0, .int 0, .int 0, .int 0, .int 0, .int 0, .int 0, .int 0]) : ACell), (.inr (.int, [.int 0, .int 0, .int 1, .int 0, .int 2]) : ACell), (.inr (.int, [.int 0, .int 0, .int 0, .int 0, .int 0]) : ACell), (.inr (.int, [.int 0, .int 0, .int 0, .int 0, .int 0]) : ACell)]) := by
  refine e2 ?_
  refine s2_0 ?_
  refine s2_1 ?_
  refine s2_2 rfl ?_
  refine s2_5k 16 rfl rfl ?_
  refine s2_6 (fun _ => ?_) (fun h => absurd h (by decide))
  refine s2_45 ?_
  refine s2_46 rfl ?_
  refine s2_49 ?_
  refine s2_50 ?_
  refine s2_51 2 rfl (by decide) rfl ?_
  refine s2_52 ?_
  refine s2_53 rfl ?_
  refine s2_56 ?_
  refine s2_57 ?_
  refine s2_58 rfl ?_
  refine s2_61 ?_
  refine s2_62 1 rfl (by decide) rfl ?_
  refine s2_63 2 rfl (by decide) rfl ?_
  refine s2_64 ?_
  refine s2_65 rfl ?_
  refine s2_68 ?_
  refine s2_69 ?_
  refine s2_70 2 rfl (by decide) rfl ?_
  refine s2_71 ?_
  refine s2_72 rfl ?_
  refine s2_75 ?_
  refine s2_76 1 rfl (by decide) rfl ?_
  refine s2_77 (fun h => absurd h (by decide)) (fun _ => ?_)
  refine s2_80 ?_
  refine s2_81 rfl ?_
  refine s2_84 ?_
  refine s2_85 ?_
  refine s2_86 1 rfl (by decide) rfl ?_
  refine s2_87 ?_
  refine s2_102 ?_
  refine s2_103 rfl ?_
  refine s2_106 ?_
  refine s2_107 ?_
  refine s2_108 1 rfl (by decide) rfl ?_
  exact s2_109 ⟨rfl, rfl⟩
theorem own_r48  : M5 ⟨0, 1, 1, 0⟩ [.ref 2, .int 1] [(.inr (.int, [.int 1, .int 0, .int 0]) : ACell), (.inr (.int, [.int 2, .int 0, .int 0]) : ACell), (.inl (0, [.ref 3, .ref 4, .ref 5, .ref 6, .ref 7]) : ACell), (.inr (.int, [.int 0, .int 2, .int 4, .int 0, .int 0, .int 0, .int 0, .int 0, .int 0, .int 0, .int 0, .int 0, .int 0, .int 0, .int 0, .int 0]) : ACell), (.inr (.int, [.int 0, .int 2, .int 4, .int 0, .int 0, .int 0, .int 0, .int 0, .int 0, .int 0, .int 0, .int 0, .int 0, .int 0, .int 0, .int 0]) : ACell), (.inr (.int, [.int 0, .int 0, .int 1, .int 0, .int 2]) : ACell), (.inr (.int, [.int 0, .int 0, .int 0, .int 0, .int 0]) : ACell), (.inr (.int, [.int 0, .int 0, .int 0, .int 0, .int 0]) : ACell)] (Is (some (.ref 8)) [(.inr (.int, [.int 1, .int 0, .int 0]) : ACell), (.inr (.int, [.int 2, .int 0, .int 0]) : ACell), (.inl (0, [.ref 3, .ref 4, .ref 5, .ref 6, .ref 7]) : ACell), (.inr (.int, [.int 0, .int 2, .int 4, .int 0, .int 0, .int 0, .int 0, .int 0, .int 0, .int 0, .int 0, .int 0, .int 0, .int 0, .int 0, .int 0]) : ACell), (.inr (.int, [.int 0, .int 2, .int 4, .int 0, .int 0, .int 0, .int 0, .int 0, .int 0, .int 0, .int 0, .int 0, .int 0, .int 0, .int 0, .int 0]) : ACell), (.inr (.int, [.int 0, .int 0, .int 1, .int 0, .int 2]) : ACell), (.inr (.int, [.int 0, .int 0, .int 0, .int 0, .int 0]) : ACell), (.inr (.int, [.int 0, .int 0, .int 0, .int 0, .int 0]) : ACell), (.inr (.int, [.int 2]) : ACell)]) := by
  refine e5 ?_
  refine s5_0 ?_
  refine s5_1 rfl ?_
  refine s5_2 ?_
  refine s5_3 rfl ?_
  refine s5_6 ?_
  refine s5_7 1 rfl (by decide) rfl ?_
  refine s5_8 rfl ?_
  refine s5_9 ?_
  refine s5_10 (fun h => absurd h (by decide)) (fun _ => ?_)
  refine s5_13 ?_
  refine s5_16 ?_
  refine s5_17 rfl ?_
  refine s5_20 ?_
  refine s5_21 2 rfl (by decide) rfl ?_
  refine s5_22 rfl ?_
  refine s5_23 ?_
  refine s5_9 ?_
  refine s5_10 (fun _ => ?_) (fun h => absurd h (by decide))
  refine s5_26 ?_
  refine s5_27 8 1 (by decide) rfl rfl ?_
  refine s5_29 rfl ?_
  refine s5_30 ?_
  refine s5_31 rfl ?_
  refine s5_33 ?_
  refine s5_34 rfl ?_
  refine s5_37 ?_
  refine s5_38 1 rfl (by decide) rfl ?_
  refine s5_39 rfl ?_
  refine s5_41 ?_
  refine s5_43 (fun h => absurd h (by decide)) (fun _ => ?_)
  refine s5_46 ?_
  refine s5_47 ?_
  refine s5_49 ?_
  refine s5_51 0 rfl (by decide) rfl ?_
  refine s5_52 ?_
  refine s5_55 ?_
  refine s5_56 rfl ?_
  refine s5_59 ?_
  refine s5_61 2 rfl (by decide) rfl ?_
  refine s5_62 rfl ?_
  refine s5_64 ?_
  refine s5_41 ?_
  refine s5_43 (fun _ => ?_) (fun h => absurd h (by decide))
  refine s5_67 ?_
  exact s5_68 ⟨rfl, rfl⟩
theorem own_r49  : M5 ⟨0, 1, 1, 0⟩ [.ref 2, .int 2] [(.inr (.int, [.int 1, .int 0, .int 0]) : ACell), (.inr (.int, [.int 2, .int 0, .int 0]) : ACell), (.inl (0, [.ref 3, .ref 4, .ref 5, .ref 6, .ref 7]) : ACell), (.inr (.int, [.int 0, .int 2, .int 4, .int 0, .int 0, .int 0, .int 0, .int 0, .int 0, .int 0, .int 0, .int 0, .int 0, .int 0, .int 0, .int 0]) : ACell), (.inr (.int, [.int 0, .int 2, .int 4, .int 0, .int 0, .int 0, .int 0, .int 0, .int 0, .int 0, .int 0, .int 0, .int 0, .int 0, .int 0, .int 0]) : ACell), (.inr (.int, [.int 0, .int 0, .int 1, .int 0, .int 2]) : ACell), (.inr (.int, [.int 0, .int 0, .int 0, .int 0, .int 0]) : ACell), (.inr (.int, [.int 0, .int 0, .int 0, .int 0, .int 0]) : ACell), (.inr (.int, [.int 2]) : ACell)] (Is (some (.ref 9)) [(.inr (.int, [.int 1, .int 0, .int 0]) : ACell), (.inr (.int, [.int 2, .int 0, .int 0]) : ACell), (.inl (0, [.ref 3, .ref 4, .ref 5, .ref 6, .ref 7]) : ACell), (.inr (.int, [.int 0, .int 2, .int 4, .int 0, .int 0, .int 0, .int 0, .int 0, .int 0, .int 0, .int 0, .int 0, .int 0, .int 0, .int 0, .int 0]) : ACell), (.inr (.int, [.int 0, .int 2, .int 4, .int 0, .int 0, .int 0, .int 0, .int 0, .int 0, .int 0, .int 0, .int 0, .int 0, .int 0, .int 0, .int 0]) : ACell), (.inr (.int, [.int 0, .int 0, .int 1, .int 0, .int 2]) : ACell), (.inr (.int, [.int 0, .int 0, .int 0, .int 0, .int 0]) : ACell), (.inr (.int, [.int 0, .int 0, .int 0, .int 0, .int 0]) : ACell), (.inr (.int, [.int 2]) : ACell), (.inr (.int, [.int 4]) : ACell)]) := by
  refine e5 ?_
  refine s5_0 ?_
  refine s5_1 rfl ?_
  refine s5_2 ?_
  refine s5_3 rfl ?_
  refine s5_6 ?_
  refine s5_7 2 rfl (by decide) rfl ?_
  refine s5_8 rfl ?_
  refine s5_9 ?_
  refine s5_10 (fun h => absurd h (by decide)) (fun _ => ?_)
  refine s5_13 ?_
  refine s5_16 ?_
  refine s5_17 rfl ?_
  refine s5_20 ?_
  refine s5_21 4 rfl (by decide) rfl ?_
  refine s5_22 rfl ?_
  refine s5_23 ?_
  refine s5_9 ?_
  refine s5_10 (fun _ => ?_) (fun h => absurd h (by decide))
  refine s5_26 ?_
  refine s5_27 9 1 (by decide) rfl rfl ?_
  refine s5_29 rfl ?_
  refine s5_30 ?_
  refine s5_31 rfl ?_
  refine s5_33 ?_
  refine s5_34 rfl ?_
  refine s5_37 ?_
  refine s5_38 2 rfl (by decide) rfl ?_
  refine s5_39 rfl ?_
  refine s5_41 ?_
  refine s5_43 (fun h => absurd h (by decide)) (fun _ => ?_)
  refine s5_46 ?_
  refine s5_47 ?_
  refine s5_49 ?_
  refine s5_51 0 rfl (by decide) rfl ?_
  refine s5_52 ?_
  refine s5_55 ?_
  refine s5_56 rfl ?_
  refine s5_59 ?_
  refine s5_61 4 rfl (by decide) rfl ?_
  refine s5_62 rfl ?_
  refine s5_64 ?_
  refine s5_41 ?_
  refine s5_43 (fun _ => ?_) (fun h => absurd h (by decide))
  refine s5_67 ?_
  exact s5_68 ⟨rfl, rfl⟩
theorem own_r50  : M6 ⟨0, 0, 0, 0⟩ [.ref 8, .ref 1, .int 1] [(.inr (.int, [.int 1, .int 0, .int 0]) : ACell), (.inr (.int, [.int 2, .int 0, .int 0]) : ACell), (.inl (0, [.ref 3, .ref 4, .ref 5, .ref 6, .ref 7]) : ACell), (.inr (.int, [.int 0, .int 2, .int 4, .int 0, .int 0, .int 0, .int 0, .int 0, .int 0, .int 0, .int 0, .int 0, .int 0, .int 0, .int 0, .int 0]) : ACell), (.inr (.int, [.int 0, .int 2, .int 4, .int 0, .int 0, .int 0, .int 0, .int 0, .int 0, .int 0, .int 0, .int 0, .int 0, .int 0, .int 0, .int 0]) : ACell), (.inr (.int, [.int 0, .int 0, .int 1, .int 0, .int 2]) : ACell), (.inr (.int, [.int 0, .int 0, .int 0, .int 0, .int 0]) : ACell), (.inr (.int, [.int 0, .int 0, .int 0, .int 0, .int 0]) : ACell), (.inr (.int, [.int 2]) : ACell), (.inr (.int, [.int 4]) : ACell)] (Is (some (.int 1)) [(.inr (.int, [.int 1, .int 0, .int 0]) : ACell), (.inr (.int, [.int 2, .int 0, .int 0]) : ACell), (.inl (0, [.ref 3, .ref 4, .ref 5, .ref 6, .ref 7]) : ACell), (.inr (.int, [.int 0, .int 2, .int 4, .int 0, .int 0, .int 0, .int 0, .int 0, .int 0, .int 0, .int 0, .int 0, .int 0, .int 0, .int 0, .int 0]) : ACell), (.inr (.int, [.int 0, .int 2, .int 4, .int 0, .int 0, .int 0, .int 0, .int 0, .int 0, .int 0, .int 0, .int 0, .int 0, .int 0, .int 0, .int 0]) : ACell), (.inr (.int, [.int 0, .int 0, .int 1, .int 0, .int 2]) : ACell), (.inr (.int, [.int 0, .int 0, .int 0, .int 0, .int 0]) : ACell), (.inr (.int, [.int 0, .int 0, .int 0, .int 0, .int 0]) : ACell), (.inr (.int, [.int 2]) : ACell), (.inr (.int, [.int 4]) : ACell)]) := by
  refine e6 ?_
  refine s6_0 ?_
  refine s6_1k 1 rfl rfl ?_
  refine s6_2 ?_
  refine s6_3 (fun h => absurd h (by decide)) (fun _ => ?_)
  refine s6_6 ?_
  refine s6_7 ?_
  refine s6_8 (fun h => absurd h (by decide)) (fun _ => ?_)
  refine s6_11 ?_
  refine s6_12 ?_
  refine s6_13 0 rfl (by decide) rfl ?_
  refine s6_14 ?_
  refine s6_15 ?_
  refine s6_16 0 rfl (by decide) rfl ?_
  refine s6_17 (fun h => absurd h (by decide)) (fun _ => ?_)
  refine s6_20 ?_
  refine s6_21 ?_
  refine s6_22 (fun _ => ?_) (fun h => absurd h (by decide))
  refine s6_34 ?_
  refine s6_35 ?_
  refine s6_36 (fun _ => ?_) (fun h => absurd h (by decide))
  refine s6_48 ?_
  refine s6_49 ?_
  exact s6_53 ⟨rfl, rfl⟩
theorem own_r51  : M1 ⟨1, 5, 47, 12⟩ [.ref 2, .int 4] [(.inr (.int, [.int 2, .int 3, .int 0]) : ACell), (.inr (.int, [.int 2, .int 3, .int 1]) : ACell), (.inl (0, [.null, .null, .null, .null, .null]) : ACell)] (Is none [(.inr (.int, [.int 2, .int 3, .int 0]) : ACell), (.inr (.int, [.int 2, .int 3, .int 1]) : ACell), (.inl (0, [.ref 3, .ref 4, .ref 5, .ref 6, .ref 7]) : ACell), (.inr (.int, [.int 0, .int 0, .int 0, .int 0, .int 0, .int 0, .int 0, .int 0, .int 0, .int 0, .int 0, .int 0, .int 0, .int 0, .int 0, .int 0]) : ACell), (.inr (.int, [.int 0, .int 0, .int 0, .int 0, .int 0, .int 0, .int 0, .int 0, .int 0, .int 0, .int 0, .int 0, .int 0, .int 0, .int 0, .int 0]) : ACell), (.inr (.int, [.int 0, .int 0, .int 0, .int 0, .int 0]) : ACell), (.inr (.int, [.int 0, .int 0, .int 0, .int 0, .int 0]) : ACell), (.inr (.int, [.int 0, .int 0, .int 0, .int 0, .int 0]) : ACell)]) := by
  refine e1 ?_
  refine s1_0 ?_
  refine s1_1 rfl ?_
  refine s1_4 ?_
  refine s1_5 ?_
  refine s1_7 3 16 (by decide) rfl rfl ?_
  refine s1_9 rfl ?_
  refine s1_12 ?_
  refine s1_13 ?_
  refine s1_15 4 16 (by decide) rfl rfl ?_
  refine s1_17 rfl ?_
  refine s1_20 ?_
  refine s1_21 ?_
  refine s1_22 ?_
  refine s1_23 ?_
  refine s1_24 5 5 (by decide) rfl rfl ?_
  refine s1_26 rfl ?_
  refine s1_29 ?_
  refine s1_30 ?_
  refine s1_31 ?_
  refine s1_32 ?_
  refine s1_33 6 5 (by decide) rfl rfl ?_
  refine s1_35 rfl ?_
  refine s1_38 ?_
  refine s1_39 ?_
  refine s1_40 ?_
  refine s1_41 ?_
  refine s1_42 7 5 (by decide) rfl rfl ?_
  refine s1_44 rfl ?_
  exact s1_47 ⟨rfl, rfl⟩
theorem own_r52  : M2 ⟨0, 0, 0, 0⟩ [.ref 2, .int 1, .int 1] [(.inr (.int, [.int 2, .int 3, .int 0]) : ACell), (.inr (.int, [.int 2, .int 3, .int 1]) : ACell), (.inl (0, [.ref 3, .ref 4, .ref 5, .ref 6, .ref 7]) : ACell), (.inr (.int, [.int 0, .int 0, .int 0, .int 0, .int 0, .int 0, .int 0, .int 0, .int 0, .int 0, .int 0, .int 0, .int 0, .int 0, .int 0, .int 0]) : ACell), (.inr (.int, [.int 0, .int 0, .int 0, .int 0, .int 0, .int 0, .int 0, .int 0, .int 0, .int 0, .int 0, .int 0, .int 0, .int 0, .int 0, .int 0]) : ACell), (.inr (.int, [.int 0, .int 0, .int 0, .int 0, .int 0]) : ACell), (.inr (.int, [.int 0, .int 0, .int 0, .int 0, .int 0]) : ACell), (.inr (.int, [.int 0, .int 0, .int 0, .int 0, .int 0]) : ACell)] (Is none [(.inr (.int, [.int 2, .int 3, .int 0]) : ACell), (.inr (.int, [.int 2, .int 3, .int 1]) : ACell), (.inl (0, [.ref 3, .ref 4, .ref 5, .ref 6, .ref 7]) : ACell), (.inr (.int, [.int 0, .int 1, .int 0, .int 0, .int 0, .int 0, .int 0, .int 0, .int 0, .int 0, .int 0, .int 0, .int 0, .int 0, .int 0, .int 0]) : ACell), (.inr (.int, [.int 0, .int 1, .int 0, .int 0, .int 0, .int 0, .int 0, .int 0, .int 0, .int 0, .int 0, .int 0, .int 0, .int 0, .int 0, .int 0]) : ACell), (.inr (.int, [.int 0, .int 1, .int 0, .int 0, .int 0]) : ACell), (.inr (.int, [.int 0, .int 0, .int 0, .int 0, .int 0]) : ACell), (.inr (.int, [.int 0, .int 0, .int 0, .int 0, .int 0]) : ACell)]) := by
  refine e2 ?_
  refine s2_0 ?_
  refine s2_1 ?_
  refine s2_2 rfl ?_
  refine s2_5k 16 rfl rfl ?_
  refine s2_6 (fun _ => ?_) (fun h => absurd h (by decide))
  refine s2_45 ?_
  refine s2_46 rfl ?_
  refine s2_49 ?_
  refine s2_50 ?_
  refine s2_51 1 rfl (by decide) rfl ?_
  refine s2_52 ?_
  refine s2_53 rfl ?_
  refine s2_56 ?_
  refine s2_57 ?_
  refine s2_58 rfl ?_
  refine s2_61 ?_
  refine s2_62 1 rfl (by decide) rfl ?_
  refine s2_63 1 rfl (by decide) rfl ?_
  refine s2_64 ?_
  refine s2_65 rfl ?_
  refine s2_68 ?_
  refine s2_69 ?_
  refine s2_70 1 rfl (by decide) rfl ?_
  refine s2_71 ?_
  refine s2_72 rfl ?_
  refine s2_75 ?_
  refine s2_76 1 rfl (by decide) rfl ?_
  refine s2_77 (fun h => absurd h (by decide)) (fun _ => ?_)
  refine s2_80 ?_
  refine s2_81 rfl ?_
  refine s2_84 ?_
  refine s2_85 ?_
  refine s2_86 1 rfl (by decide) rfl ?_
  refine s2_87 ?_
  refine s2_102 ?_
  refine s2_103 rfl ?_
  refine s2_106 ?_
  refine s2_107 ?_
  refine s2_108 1 rfl (by decide) rfl ?_
  exact s2_109 ⟨rfl, rfl⟩
theorem own_r53  : M2 ⟨0, 0, 0, 0⟩ [.ref 2, .int 2, .int 1] [(.inr (.int, [.int 2, .int 3, .int 0]) : ACell), (.inr (.int, [.int 2, .int 3, .int 1]) : ACell), (.inl (0, [.ref 3, .ref 4, .ref 5, .ref 6, .ref 7]) : ACell), (.inr (.int, [.int 0, .int 1, .int 0, .int 0, .int 0, .int 0, .int 0, .int 0, .int 0, .int 0, .int 0, .int 0, .int 0, .int 0, .int 0, .int 0]) : ACell), (.inr (.int, [.int 0, .int 1, .int 0, .int 0, .int 0, .int 0, .int 0, .int 0, .int 0, .int 0, .int 0, .int 0, .int 0, .int 0, .int 0, .int 0]) : ACell), (.inr (.int, [.int 0, .int 1, .int 0, .int 0, .int 0]) : ACell), (.inr (.int, [.int 0, .int 0, .int 0, .int 0, .int 0]) : ACell), (.inr (.int, [.int 0, .int 0, .int 0, .int 0, .int 0]) : ACell)] (Is none [(.inr (.int, [.int 2, .int 3, .int 0]) : ACell), (.inr (.int, [.int 2, .int 3, .int 1]) : ACell), (.inl (0, [.ref 3, .ref 4, .ref 5, .ref 6, .ref 7]) : ACell), (.inr (.int, [.int 0, .int 1, .int 0, .int 0, .int 0, .int 0, .int 0, .int 0, .int 0, .int 0, .int 0, .int 0, .int 0, .int 0, .int 0, .int 0]) : ACell), (.inr (.int, [.int 0, .int 2, .int 0, .int 0, .int 0, .int 0, .int 0, .int 0, .int 0, .int 0, .int 0, .int 0, .int 0, .int 0, .int 0, .int 0]) : ACell), (.inr (.int, [.int 0, .int 1, .int 1, .int 0, .int 0]) : ACell), (.inr (.int, [.int 0, .int 0, .int 1, .int 0, .int 0]) : ACell), (.inr (.int, [.int 0, .int 2, .int 0, .int 0, .int 0]) : ACell)]) := by
  refine e2 ?_
  refine s2_0 ?_
  refine s2_1 ?_
  refine s2_2 rfl ?_
  refine s2_5k 16 rfl rfl ?_
  refine s2_6 (fun _ => ?_) (fun h => absurd h (by decide))
  refine s2_45 ?_
  refine s2_46 rfl ?_
  refine s2_49 ?_
  refine s2_50 ?_
  refine s2_51 2 rfl (by decide) rfl ?_
  refine s2_52 ?_
  refine s2_53 rfl ?_
  refine s2_56 ?_
  refine s2_57 ?_
  refine s2_58 rfl ?_
  refine s2_61 ?_
  refine s2_62 1 rfl (by decide) rfl ?_
  refine s2_63 2 rfl (by decide) rfl ?_
  refine s2_64 ?_
  refine s2_65 rfl ?_
  refine s2_68 ?_
  refine s2_69 ?_
  refine s2_70 2 rfl (by decide) rfl ?_
  refine s2_71 ?_
  refine s2_72 rfl ?_
  refine s2_75 ?_
  refine s2_76 1 rfl (by decide) rfl ?_
  refine s2_77 (fun _ => ?_) (fun h => absurd h (by decide))
  refine s2_90 ?_
  refine s2_91 rfl ?_
  refine s2_94 ?_
  refine s2_95 rfl ?_
  refine s2_98 ?_
  refine s2_99 1 rfl (by decide) rfl ?_
  refine s2_100 ?_
  refine s2_101 1 rfl (by decide) rfl ?_
  refine s2_102 ?_
  refine s2_103 rfl ?_
  refine s2_106 ?_
  refine s2_107 ?_
  refine s2_108 1 rfl (by decide) rfl ?_
  exact s2_109 ⟨rfl, rfl⟩
theorem own_r54  : M2 ⟨0, 0, 0, 0⟩ [.ref 2, .int 3, .int 1] [(.inr (.int, [.int 2, .int 3, .int 0]) : ACell), (.inr (.int, [.int 2, .int 3, .int 1]) : ACell), (.inl (0, [.ref 3, .ref 4, .ref 5, .ref 6, .ref 7]) : ACell), (.inr (.int, [.int 0, .int 1, .int 0, .int 0, .int 0, .int 0, .int 0, .int 0, .int 0, .int 0, .int 0, .int 0, .int 0, .int 0, .int 0, .int 0]) : ACell), (.inr (.int, [.int 0, .int 2, .int 0, .int 0, .int 0, .int 0, .int 0, .int 0, .int 0, .int 0, .int 0, .int 0, .int 0, .int 0, .int 0, .int 0]) : ACell), (.inr (.int, [.int 0, .int 1, .int 1, .int 0, .int 0]) : ACell), (.inr (.int, [.int 0, .int 0, .int 1, .int 0, .int 0]) : ACell), (.inr (.int, [.int 0, .int 2, .int 0, .int 0, .int 0]) : ACell)] (Is none [(.inr (.int, [.int 2, .int 3, .int 0]) : ACell), (.inr (.int, [.int 2, .int 3, .int 1]) : ACell), (.inl (0, [.ref 3, .ref 4, .ref 5, .ref 6, .ref 7]) : ACell), (.inr (.int, [.int 0, .int 1, .int 0, .int 0, .int 0, .int 0, .int 0, .int 0, .int 0, .int 0, .int 0, .int 0, .int 0, .int 0, .int 0, .int 0]) : ACell), (.inr (.int, [.int 0, .int 3, .int 0, .int 0, .int 0, .int 0, .int 0, .int 0, .int 0, .int 0, .int 0, .int 0, .int 0, .int 0, .int 0, .int 0]) : ACell), (.inr (.int, [.int 0, .int 1, .int 1, .int 1, .int 0]) : ACell), (.inr (.int, [.int 0, .int 0, .int 1, .int 2, .int 0]) : ACell), (.inr (.int, [.int 0, .int 2, .int 3, .int 0, .int 0]) : ACell)]) := by
  refine e2 ?_
  refine s2_0 ?_
  refine s2_1 ?_
  refine s2_2 rfl ?_
  refine s2_5k 16 rfl rfl ?_
  refine s2_6 (fun _ => ?_) (fun h => absurd h (by decide))
  refine s2_45 ?_
  refine s2_46 rfl ?_
  refine s2_49 ?_
  refine s2_50 ?_
  refine s2_51 3 rfl (by decide) rfl ?_
  refine s2_52 ?_
  refine s2_53 rfl ?_
  refine s2_56 ?_
  refine s2_57 ?_
  refine s2_58 rfl ?_
  refine s2_61 ?_
  refine s2_62 1 rfl (by decide) rfl ?_
  refine s2_63 3 rfl (by decide) rfl ?_
  refine s2_64 ?_
  refine s2_65 rfl ?_
  refine s2_68 ?_
  refine s2_69 ?_
  refine s2_70 3 rfl (by decide) rfl ?_
  refine s2_71 ?_
  refine s2_72 rfl ?_
  refine s2_75 ?_
  refine s2_76 1 rfl (by decide) rfl ?_
  refine s2_77 (fun _ => ?_) (fun h => absurd h (by decide))
  refine s2_90 ?_
  refine s2_91 rfl ?_
  refine s2_94 ?_
  refine s2_95 rfl ?_
  refine s2_98 ?_
  refine s2_99 1 rfl (by decide) rfl ?_
  refine s2_100 ?_
  refine s2_101 2 rfl (by decide) rfl ?_
  refine s2_102 ?_
  refine s2_103 rfl ?_
  refine s2_106 ?_
  refine s2_107 ?_
  refine s2_108 1 rfl (by decide) rfl ?_
  exact s2_109 ⟨rfl, rfl⟩
theorem own_r55  : M2 ⟨0, 0, 0, 0⟩ [.ref 2, .int 4, .int 2] [(.inr (.int, [.int 2, .int 3, .int 0]) : ACell), (.inr (.int, [.int 2, .int 3, .int 1]) : ACell), (.inl (0, [.ref 3, .ref 4, .ref 5, .ref 6, .ref 7]) : ACell), (.inr (.int, [.int 0, .int 1, .int 0, .int 0, .int 0, .int 0, .int 0, .int 0, .int 0, .int 0, .int 0, .int 0, .int 0, .int 0, .int 0, .int 0]) : ACell), (.inr (.int, [.int 0, .int 3, .int 0, .int 0, .int 0, .int 0, .int 0, .int 0, .int 0, .int 0, .int 0, .int 0, .int 0, .int 0, .int 0, .int 0]) : ACell), (.inr (.int, [.int 0, .int 1, .int 1, .int 1, .int 0]) : ACell), (.inr (.int, [.int 0, .int 0, .int 1, .int 2, .int 0]) : ACell), (.inr (.int, [.int 0, .int 2, .int 3, .int 0, .int 0]) : ACell)] (Is none [(.inr (.int, [.int 2, .int 3, .int 0]) : ACell), (.inr (.int, [.int 2, .int 3, .int 1]) : ACell), (.inl (0, [.ref 3, .ref 4, .ref 5, .ref 6, .ref 7]) : ACell), (.inr (.int, [.int 0, .int 1, .int 4, .int 0, .int 0, .int 0, .int 0, .int 0, .int 0, .int 0, .int 0, .int 0, .int 0, .int 0, .int 0, .int 0]) : ACell), (.inr (.int, [.int 0, .int 3, .int 4, .int 0, .int 0, .int 0, .int 0, .int 0, .int 0, .int 0, .int 0, .int 0, .int 0, .int 0, .int 0, .int 0]) : ACell), (.inr (.int, [.int 0, .int 1, .int 1, .int 1, .int 2]) : ACell), (.inr (.int, [.int 0, .int 0, .int 1, .int 2, .int 0]) : ACell), (.inr (.int, [.int 0, .int 2, .int 3, .int 0, .int 0]) : ACell)]) := by
  refine e2 ?_
  refine s2_0 ?_
  refine s2_1 ?_
  refine s2_2 rfl ?_
  refine s2_5k 16 rfl rfl ?_
  refine s2_6 (fun _ => ?_) (fun h => absurd h (by decide))
  refine s2_45 ?_
  refine s2_46 rfl ?_
  refine s2_49 ?_
  refine s2_50 ?_
  refine s2_51 4 rfl (by decide) rfl ?_
  refine s2_52 ?_
  refine s2_53 rfl ?_
  refine s2_56 ?_
  refine s2_57 ?_
  refine s2_58 rfl ?_
  refine s2_61 ?_
  refine s2_62 2 rfl (by decide) rfl ?_
  refine s2_63 4 rfl (by decide) rfl ?_
  refine s2_64 ?_
  refine s2_65 rfl ?_
  refine s2_68 ?_
  refine s2_69 ?_
  refine s2_70 4 rfl (by decide) rfl ?_
  refine s2_71 ?_
  refine s2_72 rfl ?_
  refine s2_75 ?_
  refine s2_76 2 rfl (by decide) rfl ?_
  refine s2_77 (fun h => absurd h (by decide)) (fun _ => ?_)
  refine s2_80 ?_
  refine s2_81 rfl ?_
  refine s2_84 ?_
  refine s2_85 ?_
  refine s2_86 2 rfl (by decide) rfl ?_
  refine s2_87 ?_
  refine s2_102 ?_
  refine s2_103 rfl ?_
  refine s2_106 ?_
  refine s2_107 ?_
  refine s2_108 2 rfl (by decide) rfl ?_
  exact s2_109 ⟨rfl, rfl⟩
theorem own_r56  : M3 ⟨0, 0, 0, 0⟩ [.ref 2, .int 1] [(.inr (.int, [.int 2, .int 3, .int 0]) : ACell), (.inr (.int, [.int 2, .int 3, .int 1]) : ACell), (.inl (0, [.ref 3, .ref 4, .ref 5, .ref 6, .ref 7]) : ACell), (.inr (.int, [.int 0, .int 1, .int 4, .int 0, .int 0, .int 0, .int 0, .int 0, .int 0, .int 0, .int 0, .int 0, .int 0, .int 0, .int 0, .int 0]) : ACell), (.inr (.int, [.int 0, .int 3, .int 4, .int 0, .int 0, .int 0, .int 0, .int 0, .int 0, .int 0, .int 0, .int 0, .int 0, .int 0, .int 0, .int 0]) : ACell), (.inr (.int, [.int 0, .int 1, .int 1, .int 1, .int 2]) : ACell), (.inr (.int, [.int 0, .int 0, .int 1, .int 2, .int 0]) : ACell), (.inr (.int, [.int 0, .int 2, .int 3, .int 0, .int 0]) : ACell)] (Is none [(.inr (.int, [.int 2, .int 3, .int 0]) : ACell), (.inr (.int, [.int 2, .int 3, .int 1]) : ACell), (.inl (0, [.ref 3, .ref 4, .ref 5, .ref 6, .ref 7]) : ACell), (.inr (.int, [.int 0, .int 2, .int 4, .int 0, .int 0, .int 0, .int 0, .int 0, .int 0, .int 0, .int 0, .int 0, .int 0, .int 0, .int 0, .int 0]) : ACell), (.inr (.int, [.int 0, .int 3, .int 4, .int 0, .int 0, .int 0, .int 0, .int 0, .int 0, .int 0, .int 0, .int 0, .int 0, .int 0, .int 0, .int 0]) : ACell), (.inr (.int, [.int 0, .int 0, .int 1, .int 1, .int 2]) : ACell), (.inr (.int, [.int 0, .int 0, .int 0, .int 2, .int 0]) : ACell), (.inr (.int, [.int 0, .int 2, .int 3, .int 0, .int 0]) : ACell)]) := by
  refine e3 ?_
  refine s3_0 ?_
  refine s3_1 rfl ?_
  refine s3_4 ?_
  refine s3_5 1 rfl (by decide) rfl ?_
  refine s3_6 rfl ?_
  refine s3_7 ?_
  refine s3_8 rfl ?_
  refine s3_11 ?_
  refine s3_12 1 rfl (by decide) rfl ?_
  refine s3_13 (fun h => absurd h (by decide)) (fun _ => ?_)
  refine s3_16 ?_
  refine s3_17 rfl ?_
  refine s3_20 ?_
  refine s3_21 ?_
  refine s3_22 rfl ?_
  refine s3_25 ?_
  refine s3_26 1 rfl (by decide) rfl ?_
  refine s3_27 1 rfl (by decide) rfl ?_
  refine s3_28 ?_
  refine s3_48 ?_
  refine s3_49 rfl ?_
  refine s3_52 ?_
  refine s3_53 1 rfl (by decide) rfl ?_
  refine s3_54 (fun _ => ?_) (fun h => absurd h (by decide))
  refine s3_72 ?_
  refine s3_73 rfl ?_
  refine s3_76 ?_
  refine s3_77 rfl ?_
  refine s3_80 ?_
  refine s3_81 1 rfl (by decide) rfl ?_
  refine s3_82 ?_
  refine s3_83 rfl ?_
  refine s3_86 ?_
  refine s3_87 1 rfl (by decide) rfl ?_
  refine s3_88 2 rfl (by decide) rfl ?_
  refine s3_89 ?_
  refine s3_90 rfl ?_
  refine s3_93 ?_
  refine s3_94 ?_
  refine s3_95 1 rfl (by decide) rfl ?_
  exact s3_96 ⟨rfl, rfl⟩
theorem own_r57  : M4 ⟨0, 0, 0, 0⟩ [.ref 2, .int 1] [(.inr (.int, [.int 2, .int 3, .int 0]) : ACell), (.inr (.int, [.int 2, .int 3, .int 1]) : ACell), (.inl (0, [.ref 3, .ref 4, .ref 5, .ref 6, .ref 7]) : ACell), (.inr (.int, [.int 0, .int 2, .int 4, .int 0, .int 0, .int 0, .int 0, .int 0, .int 0, .int 0, .int 0, .int 0, .int 0, .int 0, .int 0, .int 0]) : ACell), (.inr (.int, [.int 0, .int 3, .int 4, .int 0, .int 0, .int 0, .int 0, .int 0, .int 0, .int 0, .int 0, .int 0, .int 0, .int 0, .int 0, .int 0]) : ACell), (.inr (.int, [.int 0, .int 0, .int 1, .int 1, .int 2]) : ACell), (.inr (.int, [.int 0, .int 0, .int 0, .int 2, .int 0]) : ACell), (.inr (.int, [.int 0, .int 2, .int 3, .int 0, .int 0]) : ACell)] (Is (some (.int 0)) [(.inr (.int, [.int 2, .int 3, .int 0]) : ACell), (.inr (.int, [.int 2, .int 3, .int 1]) : ACell), (.inl (0, [.ref 3, .ref 4, .ref 5, .ref 6, .ref 7]) : ACell), (.inr (.int, [.int 0, .int 2, .int 4, .int 0, .int 0, .int 0, .int 0, .int 0, .int 0, .int 0, .int 0, .int 0, .int 0, .int 0, .int 0, .int 0]) : ACell), (.inr (.int, [.int 0, .int 3, .int 4, .int 0, .int 0, .int 0, .int 0, .int 0, .int 0, .int 0, .int 0, .int 0, .int 0, .int 0, .int 0, .int 0]) : ACell), (.inr (.int, [.int 0, .int 0, .int 1, .int 1, .int 2]) : ACell), (.inr (.int, [.int 0, .int 0, .int 0, .int 2, .int 0]) : ACell), (.inr (.int, [.int 0, .int 2, .int 3, .int 0, .int 0]) : ACell)]) := by
  refine e4 ?_
  refine s4_0 ?_
  refine s4_1 rfl ?_
  refine s4_4 ?_
  refine s4_5 1 rfl (by decide) rfl ?_
  exact s4_6 ⟨rfl, rfl⟩
theorem own_r58  : M2 ⟨0, 0, 0, 0⟩ [.ref 2, .int 1, .int 1] [(.inr (.int, [.int 2, .int 3, .int 0]) : ACell), (.inr (.int, [.int 2, .int 3, .int 1]) : ACell), (.inl (0, [.ref 3, .ref 4, .ref 5, .ref 6, .ref 7]) : ACell), (.inr (.int, [.int 0, .int 2, .int 4, .int 0, .int 0, .int 0, .int 0, .int 0, .int 0, .int 0, .int 0, .int 0, .int 0, .int 0, .int 0, .int 0]) : ACell), (.inr (.int, [.int 0, .int 3, .int 4, .int 0, .int 0, .int 0, .int 0, .int 0, .int 0, .int 0, .int 0, .int 0, .int 0, .int 0, .int 0, .int 0]) : ACell), (.inr (.int, [.int 0, .int 0, .int 1, .int 1, .int 2]) : ACell), (.inr (.int, [.int 0, .int 0, .int 0, .int 2, .int 0]) : ACell), (.inr (.int, [.int 0, .int 2, .int 3, .int 0, .int 0]) : ACell)] (Is none [(.inr (.int, [.int 2, .int 3, .int 0]) : ACell), (.inr (.int, [.int 2, .int 3, .int 1]) : ACell), (.inl (0, [.ref 3, .ref 4, .ref 5, .ref 6, .ref 7]) : ACell), (.inr (.int, [.int 0, .int 2, .int 4, .int 0, .int 0, .int 0, .int 0, .int 0, .int 0, .int 0, .int 0, .int 0, .int 0, .int 0, .int 0, .int 0]) : ACell), (.inr (.int, [.int 0, .int 1, .int 4, .int 0, .int 0, .int 0, .int 0, .int 0, .int 0, .int 0, .int 0, .int 0, .int 0, .int 0, .int 0, .int 0]) : ACell), (.inr (.int, [.int 0, .int 1, .int 1, .int 1, .int 2]) : ACell), (.inr (.int, [.int 0, .int 3, .int 0, .int 2, .int 0]) : ACell), (.inr (.int, [.int 0, .int 0, .int 3, .int 1, .int 0]) : ACell)]) := by
  refine e2 ?_
  refine s2_0 ?_
  refine s2_1 ?_
  refine s2_2 rfl ?_
  refine s2_5k 16 rfl rfl ?_
  refine s2_6 (fun _ => ?_) (fun h => absurd h (by decide))
  refine s2_45 ?_
  refine s2_46 rfl ?_
  refine s2_49 ?_
  refine s2_50 ?_
  refine s2_51 1 rfl (by decide) rfl ?_
  refine s2_52 ?_
  refine s2_53 rfl ?_
  refine s2_56 ?_
  refine s2_57 ?_
  refine s2_58 rfl ?_
  refine s2_61 ?_
  refine s2_62 1 rfl (by decide) rfl ?_
  refine s2_63 1 rfl (by decide) rfl ?_
  refine s2_64 ?_
  refine s2_65 rfl ?_
  refine s2_68 ?_
  refine s2_69 ?_
  refine s2_70 1 rfl (by decide) rfl ?_
  refine s2_71 ?_
  refine s2_72 rfl ?_
  refine s2_75 ?_
  refine s2_76 1 rfl (by decide) rfl ?_
  refine s2_77 (fun _ => ?_) (fun h => absurd h (by decide))
  refine s2_90 ?_
  refine s2_91 rfl ?_
  refine s2_94 ?_
  refine s2_95 rfl ?_
  refine s2_98 ?_
  refine s2_99 1 rfl (by decide) rfl ?_
  refine s2_100 ?_
  refine s2_101 3 rfl (by decide) rfl ?_
  refine s2_102 ?_
  refine s2_103 rfl ?_
  refine s2_106 ?_
  refine s2_107 ?_
  refine s2_108 1 rfl (by decide) rfl ?_
  exact s2_109 ⟨rfl, rfl⟩
theorem own_r59  : M5 ⟨0, 1, 3, 0⟩ [.ref 2, .int 1] [(.inr (.int, [.int 2, .int 3, .int 0]) : ACell), (.inr (.int, [.int 2, .int 3, .int 1]) : ACell), (.inl (0, [.ref 3, .ref 4, .ref 5, .ref 6, .ref 7]) : ACell), (.inr (.int, [.int 0, .int 2, .int 4, .int 0, .int 0, .int 0, .int 0, .int 0, .int 0, .int 0, .int 0, .int 0, .int 0, .int 0, .int 0, .int 0]) : ACell), (.inr (.int, [.int 0, .int 1, .int 4, .int 0, .int 0, .int 0, .int 0, .int 0, .int 0, .int 0, .int 0, .int 0, .int 0, .int 0, .int 0, .int 0]) : ACell), (.inr (.int, [.int 0, .int 1, .int 1, .int 1, .int 2]) : ACell), (.inr (.int, [.int 0, .int 3, .int 0, .int 2, .int 0]) : ACell), (.inr (.int, [.int 0, .int 0, .int 3, .int 1, .int 0]) : ACell)] (Is (some (.ref 8)) [(.inr (.int, [.int 2, .int 3, .int 0]) : ACell), (.inr (.int, [.int 2, .int 3, .int 1]) : ACell), (.inl (0, [.ref 3, .ref 4, .ref 5, .ref 6, .ref 7]) : ACell), (.inr (.int, [.int 0, .int 2, .int 4, .int 0, .int 0, .int 0, .int 0, .int 0, .int 0, .int 0, .int 0, .int 0, .int 0, .int 0, .int 0, .int 0]) : ACell), (.inr (.int, [.int 0, .int 1, .int 4, .int 0, .int 0, .int 0, .int 0, .int 0, .int 0, .int 0, .int 0, .int 0, .int 0, .int 0, .int 0, .int 0]) : ACell), (.inr (.int, [.int 0, .int 1, .int 1, .int 1, .int 2]) : ACell), (.inr (.int, [.int 0, .int 3, .int 0, .int 2, .int 0]) : ACell), (.inr (.int, [.int 0, .int 0, .int 3, .int 1, .int 0]) : ACell), (.inr (.int, [.int 2, .int 3, .int 1]) : ACell)]) := by
  refine e5 ?_
  refine s5_0 ?_
  refine s5_1 rfl ?_
  refine s5_2 ?_
  refine s5_3 rfl ?_
  refine s5_6 ?_
  refine s5_7 1 rfl (by decide) rfl ?_
  refine s5_8 rfl ?_
  refine s5_9 ?_
  refine s5_10 (fun h => absurd h (by decide)) (fun _ => ?_)
  refine s5_13 ?_
  refine s5_16 ?_
  refine s5_17 rfl ?_
  refine s5_20 ?_
  refine s5_21 2 rfl (by decide) rfl ?_
  refine s5_22 rfl ?_
  refine s5_23 ?_
  refine s5_9 ?_
  refine s5_10 (fun h => absurd h (by decide)) (fun _ => ?_)
  refine s5_13 ?_
  refine s5_16 ?_
  refine s5_17 rfl ?_
  refine s5_20 ?_
  refine s5_21 3 rfl (by decide) rfl ?_
  refine s5_22 rfl ?_
  refine s5_23 ?_
  refine s5_9 ?_
  refine s5_10 (fun h => absurd h (by decide)) (fun _ => ?_)
  refine s5_13 ?_
  refine s5_16 ?_
  refine s5_17 rfl ?_
  refine s5_20 ?_
  refine s5_21 1 rfl (by decide) rfl ?_
  refine s5_22 rfl ?_
  refine s5_23 ?_
  refine s5_9 ?_
  refine s5_10 (fun _ => ?_) (fun h => absurd h (by decide))
  refine s5_26 ?_
  refine s5_27 8 3 (by decide) rfl rfl ?_
  refine s5_29 rfl ?_
  refine s5_30 ?_
  refine s5_31 rfl ?_
  refine s5_33 ?_
  refine s5_34 rfl ?_
  refine s5_37 ?_
  refine s5_38 1 rfl (by decide) rfl ?_
  refine s5_39 rfl ?_
  refine s5_41 ?_
  refine s5_43 (fun h => absurd h (by decide)) (fun _ => ?_)
  refine s5_46 ?_
  refine s5_47 ?_
  refine s5_49 ?_
  refine s5_51 0 rfl (by decide) rfl ?_
  refine s5_52 ?_
  refine s5_55 ?_
  refine s5_56 rfl ?_
  refine s5_59 ?_
  refine s5_61 2 rfl (by decide) rfl ?_
  refine s5_62 rfl ?_
  refine s5_64 ?_
  refine s5_41 ?_
  refine s5_43 (fun h => absurd h (by decide)) (fun _ => ?_)
  refine s5_46 ?_
  refine s5_47 ?_
  refine s5_49 ?_
  refine s5_51 1 rfl (by decide) rfl ?_
  refine s5_52 ?_
  refine s5_55 ?_
  refine s5_56 rfl ?_
  refine s5_59 ?_
  refine s5_61 3 rfl (by decide) rfl ?_
  refine s5_62 rfl ?_
  refine s5_64 ?_
  refine s5_41 ?_
  refine s5_43 (fun h => absurd h (by decide)) (fun _ => ?_)
  refine s5_46 ?_
  refine s5_47 ?_
  refine s5_49 ?_
  refine s5_51 2 rfl (by decide) rfl ?_
  refine s5_52 ?_
  refine s5_55 ?_
  refine s5_56 rfl ?_
  refine s5_59 ?_
  refine s5_61 1 rfl (by decide) rfl ?_
  refine s5_62 rfl ?_
  refine s5_64 ?_
  refine s5_41 ?_
  refine s5_43 (fun _ => ?_) (fun h => absurd h (by decide))
  refine s5_67 ?_
  exact s5_68 ⟨rfl, rfl⟩
theorem own_r60  : M5 ⟨0, 1, 1, 0⟩ [.ref 2, .int 2] [(.inr (.int, [.int 2, .int 3, .int 0]) : ACell), (.inr (.int, [.int 2, .int 3, .int 1]) : ACell), (.inl (0, [.ref 3, .ref 4, .ref 5, .ref 6, .ref 7]) : ACell), (.inr (.int, [.int 0, .int 2, .int 4, .int 0, .int 0, .int 0, .int 0, .int 0, .int 0, .int 0, .int 0, .int 0, .int 0, .int 0, .int 0, .int 0]) : ACell), (.inr (.int, [.int 0, .int 1, .int 4, .int 0, .int 0, .int 0, .int 0, .int 0, .int 0, .int 0, .int 0, .int 0, .int 0, .int 0, .int 0, .int 0]) : ACell), (.inr (.int, [.int 0, .int 1, .int 1, .int 1, .int 2]) : ACell), (.inr (.int, [.int 0, .int 3, .int 0, .int 2, .int 0]) : ACell), (.inr (.int, [.int 0, .int 0, .int 3, .int 1, .int 0]) : ACell), (.inr (.int, [.int 2, .int 3, .int 1]) : ACell)] (Is (some (.ref 9)) [(.inr (.int, [.int 2, .int 3, .int 0]) : ACell), (.inr (.int, [.int 2, .int 3, .int 1]) : ACell), (.inl (0, [.ref 3, .ref 4, .ref 5, .ref 6, .ref 7]) : ACell), (.inr (.int, [.int 0, .int 2, .int 4, .int 0, .int 0, .int 0, .int 0, .int 0, .int 0, .int 0, .int 0, .int 0, .int 0, .int 0, .int 0, .int 0]) : ACell), (.inr (.int, [.int 0, .int 1, .int 4, .int 0, .int 0, .int 0, .int 0, .int 0, .int 0, .int 0, .int 0, .int 0, .int 0, .int 0, .int 0, .int 0]) : ACell), (.inr (.int, [.int 0, .int 1, .int 1, .int 1, .int 2]) : ACell), (.inr (.int, [.int 0, .int 3, .int 0, .int 2, .int 0]) : ACell), (.inr (.int, [.int 0, .int 0, .int 3, .int 1, .int 0]) : ACell), (.inr (.int, [.int 2, .int 3, .int 1]) : ACell), (.inr (.int, [.int 4]) : ACell)]) := by
  refine e5 ?_
  refine s5_0 ?_
  refine s5_1 rfl ?_
  refine s5_2 ?_
  refine s5_3 rfl ?_
  refine s5_6 ?_
  refine s5_7 2 rfl (by decide) rfl ?_
  refine s5_8 rfl ?_
  refine s5_9 ?_
  refine s5_10 (fun h => absurd h (by decide)) (fun _ => ?_)
  refine s5_13 ?_
  refine s5_16 ?_
  refine s5_17 rfl ?_
  refine s5_20 ?_
  refine s5_21 4 rfl (by decide) rfl ?_
  refine s5_22 rfl ?_
  refine s5_23 ?_
  refine s5_9 ?_
  refine s5_10 (fun _ => ?_) (fun h => absurd h (by decide))
  refine s5_26 ?_
  refine s5_27 9 1 (by decide) rfl rfl ?_
  refine s5_29 rfl ?_
  refine s5_30 ?_
  refine s5_31 rfl ?_
  refine s5_33 ?_
  refine s5_34 rfl ?_
  refine s5_37 ?_
  refine s5_38 2 rfl (by decide) rfl ?_
  refine s5_39 rfl ?_
  refine s5_41 ?_
  refine s5_43 (fun h => absurd h (by decide)) (fun _ => ?_)
  refine s5_46 ?_
  refine s5_47 ?_
  refine s5_49 ?_
  refine s5_51 0 rfl (by decide) rfl ?_
  refine s5_52 ?_
  refine s5_55 ?_
  refine s5_56 rfl ?_
  refine s5_59 ?_
  refine s5_61 4 rfl (by decide) rfl ?_
  refine s5_62 rfl ?_
  refine s5_64 ?_
  refine s5_41 ?_
  refine s5_43 (fun _ => ?_) (fun h => absurd h (by decide))
  refine s5_67 ?_
  exact s5_68 ⟨rfl, rfl⟩
theorem own_r61  : M6 ⟨0, 0, 0, 0⟩ [.ref 8, .ref 1, .int 3] [(.inr (.int, [.int 2, .int 3, .int 0]) : ACell), (.inr (.int, [.int 2, .int 3, .int 1]) : ACell), (.inl (0, [.ref 3, .ref 4, .ref 5, .ref 6, .ref 7]) : ACell), (.inr (.int, [.int 0, .int 2, .int 4, .int 0, .int 0, .int 0, .int 0, .int 0, .int 0, .int 0, .int 0, .int 0, .int 0, .int 0, .int 0, .int 0]) : ACell), (.inr (.int, [.int 0, .int 1, .int 4, .int 0, .int 0, .int 0, .int 0, .int 0, .int 0, .int 0, .int 0, .int 0, .int 0, .int 0, .int 0, .int 0]) : ACell), (.inr (.int, [.int 0, .int 1, .int 1, .int 1, .int 2]) : ACell), (.inr (.int, [.int 0, .int 3, .int 0, .int 2, .int 0]) : ACell), (.inr (.int, [.int 0, .int 0, .int 3, .int 1, .int 0]) : ACell), (.inr (.int, [.int 2, .int 3, .int 1]) : ACell), (.inr (.int, [.int 4]) : ACell)] (Is (some (.int 1)) [(.inr (.int, [.int 2, .int 3, .int 0]) : ACell), (.inr (.int, [.int 2, .int 3, .int 1]) : ACell), (.inl (0, [.ref 3, .ref 4, .ref 5, .ref 6, .ref 7]) : ACell), (.inr (.int, [.int 0, .int 2, .int 4, .int 0, .int 0, .int 0, .int 0, .int 0, .int 0, .int 0, .int 0, .int 0, .int 0, .int 0, .int 0, .int 0]) : ACell), (.inr (.int, [.int 0, .int 1, .int 4, .int 0, .int 0, .int 0, .int 0, .int 0, .int 0, .int 0, .int 0, .int 0, .int 0, .int 0, .int 0, .int 0]) : ACell), (.inr (.int, [.int 0, .int 1, .int 1, .int 1, .int 2]) : ACell), (.inr (.int, [.int 0, .int 3, .int 0, .int 2, .int 0]) : ACell), (.inr (.int, [.int 0, .int 0, .int 3, .int 1, .int 0]) : ACell), (.inr (.int, [.int 2, .int 3, .int 1]) : ACell), (.inr (.int, [.int 4]) : ACell)]) := by
  refine e6 ?_
  refine s6_0 ?_
  refine s6_1k 3 rfl rfl ?_
  refine s6_2 ?_
  refine s6_3 (fun h => absurd h (by decide)) (fun _ => ?_)
  refine s6_6 ?_
  refine s6_7 ?_
  refine s6_8 (fun h => absurd h (by decide)) (fun _ => ?_)
  refine s6_11 ?_
  refine s6_12 ?_
  refine s6_13 0 rfl (by decide) rfl ?_
  refine s6_14 ?_
  refine s6_15 ?_
  refine s6_16 0 rfl (by decide) rfl ?_
  refine s6_17 (fun h => absurd h (by decide)) (fun _ => ?_)
  refine s6_20 ?_
  refine s6_21 ?_
  refine s6_22 (fun h => absurd h (by decide)) (fun _ => ?_)
  refine s6_25 ?_
  refine s6_26 ?_
  refine s6_27 1 rfl (by decide) rfl ?_
  refine s6_28 ?_
  refine s6_29 ?_
  refine s6_30 1 rfl (by decide) rfl ?_
  refine s6_31 (fun h => absurd h (by decide)) (fun _ => ?_)
  refine s6_34 ?_
  refine s6_35 ?_
  refine s6_36 (fun h => absurd h (by decide)) (fun _ => ?_)
  refine s6_39 ?_
  refine s6_40 ?_
  refine s6_41 2 rfl (by decide) rfl ?_
  refine s6_42 ?_
  refine s6_43 ?_
  refine s6_44 2 rfl (by decide) rfl ?_
  refine s6_45 (fun h => absurd h (by decide)) (fun _ => ?_)
  refine s6_48 ?_
  refine s6_49 ?_
  exact s6_53 ⟨rfl, rfl⟩
theorem own_r62  : M1 ⟨1, 5, 47, 12⟩ [.ref 2, .int 4] [(.inr (.int, [.int 2, .int 3, .int 0]) : ACell), (.inr (.int, [.int 3, .int 1, .int 0]) : ACell), (.inl (0, [.null, .null, .null, .null, .null]) : ACell)] (Is none [(.inr (.int, [.int 2, .int 3, .int 0]) : ACell), (.inr (.int, [.int 3, .int 1, .int 0]) : ACell), (.inl (0, [.ref 3, .ref 4, .ref 5, .ref 6, .ref 7]) : ACell), (.inr (.int, [.int 0, .int 0, .int 0, .int 0, .int 0, .int 0, .int 0, .int 0, .int 0, .int 0, .int 0, .int 0, .int 0, .int 0, .int 0, .int 0]) : ACell), (.inr (.int, [.int 0, .int 0, .int 0, .int 0, .int 0, .int 0, .int 0, .int 0, .int 0, .int 0, .int 0, .int 0, .int 0, .int 0, .int 0, .int 0]) : ACell), (.inr (.int, [.int 0, .int 0, .int 0, .int 0, .int 0]) : ACell), (.inr (.int, [.int 0, .int 0, .int 0, .int 0, .int 0]) : ACell), (.inr (.int, [.int 0, .int 0, .int 0, .int 0, .int 0]) : ACell)]) := by
  refine e1 ?_
  refine s1_0 ?_
  refine s1_1 rfl ?_
  refine s1_4 ?_
  refine s1_5 ?_
  refine s1_7 3 16 (by decide) rfl rfl ?_
  refine s1_9 rfl ?_
  refine s1_12 ?_
  refine s1_13 ?_
  refine s1_15 4 16 (by decide) rfl rfl ?_
  refine s1_17 rfl ?_
  refine s1_20 ?_
  refine s1_21 ?_
  refine s1_22 ?_
  refine s1_23 ?_
  refine s1_24 5 5 (by decide) rfl rfl ?_
  refine s1_26 rfl ?_
  refine s1_29 ?_
  refine s1_30 ?_
  refine s1_31 ?_
  refine s1_32 ?_
  refine s1_33 6 5 (by decide) rfl rfl ?_
  refine s1_35 rfl ?_
  refine s1_38 ?_
  refine s1_39 ?_
  refine s1_40 ?_
  refine s1_41 ?_
  refine s1_42 7 5 (by decide) rfl rfl ?_
  refine s1_44 rfl ?_
  exact s1_47 ⟨rfl, rfl⟩
theorem own_r63  : M2 ⟨0, 0, 0, 0⟩ [.ref 2, .int 1, .int 1] [(.inr (.int, [.int 2, .int 3, .int 0]) : ACell), (.inr (.int, [.int 3, .int 1, .int 0]) : ACell), (.inl (0, [.ref 3, .ref 4, .ref 5, .ref 6, .ref 7]) : ACell), (.inr (.int, [.int 0, .int 0, .int 0, .int 0, .int 0, .int 0, .int 0, .int 0, .int 0, .int 0, .int 0, .int 0, .int 0, .int 0, .int 0, .int 0]) : ACell), (.inr (.int, [.int 0, .int 0, .int 0, .int 0, .int 0, .int 0, .int 0, .int 0, .int 0, .int 0, .int 0, .int 0, .int 0, .int 0, .int 0, .int 0]) : ACell), (.inr (.int, [.int 0, .int 0, .int 0, .int 0, .int 0]) : ACell), (.inr (.int, [.int 0, .int 0, .int 0, .int 0, .int 0]) : ACell), (.inr (.int, [.int 0, .int 0, .int 0, .int 0, .int 0]) : ACell)] (Is none [(.inr (.int, [.int 2, .int 3, .int 0]) : ACell), (.inr (.int, [.int 3, .int 1, .int 0]) : ACell), (.inl (0, [.ref 3, .ref 4, .ref 5, .ref 6, .ref 7]) : ACell), (.inr (.int, [.int 0, .int 1, .int 0, .int 0, .int 0, .int 0, .int 0, .int 0, .int 0, .int 0, .int 0, .int 0, .int 0, .int 0, .int 0, .int 0]) : ACell), (.inr (.int, [.int 0, .int 1, .int 0, .int 0, .int 0, .int 0, .int 0, .int 0, .int 0, .int 0, .int 0, .int 0, .int 0, .int 0, .int 0, .int 0]) : ACell), (.inr (.int, [.int 0, .int 1, .int 0, .int 0, .int 0]) : ACell), (.inr (.int, [.int 0, .int 0, .int 0, .int 0, .int 0]) : ACell), (.inr (.int, [.int 0, .int 0, .int 0, .int 0, .int 0]) : ACell)]) := by
  refine e2 ?_
  refine s2_0 ?_
  refine s2_1 ?_
  refine s2_2 rfl ?_
  refine s2_5k 16 rfl rfl ?_
  refine s2_6 (fun _ => ?_) (fun h => absurd h (by decide))
  refine s2_45 ?_
  refine s2_46 rfl ?_
  refine s2_49 ?_
  refine s2_50 ?_
  refine s2_51 1 rfl (by decide) rfl ?_
  refine s2_52 ?_
  refine s2_53 rfl ?_
  refine s2_56 ?_
  refine s2_57 ?_
  refine s2_58 rfl ?_
  refine s2_61 ?_
  refine s2_62 1 rfl (by decide) rfl ?_
  refine s2_63 1 rfl (by decide) rfl ?_
  refine s2_64 ?_
  refine s2_65 rfl ?_
  refine s2_68 ?_
  refine s2_69 ?_
  refine s2_70 1 rfl (by decide) rfl ?_
  refine s2_71 ?_
  refine s2_72 rfl ?_
  refine s2_75 ?_
  refine s2_76 1 rfl (by decide) rfl ?_
  refine s2_77 (fun h => absurd h (by decide)) (fun _ => ?_)
  refine s2_80 ?_
  refine s2_81 rfl ?_
  refine s2_84 ?_
  refine s2_85 ?_
  refine s2_86 1 rfl (by decide) rfl ?_
  refine s2_87 ?_
  refine s2_102 ?_
  refine s2_103 rfl ?_
  refine s2_106 ?_
  refine s2_107 ?_
  refine s2_108 1 rfl (by decide) rfl ?_
  exact s2_109 ⟨rfl, rfl⟩
theorem own_r64  : M2 ⟨0, 0, 0, 0⟩ [.ref 2, .int 2, .int 1] [(.inr (.int, [.int 2, .int 3, .int 0]) : ACell), (.inr (.int, [.int 3, .int 1, .int 0]) : ACell), (.inl (0, [.ref 3, .ref 4, .ref 5, .ref 6, .ref 7]) : ACell), (.inr (.int, [.int 0, .int 1, .int 0, .int 0, .int 0, .int 0, .int 0, .int 0, .int 0, .int 0, .int 0, .int 0, .int 0, .int 0, .int 0, .int 0]) : ACell), (.inr (.int, [.int 0, .int 1, .int 0, .int 0, .int 0, .int 0, .int 0, .int 0, .int 0, .int 0, .int 0, .int 0, .int 0, .int 0, .int 0, .int 0]) : ACell), (.inr (.int, [.int 0, .int 1, .int 0, .int 0, .int 0]) : ACell), (.inr (.int, [.int 0, .int 0, .int 0, .int 0, .int 0]) : ACell), (.inr (.int, [.int 0, .int 0, .int 0, .int 0, .int 0]) : ACell)] (Is none [(.inr (.int, [.int 2, .int 3, .int 0]) : ACell), (.inr (.int, [.int 3, .int 1, .int 0]) : ACell), (.inl (0, [.ref 3, .ref 4, .ref 5, .ref 6, .ref 7]) : ACell), (.inr (.int, [.int 0, .int 1, .int 0, .int 0, .int 0, .int 0, .int 0, .int 0, .int 0, .int 0, .int 0, .int 0, .int 0, .int 0, .int 0, .int 0]) : ACell), (.inr (.int, [.int 0, .int 2, .int 0, .int 0, .int 0, .int 0, .int 0, .int 0, .int 0, .int 0, .int 0, .int 0, .int 0, .int 0, .int 0, .int 0]) : ACell), (.inr (.int, [.int 0, .int 1, .int 1, .int 0, .int 0]) : ACell), (.inr (.int, [.int 0, .int 0, .int 1, .int 0, .int 0]) : ACell), (.inr (.int, [.int 0, .int 2, .int 0, .int 0, .int 0]) : ACell)]) := by
  refine e2 ?_
  refine s2_0 ?_
  refine s2_1 ?_
  refine s2_2 rfl ?_
  refine s2_5k 16 rfl rfl ?_
  refine s2_6 (fun _ => ?_) (fun h => absurd h (by decide))
  refine s2_45 ?_
  refine s2_46 rfl ?_
  refine s2_49 ?_
  refine s2_50 ?_
  refine s2_51 2 rfl (by decide) rfl ?_
  refine s2_52 ?_
  refine s2_53 rfl ?_
  refine s2_56 ?_
  refine s2_57 ?_
  refine s2_58 rfl ?_
  refine s2_61 ?_
  refine s2_62 1 rfl (by decide) rfl ?_
  refine s2_63 2 rfl (by decide) rfl ?_
  refine s2_64 ?_
  refine s2_65 rfl ?_
  refine s2_68 ?_
  refine s2_69 ?_
  refine s2_70 2 rfl (by decide) rfl ?_
  refine s2_71 ?_
  refine s2_72 rfl ?_
  refine s2_75 ?_
  refine s2_76 1 rfl (by decide) rfl ?_
  refine s2_77 (fun _ => ?_) (fun h => absurd h (by decide))
  refine s2_90 ?_
  refine s2_91 rfl ?_
  refine s2_94 ?_
  refine s2_95 rfl ?_
  refine s2_98 ?_
  refine s2_99 1 rfl (by decide) rfl ?_
  refine s2_100 ?_
  refine s2_101 1 rfl (by decide) rfl ?_
  refine s2_102 ?_
  refine s2_103 rfl ?_
  refine s2_106 ?_
  refine s2_107 ?_
  refine s2_108 1 rfl (by decide) rfl ?_
  exact s2_109 ⟨rfl, rfl⟩
theorem own_r65  : M2 ⟨0, 0, 0, 0⟩ [.ref 2, .int 3, .int 1] [(.inr (.int, [.int 2, .int 3, .int 0]) : ACell), (.inr (.int, [.int 3, .int 1, .int 0]) : ACell), (.inl (0, [.ref 3, .ref 4, .ref 5, .ref 6, .ref 7]) : ACell), (.inr (.int, [.int 0, .int 1, .int 0, .int 0, .int 0, .int 0, .int 0, .int 0, .int 0, .int 0, .int 0, .int 0, .int 0, .int 0, .int 0, .int 0]) : ACell), (.inr (.int, [.int 0, .int 2, .int 0, .int 0, .int 0, .int 0, .int 0, .int 0, .int 0, .int 0, .int 0, .int 0, .int 0, .int 0, .int 0, .int 0]) : ACell), (.inr (.int, [.int 0, .int 1, .int 1, .int 0, .int 0]) : ACell), (.inr (.int, [.int 0, .int 0, .int 1, .int 0, .int 0]) : ACell), (.inr (.int, [.int 0, .int 2, .int 0, .int 0, .int 0]) : ACell)] (Is none [(.inr (.int, [.int 2, .int 3, .int 0]) : ACell), (.inr (.int, [.int 3, .int 1, .int 0]) : ACell), (.inl (0, [.ref 3, .ref 4, .ref 5, .ref 6, .ref 7]) : ACell), (.inr (.int, [.int 0, .int 1, .int 0, .int 0, .int 0, .int 0, .int 0, .int 0, .int 0, .int 0, .int 0, .int 0, .int 0, .int 0, .int 0, .int 0]) : ACell), (.inr (.int, [.int 0, .int 3, .int 0, .int 0, .int 0, .int 0, .int 0, .int 0, .int 0, .int 0, .int 0, .int 0, .int 0, .int 0, .int 0, .int 0]) : ACell), (.inr (.int, [.int 0, .int 1, .int 1, .int 1, .int 0]) : ACell), (.inr (.int, [.int 0, .int 0, .int 1, .int 2, .int 0]) : ACell), (.inr (.int, [.int 0, .int 2, .int 3, .int 0, .int 0]) : ACell)]) := by
  refine e2 ?_
  refine s2_0 ?_
  refine s2_1 ?_
  refine s2_2 rfl ?_
  refine s2_5k 16 rfl rfl ?_
  refine s2_6 (fun _ => ?_) (fun h => absurd h (by decide))
  refine s2_45 ?_
  refine s2_46 rfl ?_
  refine s2_49 ?_
  refine s2_50 ?_
  refine s2_51 3 rfl (by decide) rfl ?_
  refine s2_52 ?_
  refine s2_53 rfl ?_
  refine s2_56 ?_
  refine s2_57 ?_
  refine s2_58 rfl ?_
  refine s2_61 ?_
  refine s2_62 1 rfl (by decide) rfl ?_
  refine s2_63 3 rfl (by decide) rfl ?_
  refine s2_64 ?_
  refine s2_65 rfl ?_
  refine s2_68 ?_
  refine s2_69 ?_
  refine s2_70 3 rfl (by decide) rfl ?_
  refine s2_71 ?_
  refine s2_72 rfl ?_
  refine s2_75 ?_
  refine s2_76 1 rfl (by decide) rfl ?_
  refine s2_77 (fun _ => ?_) (fun h => absurd h (by decide))
  refine s2_90 ?_
  refine s2_91 rfl ?_
  refine s2_94 ?_
  refine s2_95 rfl ?_
  refine s2_98 ?_
  refine s2_99 1 rfl (by decide) rfl ?_
  refine s2_100 ?_
  refine s2_101 2 rfl (by decide) rfl ?_
  refine s2_102 ?_
  refine s2_103 rfl ?_
  refine s2_106 ?_
  refine s2_107 ?_
  refine s2_108 1 rfl (by decide) rfl ?_
  exact s2_109 ⟨rfl, rfl⟩
theorem own_r66  : M2 ⟨0, 0, 0, 0⟩ [.ref 2, .int 4, .int 2] [(.inr (.int, [.int 2, .int 3, .int 0]) : ACell), (.inr (.int, [.int 3, .int 1, .int 0]) : ACell), (.inl (0, [.ref 3, .ref 4, .ref 5, .ref 6, .ref 7]) : ACell), (.inr (.int, [.int 0, .int 1, .int 0, .int 0, .int 0, .int 0, .int 0, .int 0, .int 0, .int 0, .int 0, .int 0, .int 0, .int 0, .int 0, .int 0]) : ACell), (.inr (.int, [.int 0, .int 3, .int 0, .int 0, .int 0, .int 0, .int 0, .int 0, .int 0, .int 0, .int 0, .int 0, .int 0, .int 0, .int 0, .int 0]) : ACell), (.inr (.int, [.int 0, .int 1, .int 1, .int 1, .int 0]) : ACell), (.inr (.int, [.int 0, .int 0, .int 1, .int 2, .int 0]) : ACell), (.inr (.int, [.int 0, .int 2, .int 3, .int 0, .int 0]) : ACell)] (Is none [(.inr (.int, [.int 2, .int 3, .int 0]) : ACell), (.inr (.int, [.int 3, .int 1, .int 0]) : ACell), (.inl (0, [.ref 3, .ref 4, .ref 5, .ref 6, .ref 7]) : ACell), (.inr (.int, [.int 0, .int 1, .int 4, .int 0, .int 0, .int 0, .int 0, .int 0, .int 0, .int 0, .int 0, .int 0, .int 0, .int 0, .int 0, .int 0]) : ACell), (.inr (.int, [.int 0, .int 3, .int 4, .int 0, .int 0, .int 0, .int 0, .int 0, .int 0, .int 0, .int 0, .int 0, .int 0, .int 0, .int 0, .int 0]) : ACell), (.inr (.int, [.int 0, .int 1, .int 1, .int 1, .int 2]) : ACell), (.inr (.int, [.int 0, .int 0, .int 1, .int 2, .int 0]) : ACell), (.inr (.int, [.int 0, .int 2, .int 3, .int 0, .int 0]) : ACell)]) := by
  refine e2 ?_
  refine s2_0 ?_
  refine s2_1 ?_
  refine s2_2 rfl ?_
  refine s2_5k 16 rfl rfl ?_
  refine s2_6 (fun _ => ?_) (fun h => absurd h (by decide))
  refine s2_45 ?_
  refine s2_46 rfl ?_
  refine s2_49 ?_
  refine s2_50 ?_
  refine s2_51 4 rfl (by decide) rfl ?_
  refine s2_52 ?_
  refine s2_53 rfl ?_
  refine s2_56 ?_
  refine s2_57 ?_
  refine s2_58 rfl ?_
  refine s2_61 ?_
  refine s2_62 2 rfl (by decide) rfl ?_
  refine s2_63 4 rfl (by decide) rfl ?_
  refine s2_64 ?_
  refine s2_65 rfl ?_
  refine s2_68 ?_
  refine s2_69 ?_
  refine s2_70 4 rfl (by decide) rfl ?_
  refine s2_71 ?_
  refine s2_72 rfl ?_
  refine s2_75 ?_
  refine s2_76 2 rfl (by decide) rfl ?_
  refine s2_77 (fun h => absurd h (by decide)) (fun _ => ?_)
  refine s2_80 ?_
  refine s2_81 rfl ?_
  refine s2_84 ?_
  refine s2_85 ?_
  refine s2_86 2 rfl (by decide) rfl ?_
  refine s2_87 ?_
  refine s2_102 ?_
  refine s2_103 rfl ?_
  refine s2_106 ?_
  refine s2_107 ?_
  refine s2_108 2 rfl (by decide) rfl ?_
  exact s2_109 ⟨rfl, rfl⟩
theorem own_r67  : M3 ⟨0, 0, 0, 0⟩ [.ref 2, .int 1] [(.inr (.int, [.int 2, .int 3, .int 0]) : ACell), (.inr (.int, [.int 3, .int 1, .int 0]) : ACell), (.inl (0, [.ref 3, .ref 4, .ref 5, .ref 6, .ref 7]) : ACell), (.inr (.int, [.int 0, .int 1, .int 4, .int 0, .int 0, .int 0, .int 0, .int 0, .int 0, .int 0, .int 0, .int 0, .int 0, .int 0, .int 0, .int 0]) : ACell), (.inr (.int, [.int 0, .int 3, .int 4, .int 0, .int 0, .int 0, .int 0, .int 0, .int 0, .int 0, .int 0, .int 0, .int 0, .int 0, .int 0, .int 0]) : ACell), (.inr (.int, [.int 0, .int 1, .int 1, .int 1, .int 2]) : ACell), (.inr (.int, [.int 0, .int 0, .int 1, .int 2, .int 0]) : ACell), (.inr (.int, [.int 0, .int 2, .int 3, .int 0, .int 0]) : ACell)] (Is none [(.inr (.int, [.int 2, .int 3, .int 0]) : ACell), (.inr (.int, [.int 3, .int 1, .int 0]) : ACell), (.inl (0, [.ref 3, .ref 4, .ref 5, .ref 6, .ref 7]) : ACell), (.inr (.int, [.int 0, .int 2, .int 4, .int 0, .int 0, .int 0, .int 0, .int 0, .int 0, .int 0, .int 0, .int 0, .int 0, .int 0, .int 0, .int 0]) : ACell), (.inr (.int, [.int 0, .int 3, .int 4, .int 0, .int 0, .int 0, .int 0, .int 0, .int 0, .int 0, .int 0, .int 0, .int 0, .int 0, .int 0, .int 0]) : ACell), (.inr (.int, [.int 0, .int 0, .int 1, .int 1, .int 2]) : ACell), (.inr (.int, [.int 0, .int 0, .int 0, .int 2, .int 0]) : ACell), (.inr (.int, [.int 0, .int 2, .int 3, .int 0, .int 0]) : ACell)]) := by
  refine e3 ?_
  refine s3_0 ?_
  refine s3_1 rfl ?_
  refine s3_4 ?_
  refine s3_5 1 rfl (by decide) rfl ?_
  refine s3_6 rfl ?_
  refine s3_7 ?_
  refine s3_8 rfl ?_
  refine s3_11 ?_
  refine s3_12 1 rfl (by decide) rfl ?_
  refine s3_13 (fun h => absurd h (by decide)) (fun _ => ?_)
  refine s3_16 ?_
  refine s3_17 rfl ?_
  refine s3_20 ?_
  refine s3_21 ?_
  refine s3_22 rfl ?_
  refine s3_25 ?_
  refine s3_26 1 rfl (by decide) rfl ?_
  refine s3_27 1 rfl (by decide) rfl ?_
  refine s3_28 ?_
  refine s3_48 ?_
  refine s3_49 rfl ?_
  refine s3_52 ?_
  refine s3_53 1 rfl (by decide) rfl ?_
  refine s3_54 (fun _ => ?_) (fun h => absurd h (by decide))
  refine s3_72 ?_
  refine s3_73 rfl ?_
  refine s3_76 ?_
  refine s3_77 rfl ?_
  refine s3_80 ?_
  refine s3_81 1 rfl (by decide) rfl ?_
  refine s3_82 ?_
  refine s3_83 rfl ?_
  refine s3_86 ?_
  refine s3_87 1 rfl (by decide) rfl ?_
  refine s3_88 2 rfl (by decide) rfl ?_
  refine s3_89 ?_
  refine s3_90 rfl ?_
  refine s3_93 ?_
  refine s3_94 ?_
  refine s3_95 1 rfl (by decide) rfl ?_
  exact s3_96 ⟨rfl, rfl⟩
theorem own_r68  : M4 ⟨0, 0, 0, 0⟩ [.ref 2, .int 1] [(.inr (.int, [.int 2, .int 3, .int 0]) : ACell), (.inr (.int, [.int 3, .int 1, .int 0]) : ACell), (.inl (0, [.ref 3, .ref 4, .ref 5, .ref 6, .ref 7]) : ACell), (.inr (.int, [.int 0, .int 2, .int 4, .int 0, .int 0, .int 0, .int 0, .int 0, .int 0, .int 0, .int 0, .int 0, .int 0, .int 0, .int 0, .int 0]) : ACell), (.inr (.int, [.int 0, .int 3, .int 4, .int 0, .int 0, .int 0, .int 0, .int 0, .int 0, .int 0, .int 0, .int 0, .int 0, .int 0, .int 0, .int 0]) : ACell), (.inr (.int, [.int 0, .int 0, .int 1, .int 1, .int 2]) : ACell), (.inr (.int, [.int 0, .int 0, .int 0, .int 2, .int 0]) : ACell), (.inr (.int, [.int 0, .int 2, .int 3, .int 0, .int 0]) : ACell)] (Is (some (.int 0)) [(.inr (.int, [.int 2, .int 3, .int 0]) : ACell), (.inr (.int, [.int 3, .int 1, .int 0]) : ACell), (.inl (0, [.ref 3, .ref 4, .ref 5, .ref 6, .ref 7]) : ACell), (.inr (.int, [.int 0, .int 2, .int 4, .int 0, .int 0, .int 0, .int 0, .int 0, .int 0, .int 0, .int 0, .int 0, .int 0, .int 0, .int 0, .int 0]) : ACell), (.inr (.int, [.int 0, .int 3, .int 4, .int 0, .int 0, .int 0, .int 0, .int 0, .int 0, .int 0, .int 0, .int 0, .int 0, .int 0, .int 0, .int 0]) : ACell), (.inr (.int, [.int 0, .int 0, .int 1, .int 1, .int 2]) : ACell), (.inr (.int, [.int 0, .int 0, .int 0, .int 2, .int 0]) : ACell), (.inr (.int, [.int 0, .int 2, .int 3, .int 0, .int 0]) : ACell)]) := by
  refine e4 ?_
  refine s4_0 ?_
  refine s4_1 rfl ?_
  refine s4_4 ?_
  refine s4_5 1 rfl (by decide) rfl ?_
  exact s4_6 ⟨rfl, rfl⟩
theorem own_r69  : M3 ⟨0, 0, 0, 0⟩ [.ref 2, .int 2] [(.inr (.int, [.int 2, .int 3, .int 0]) : ACell), (.inr (.int, [.int 3, .int 1, .int 0]) : ACell), (.inl (0, [.ref 3, .ref 4, .ref 5, .ref 6, .ref 7]) : ACell), (.inr (.int, [.int 0, .int 2, .int 4, .int 0, .int 0, .int 0, .int 0, .int 0, .int 0, .int 0, .int 0, .int 0, .int 0, .int 0, .int 0, .int 0]) : ACell), (.inr (.int, [.int 0, .int 3, .int 4, .int 0, .int 0, .int 0, .int 0, .int 0, .int 0, .int 0, .int 0, .int 0, .int 0, .int 0, .int 0, .int 0]) : ACell), (.inr (.int, [.int 0, .int 0, .int 1, .int 1, .int 2]) : ACell), (.inr (.int, [.int 0, .int 0, .int 0, .int 2, .int 0]) : ACell), (.inr (.int, [.int 0, .int 2, .int 3, .int 0, .int 0]) : ACell)] (Is none [(.inr (.int, [.int 2, .int 3, .int 0]) : ACell), (.inr (.int, [.int 3, .int 1, .int 0]) : ACell), (.inl (0, [.ref 3, .ref 4, .ref 5, .ref 6, .ref 7]) : ACell), (.inr (.int, [.int 0, .int 3, .int 4, .int 0, .int 0, .int 0, .int 0, .int 0, .int 0, .int 0, .int 0, .int 0, .int 0, .int 0, .int 0, .int 0]) : ACell), (.inr (.int, [.int 0, .int 3, .int 4, .int 0, .int 0, .int 0, .int 0, .int 0, .int 0, .int 0, .int 0, .int 0, .int 0, .int 0, .int 0, .int 0]) : ACell), (.inr (.int, [.int 0, .int 0, .int 0, .int 1, .int 2]) : ACell), (.inr (.int, [.int 0, .int 0, .int 0, .int 0, .int 0]) : ACell), (.inr (.int, [.int 0, .int 2, .int 3, .int 0, .int 0]) : ACell)]) := by
  refine e3 ?_
  refine s3_0 ?_
  refine s3_1 rfl ?_
  refine s3_4 ?_
  refine s3_5 2 rfl (by decide) rfl ?_
  refine s3_6 rfl ?_
  refine s3_7 ?_
  refine s3_8 rfl ?_
  refine s3_11 ?_
  refine s3_12 2 rfl (by decide) rfl ?_
  refine s3_13 (fun h => absurd h (by decide)) (fun _ => ?_)
  refine s3_16 ?_
  refine s3_17 rfl ?_
  refine s3_20 ?_
  refine s3_21 ?_
  refine s3_22 rfl ?_
  refine s3_25 ?_
  refine s3_26 2 rfl (by decide) rfl ?_
  refine s3_27 1 rfl (by decide) rfl ?_
  refine s3_28 ?_
  refine s3_48 ?_
  refine s3_49 rfl ?_
  refine s3_52 ?_
  refine s3_53 2 rfl (by decide) rfl ?_
  refine s3_54 (fun _ => ?_) (fun h => absurd h (by decide))
  refine s3_72 ?_
  refine s3_73 rfl ?_
  refine s3_76 ?_
  refine s3_77 rfl ?_
  refine s3_80 ?_
  refine s3_81 2 rfl (by decide) rfl ?_
  refine s3_82 ?_
  refine s3_83 rfl ?_
  refine s3_86 ?_
  refine s3_87 2 rfl (by decide) rfl ?_
  refine s3_88 3 rfl (by decide) rfl ?_
  refine s3_89 ?_
  refine s3_90 rfl ?_
  refine s3_93 ?_
  refine s3_94 ?_
  refine s3_95 2 rfl (by decide) rfl ?_
  exact s3_96 ⟨rfl, rfl⟩
theorem own_r70  : M2 ⟨0, 0, 0, 0⟩ [.ref 2, .int 1, .int 1] [(.inr (.int, [.int 2, .int 3, .int 0]) : ACell), (.inr (.int, [.int 3, .int 1, .int 0]) : ACell), (.inl (0, [.ref 3, .ref 4, .ref 5, .ref 6, .ref 7]) : ACell), (.inr (.int, [.int 0, .int 3, .int 4, .int 0, .int 0, .int 0, .int 0, .int 0, .int 0, .int 0, .int 0, .int 0, .int 0, .int 0, .int 0, .int 0]) : ACell), (.inr (.int, [.int 0, .int 3, .int 4, .int 0, .int 0, .int 0, .int 0, .int 0, .int 0, .int 0, .int 0, .int 0, .int 0, .int 0, .int 0, .int 0]) : ACell), (.inr (.int, [.int 0, .int 0, .int 0, .int 1, .int 2]) : ACell), (.inr (.int, [.int 0, .int 0, .int 0, .int 0, .int 0]) : ACell), (.inr (.int, [.int 0, .int 2, .int 3, .int 0, .int 0]) : ACell)] (Is none [(.inr (.int, [.int 2, .int 3, .int 0]) : ACell), (.inr (.int, [.int 3, .int 1, .int 0]) : ACell), (.inl (0, [.ref 3, .ref 4, .ref 5, .ref 6, .ref 7]) : ACell), (.inr (.int, [.int 0, .int 3, .int 4, .int 0, .int 0, .int 0, .int 0, .int 0, .int 0, .int 0, .int 0, .int 0, .int 0, .int 0, .int 0, .int 0]) : ACell), (.inr (.int, [.int 0, .int 1, .int 4, .int 0, .int 0, .int 0, .int 0, .int 0, .int 0, .int 0, .int 0, .int 0, .int 0, .int 0, .int 0, .int 0]) : ACell), (.inr (.int, [.int 0, .int 1, .int 0, .int 1, .int 2]) : ACell), (.inr (.int, [.int 0, .int 3, .int 0, .int 0, .int 0]) : ACell), (.inr (.int, [.int 0, .int 0, .int 3, .int 1, .int 0]) : ACell)]) := by
  refine e2 ?_
  refine s2_0 ?_
  refine s2_1 ?_
  refine s2_2 rfl ?_
  refine s2_5k 16 rfl rfl ?_
  refine s2_6 (fun _ => ?_) (fun h => absurd h (by decide))
  refine s2_45 ?_
  refine s2_46 rfl ?_
  refine s2_49 ?_
  refine s2_50 ?_
  refine s2_51 1 rfl (by decide) rfl ?_
  refine s2_52 ?_
  refine s2_53 rfl ?_
  refine s2_56 ?_
  refine s2_57 ?_
  refine s2_58 rfl ?_
  refine s2_61 ?_
  refine s2_62 1 rfl (by decide) rfl ?_
  refine s2_63 1 rfl (by decide) rfl ?_
  refine s2_64 ?_
  refine s2_65 rfl ?_
  refine s2_68 ?_
  refine s2_69 ?_
  refine s2_70 1 rfl (by decide) rfl ?_
  refine s2_71 ?_
  refine s2_72 rfl ?_
  refine s2_75 ?_
  refine s2_76 1 rfl (by decide) rfl ?_
  refine s2_77 (fun _ => ?_) (fun h => absurd h (by decide))
  refine s2_90 ?_
  refine s2_91 rfl ?_
  refine s2_94 ?_
  refine s2_95 rfl ?_
  refine s2_98 ?_
  refine s2_99 1 rfl (by decide) rfl ?_
  refine s2_100 ?_
  refine s2_101 3 rfl (by decide) rfl ?_
  refine s2_102 ?_
  refine s2_103 rfl ?_
  refine s2_106 ?_
  refine s2_107 ?_
  refine s2_108 1 rfl (by decide) rfl ?_
  exact s2_109 ⟨rfl, rfl⟩
theorem own_r71  : M5 ⟨0, 1, 2, 0⟩ [.ref 2, .int 1] [(.inr (.int, [.int 2, .int 3, .int 0]) : ACell), (.inr (.int, [.int 3, .int 1, .int 0]) : ACell), (.inl (0, [.ref 3, .ref 4, .ref 5, .ref 6, .ref 7]) : ACell), (.inr (.int, [.int 0, .int 3, .int 4, .int 0, .int 0, .int 0, .int 0, .int 0, .int 0, .int 0, .int 0, .int 0, .int 0, .int 0, .int 0, .int 0]) : ACell), (.inr (.int, [.int 0, .int 1, .int 4, .int 0, .int 0, .int 0, .int 0, .int 0, .int 0, .int 0, .int 0, .int 0, .int 0, .int 0, .int 0, .int 0]) : ACell), (.inr (.int, [.int 0, .int 1, .int 0, .int 1, .int 2]) : ACell), (.inr (.int, [.int 0, .int 3, .int 0, .int 0, .int 0]) : ACell), (.inr (.int, [.int 0, .int 0, .int 3, .int 1, .int 0]) : ACell)] (Is (some (.ref 8)) [(.inr (.int, [.int 2, .int 3, .int 0]) : ACell), (.inr (.int, [.int 3, .int 1, .int 0]) : ACell), (.inl (0, [.ref 3, .ref 4, .ref 5, .ref 6, .ref 7]) : ACell), (.inr (.int, [.int 0, .int 3, .int 4, .int 0, .int 0, .int 0, .int 0, .int 0, .int 0, .int 0, .int 0, .int 0, .int 0, .int 0, .int 0, .int 0]) : ACell), (.inr (.int, [.int 0, .int 1, .int 4, .int 0, .int 0, .int 0, .int 0, .int 0, .int 0, .int 0, .int 0, .int 0, .int 0, .int 0, .int 0, .int 0]) : ACell), (.inr (.int, [.int 0, .int 1, .int 0, .int 1, .int 2]) : ACell), (.inr (.int, [.int 0, .int 3, .int 0, .int 0, .int 0]) : ACell), (.inr (.int, [.int 0, .int 0, .int 3, .int 1, .int 0]) : ACell), (.inr (.int, [.int 3, .int 1]) : ACell)]) := by
  refine e5 ?_
  refine s5_0 ?_
  refine s5_1 rfl ?_
  refine s5_2 ?_
  refine s5_3 rfl ?_
  refine s5_6 ?_
  refine s5_7 1 rfl (by decide) rfl ?_
  refine s5_8 rfl ?_
  refine s5_9 ?_
  refine s5_10 (fun h => absurd h (by decide)) (fun _ => ?_)
  refine s5_13 ?_
  refine s5_16 ?_
  refine s5_17 rfl ?_
  refine s5_20 ?_
  refine s5_21 3 rfl (by decide) rfl ?_
  refine s5_22 rfl ?_
  refine s5_23 ?_
  refine s5_9 ?_
  refine s5_10 (fun h => absurd h (by decide)) (fun _ => ?_)
  refine s5_13 ?_
  refine s5_16 ?_
  refine s5_17 rfl ?_
  refine s5_20 ?_
  refine s5_21 1 rfl (by decide) rfl ?_
  refine s5_22 rfl ?_
  refine s5_23 ?_
  refine s5_9 ?_
  refine s5_10 (fun _ => ?_) (fun h => absurd h (by decide))
  refine s5_26 ?_
  refine s5_27 8 2 (by decide) rfl rfl ?_
  refine s5_29 rfl ?_
  refine s5_30 ?_
  refine s5_31 rfl ?_
  refine s5_33 ?_
  refine s5_34 rfl ?_
  refine s5_37 ?_
  refine s5_38 1 rfl (by decide) rfl ?_
  refine s5_39 rfl ?_
  refine s5_41 ?_
  refine s5_43 (fun h => absurd h (by decide)) (fun _ => ?_)
  refine s5_46 ?_
  refine s5_47 ?_
  refine s5_49 ?_
  refine s5_51 0 rfl (by decide) rfl ?_
  refine s5_52 ?_
  refine s5_55 ?_
  refine s5_56 rfl ?_
  refine s5_59 ?_
  refine s5_61 3 rfl (by decide) rfl ?_
  refine s5_62 rfl ?_
  refine s5_64 ?_
  refine s5_41 ?_
  refine s5_43 (fun h => absurd h (by decide)) (fun _ => ?_)
  refine s5_46 ?_
  refine s5_47 ?_
  refine s5_49 ?_
  refine s5_51 1 rfl (by decide) rfl ?_
  refine s5_52 ?_
  refine s5_55 ?_
  refine s5_56 rfl ?_
  refine s5_59 ?_
  refine s5_61 1 rfl (by decide) rfl ?_
  refine s5_62 rfl ?_
  refine s5_64 ?_
  refine s5_41 ?_
  refine s5_43 (fun _ => ?_) (fun h => absurd h (by decide))
  refine s5_67 ?_
  exact s5_68 ⟨rfl, rfl⟩
theorem own_r72  : M5 ⟨0, 1, 1, 0⟩ [.ref 2, .int 2] [(.inr (.int, [.int 2, .int 3, .int 0]) : ACell), (.inr (.int, [.int 3, .int 1, .int 0]) : ACell), (.inl (0, [.ref 3, .ref 4, .ref 5, .ref 6, .ref 7]) : ACell), (.inr (.int, [.int 0, .int 3, .int 4, .int 0, .int 0, .int 0, .int 0, .int 0, .int 0, .int 0, .int 0, .int 0, .int 0, .int 0, .int 0, .int 0]) : ACell), (.inr (.int, [.int 0, .int 1, .int 4, .int 0, .int 0, .int 0, .int 0, .int 0, .int 0, .int 0, .int 0, .int 0, .int 0, .int 0, .int 0, .int 0]) : ACell), (.inr (.int, [.int 0, .int 1, .int 0, .int 1, .int 2]) : ACell), (.inr (.int, [.int 0, .int 3, .int 0, .int 0, .int 0]) : ACell), (.inr (.int, [.int 0, .int 0, .int 3, .int 1, .int 0]) : ACell), (.inr (.int, [.int 3, .int 1]) : ACell)] (Is (some (.ref 9)) [(.inr (.int, [.int 2, .int 3, .int 0]) : ACell), (.inr (.int, [.int 3, .int 1, .int 0]) : ACell), (.inl (0, [.ref 3, .ref 4, .ref 5, .ref 6, .ref 7]) : ACell), (.inr (.int, [.int 0, .int 3, .int 4, .int 0, .int 0, .int 0, .int 0, .int 0, .int 0, .int 0, .int 0, .int 0, .int 0, .int 0, .int 0, .int 0]) : ACell), (.inr (.int, [.int 0, .int 1, .int 4, .int 0, .int 0, .int 0, .int 0, .int 0, .int 0, .int 0, .int 0, .int 0, .int 0, .int 0, .int 0, .int 0]) : ACell), (.inr (.int, [.int 0, .int 1, .int 0, .int 1, .int 2]) : ACell), (.inr (.int, [.int 0, .int 3, .int 0, .int 0, .int 0]) : ACell), (.inr (.int, [.int 0, .int 0, .int 3, .int 1, .int 0]) : ACell), (.inr (.int, [.int 3, .int 1]) : ACell), (.inr (.int, [.int 4]) : ACell)]) := by
  refine e5 ?_
  refine s5_0 ?_
  refine s5_1 rfl ?_
  refine s5_2 ?_
  refine s5_3 rfl ?_
  refine s5_6 ?_
  refine s5_7 2 rfl (by decide) rfl ?_
  refine s5_8 rfl ?_
  refine s5_9 ?_
  refine s5_10 (fun h => absurd h (by decide)) (fun _ => ?_)
  refine s5_13 ?_
  refine s5_16 ?_
  refine s5_17 rfl ?_
  refine s5_20 ?_
  refine s5_21 4 rfl (by decide) rfl ?_
  refine s5_22 rfl ?_
  refine s5_23 ?_
  refine s5_9 ?_
  refine s5_10 (fun _ => ?_) (fun h => absurd h (by decide))
  refine s5_26 ?_
  refine s5_27 9 1 (by decide) rfl rfl ?_
  refine s5_29 rfl ?_
  refine s5_30 ?_
  refine s5_31 rfl ?_
  refine s5_33 ?_
  refine s5_34 rfl ?_
  refine s5_37 ?_
  refine s5_38 2 rfl (by decide) rfl ?_
  refine s5_39 rfl ?_
  refine s5_41 ?_
  refine s5_43 (fun h => absurd h (by decide)) (fun _ => ?_)
  refine s5_46 ?_
  refine s5_47 ?_
  refine s5_49 ?_
  refine s5_51 0 rfl (by decide) rfl ?_
  refine s5_52 ?_
  refine s5_55 ?_
  refine s5_56 rfl ?_
  refine s5_59 ?_
  refine s5_61 4 rfl (by decide) rfl ?_
  refine s5_62 rfl ?_
  refine s5_64 ?_
  refine s5_41 ?_
  refine s5_43 (fun _ => ?_) (fun h => absurd h (by decide))
  refine s5_67 ?_
  exact s5_68 ⟨rfl, rfl⟩
theorem own_r73  : M6 ⟨0, 0, 0, 0⟩ [.ref 8, .ref 1, .int 2] [(.inr (.int, [.int 2, .int 3, .int 0]) : ACell), (.inr (.int, [.int 3, .int 1, .int 0]) : ACell), (.inl (0, [.ref 3, .ref 4, .ref 5, .ref 6, .ref 7]) : ACell), (.inr (.int, [.int 0, .int 3, .int 4, .int 0, .int 0, .int 0, .int 0, .int 0, .int 0, .int 0, .int 0, .int 0, .int 0, .int 0, .int 0, .int 0]) : ACell), (.inr (.int, [.int 0, .int 1, .int 4, .int 0, .int 0, .int 0, .int 0, .int 0, .int 0, .int 0, .int 0, .int 0, .int 0, .int 0, .int 0, .int 0]) : ACell), (.inr (.int, [.int 0, .int 1, .int 0, .int 1, .int 2]) : ACell), (.inr (.int, [.int 0, .int 3, .int 0, .int 0, .int 0]) : ACell), (.inr (.int, [.int 0, .int 0, .int 3, .int 1, .int 0]) : ACell), (.inr (.int, [.int 3, .int 1]) : ACell), (.inr (.int, [.int 4]) : ACell)] (Is (some (.int 1)) [(.inr (.int, [.int 2, .int 3, .int 0]) : ACell), (.inr (.int, [.int 3, .int 1, .int 0]) : ACell), (.inl (0, [.ref 3, .ref 4, .ref 5, .ref 6, .ref 7]) : ACell), (.inr (.int, [.int 0, .int 3, .int 4, .int 0, .int 0, .int 0, .int 0, .int 0, .int 0, .int 0, .int 0, .int 0, .int 0, .int 0, .int 0, .int 0]) : ACell), (.inr (.int, [.int 0, .int 1, .int 4, .int 0, .int 0, .int 0, .int 0, .int 0, .int 0, .int 0, .int 0, .int 0, .int 0, .int 0, .int 0, .int 0]) : ACell), (.inr (.int, [.int 0, .int 1, .int 0, .int 1, .int 2]) : ACell), (.inr (.int, [.int 0, .int 3, .int 0, .int 0, .int 0]) : ACell), (.inr (.int, [.int 0, .int 0, .int 3, .int 1, .int 0]) : ACell), (.inr (.int, [.int 3, .int 1]) : ACell), (.inr (.int, [.int 4]) : ACell)]) := by
  refine e6 ?_
  refine s6_0 ?_
  refine s6_1k 2 rfl rfl ?_
  refine s6_2 ?_
  refine s6_3 (fun h => absurd h (by decide)) (fun _ => ?_)
  refine s6_6 ?_
  refine s6_7 ?_
  refine s6_8 (fun h => absurd h (by decide)) (fun _ => ?_)
  refine s6_11 ?_
  refine s6_12 ?_
  refine s6_13 0 rfl (by decide) rfl ?_
  refine s6_14 ?_
  refine s6_15 ?_
  refine s6_16 0 rfl (by decide) rfl ?_
  refine s6_17 (fun h => absurd h (by decide)) (fun _ => ?_)
  refine s6_20 ?_
  refine s6_21 ?_
  refine s6_22 (fun h => absurd h (by decide)) (fun _ => ?_)
  refine s6_25 ?_
  refine s6_26 ?_
  refine s6_27 1 rfl (by decide) rfl ?_
  refine s6_28 ?_
  refine s6_29 ?_
  refine s6_30 1 rfl (by decide) rfl ?_
  refine s6_31 (fun h => absurd h (by decide)) (fun _ => ?_)
  refine s6_34 ?_
  refine s6_35 ?_
  refine s6_36 (fun _ => ?_) (fun h => absurd h (by decide))
  refine s6_48 ?_
  refine s6_49 ?_
  exact s6_53 ⟨rfl, rfl⟩
theorem own_r74  : M1 ⟨1, 5, 47, 12⟩ [.ref 2, .int 4] [(.inr (.int, [.int 2, .int 3, .int 0]) : ACell), (.inr (.int, [.int 2, .int 1, .int 0]) : ACell), (.inl (0, [.null, .null, .null, .null, .null]) : ACell)] (Is none [(.inr (.int, [.int 2, .int 3, .int 0]) : ACell), (.inr (.int, [.int 2, .int 1, .int 0]) : ACell), (.inl (0, [.ref 3, .ref 4, .ref 5, .ref 6, .ref 7]) : ACell), (.inr (.int, [.int 0, .int 0, .int 0, .int 0, .int 0, .int 0, .int 0, .int 0, .int 0, .int 0, .int 0, .int 0, .int 0, .int 0, .int 0, .int 0]) : ACell), (.inr (.int, [.int 0, .int 0, .int 0, .int 0, .int 0, .int 0, .int 0, .int 0, .int 0, .int 0, .int 0, .int 0, .int 0, .int 0, .int 0, .int 0]) : ACell), (.inr (.int, [.int 0, .int 0, .int 0, .int 0, .int 0]) : ACell), (.inr (.int, [.int 0, .int 0, .int 0, .int 0, .int 0]) : ACell), (.inr (.int, [.int 0, .int 0, .int 0, .int 0, .int 0]) : ACell)]) := by
  refine e1 ?_
  refine s1_0 ?_
  refine s1_1 rfl ?_
  refine s1_4 ?_
  refine s1_5 ?_
  refine s1_7 3 16 (by decide) rfl rfl ?_
  refine s1_9 rfl ?_
  refine s1_12 ?_
  refine s1_13 ?_
  refine s1_15 4 16 (by decide) rfl rfl ?_
  refine s1_17 rfl ?_
  refine s1_20 ?_
  refine s1_21 ?_
  refine s1_22 ?_
  refine s1_23 ?_
  refine s1_24 5 5 (by decide) rfl rfl ?_
  refine s1_26 rfl ?_
  refine s1_29 ?_
  refine s1_30 ?_
  refine s1_31 ?_
  refine s1_32 ?_
  refine s1_33 6 5 (by decide) rfl rfl ?_
  refine s1_35 rfl ?_
  refine s1_38 ?_
  refine s1_39 ?_
  refine s1_40 ?_
  refine s1_41 ?_
  refine s1_42 7 5 (by decide) rfl rfl ?_
  refine s1_44 rfl ?_
  exact s1_47 ⟨rfl, rfl⟩
theorem own_r75  : M2 ⟨0, 0, 0, 0⟩ [.ref 2, .int 1, .int 1] [(.inr (.int, [.int 2, .int 3, .int 0]) : ACell), (.inr (.int, [.int 2, .int 1, .int 0]) : ACell), (.inl (0, [.ref 3, .ref 4, .ref 5, .ref 6, .ref 7]) : ACell), (.inr (.int, [.int 0, .int 0, .int 0, .int 0, .int 0, .int 0, .int 0, .int 0, .int 0, .int 0, .int 0, .int 0, .int 0, .int 0, .int 0, .int 0]) : ACell), (.inr (.int, [.int 0, .int 0, .int 0, .int 0, .int 0, .int 0, .int 0, .int 0, .int 0, .int 0, .int 0, .int 0, .int 0, .int 0, .int 0, .int 0]) : ACell), (.inr (.int, [.int 0, .int 0, .int 0, .int 0, .int 0]) : ACell), (.inr (.int, [.int 0, .int 0, .int 0, .int 0, .int 0]) : ACell), (.inr (.int, [.int 0, .int 0, .int 0, .int 0, .int 0]) : ACell)] (Is none [(.inr (.int, [.int 2, .int 3, .int 0]) : ACell), (.inr (.int, [.int 2, .int 1, .int 0]) : ACell), (.inl (0, [.ref 3, .ref 4, .ref 5, .ref 6, .ref 7]) : ACell), (.inr (.int, [.int 0, .int 1, .int 0, .int 0, .int 0, .int 0, .int 0, .int 0, .int 0, .int 0, .int 0, .int 0, .int 0, .int 0, .int 0, .int 0]) : ACell), (.inr (.int, [.int 0, .int 1, .int 0, .int 0, .int 0, .int 0, .int 0, .int 0, .int 0, .int 0, .int 0, .int 0, .int 0, .int 0, .int 0, .int 0]) : ACell), (.inr (.int, [.int 0, .int 1, .int 0, .int 0, .int 0]) : ACell), (.inr (.int, [.int 0, .int 0, .int 0, .int 0, .int 0]) : ACell), (.inr (.int, [.int 0, .int 0, .int 0, .int 0, .int 0]) : ACell)]) := by
  refine e2 ?_
  refine s2_0 ?_
  refine s2_1 ?_
  refine s2_2 rfl ?_
  refine s2_5k 16 rfl rfl ?_
  refine s2_6 (fun _ => ?_) (fun h => absurd h (by decide))
  refine s2_45 ?_
  refine s2_46 rfl ?_
  refine s2_49 ?_
  refine s2_50 ?_
  refine s2_51 1 rfl (by decide) rfl ?_
  refine s2_52 ?_
  refine s2_53 rfl ?_
  refine s2_56 ?_
  refine s2_57 ?_
  refine s2_58 rfl ?_
  refine s2_61 ?_
  refine s2_62 1 rfl (by decide) rfl ?_
  refine s2_63 1 rfl (by decide) rfl ?_
  refine s2_64 ?_
  refine s2_65 rfl ?_
  refine s2_68 ?_
  refine s2_69 ?_
  refine s2_70 1 rfl (by decide) rfl ?_
  refine s2_71 ?_
  refine s2_72 rfl ?_
  refine s2_75 ?_
  refine s2_76 1 rfl (by decide) rfl ?_
  refine s2_77 (fun h => absurd h (by decide)) (fun _ => ?_)
  refine s2_80 ?_
  refine s2_81 rfl ?_
  refine s2_84 ?_
  refine s2_85 ?_
  refine s2_86 1 rfl (by decide) rfl ?_
  refine s2_87 ?_
  refine s2_102 ?_
  refine s2_103 rfl ?_
  refine s2_106 ?_
  refine s2_107 ?_
  refine s2_108 1 rfl (by decide) rfl ?_
  exact s2_109 ⟨rfl, rfl⟩
theorem own_r76  : M2 ⟨0, 0, 0, 0⟩ [.ref 2, .int 2, .int 1] [(.inr (.int, [.int 2, .int 3, .int 0]) : ACell), (.inr (.int, [.int 2, .int 1, .int 0]) : ACell), (.inl (0, [.ref 3, .ref 4, .ref 5, .ref 6, .ref 7]) : ACell), (.inr (.int, [.int 0, .int 1, .int 0, .int 0, .int 0, .int 0, .int 0, .int 0, .int 0, .int 0, .int 0, .int 0, .int 0, .int 0, .int 0, .int 0]) : ACell), (.inr (.int, [.int 0, .int 1, .int 0, .int 0, .int 0, .int 0, .int 0, .int 0, .int 0, .int 0, .int 0, .int 0, .int 0, .int 0, .int 0, .int 0]) : ACell), (.inr (.int, [.int 0, .int 1, .int 0, .int 0, .int 0]) : ACell), (.inr (.int, [.int 0, .int 0, .int 0, .int 0, .int 0]) : ACell), (.inr (.int, [.int 0, .int 0, .int 0, .int 0, .int 0]) : ACell)] (Is none [(.inr (.int, [.int 2, .int 3, .int 0]) : ACell), (.inr (.int, [.int 2, .int 1, .int 0]) : ACell), (.inl (0, [.ref 3, .ref 4, .ref 5, .ref 6, .ref 7]) : ACell), (.inr (.int, [.int 0, .int 1, .int 0, .int 0, .int 0, .int 0, .int 0, .int 0, .int 0, .int 0, .int 0, .int 0, .int 0, .int 0, .int 0, .int 0]) : ACell), (.inr (.int, [.int 0, .int 2, .int 0, .int 0, .int 0, .int 0, .int 0, .int 0, .int 0, .int 0, .int 0, .int 0, .int 0, .int 0, .int 0, .int 0]) : ACell), (.inr (.int, [.int 0, .int 1, .int 1, .int 0, .int 0]) : ACell), (.inr (.int, [.int 0, .int 0, .int 1, .int 0, .int 0]) : ACell), (.inr (.int, [.int 0, .int 2, .int 0, .int 0, .int 0]) : ACell)]) := by
  refine e2 ?_
  refine s2_0 ?_
  refine s2_1 ?_
  refine s2_2 rfl ?_
  refine s2_5k 16 rfl rfl ?_
  refine s2_6 (fun _ => ?_) (fun h => absurd h (by decide))
  refine s2_45 ?_
  refine s2_46 rfl ?_
  refine s2_49 ?_
  refine s2_50 ?_
  refine s2_51 2 rfl (by decide) rfl ?_
  refine s2_52 ?_
  refine s2_53 rfl ?_
  refine s2_56 ?_
  refine s2_57 ?_
  refine s2_58 rfl ?_
  refine s2_61 ?_
  refine s2_62 1 rfl (by decide) rfl ?_
  refine s2_63 2 rfl (by decide) rfl ?_
  refine s2_64 ?_
  refine s2_65 rfl ?_
  refine s2_68 ?_
  refine s2_69 ?_
  refine s2_70 2 rfl (by decide) rfl ?_
  refine s2_71 ?_
  refine s2_72 rfl ?_
  refine s2_75 ?_
  refine s2_76 1 rfl (by decide) rfl ?_
  refine s2_77 (fun _ => ?_) (fun h => absurd h (by decide))
  refine s2_90 ?_
  refine s2_91 rfl ?_
  refine s2_94 ?_
  refine s2_95 rfl ?_
  refine s2_98 ?_
  refine s2_99 1 rfl (by decide) rfl ?_
  refine s2_100 ?_
  refine s2_101 1 rfl (by decide) rfl ?_
  refine s2_102 ?_
  refine s2_103 rfl ?_
  refine s2_106 ?_
  refine s2_107 ?_
  refine s2_108 1 rfl (by decide) rfl ?_
  exact s2_109 ⟨rfl, rfl⟩
theorem own_r77  : M2 ⟨0, 0, 0, 0⟩ [.ref 2, .int 3, .int 1] [(.inr (.int, [.int 2, .int 3, .int 0]) : ACell), (.inr (.int, [.int 2, .int 1, .int 0]) : ACell), (.inl (0, [.ref 3, .ref 4, .ref 5, .ref 6, .ref 7]) : ACell), (.inr (.int, [.int 0, .int 1, .int 0, .int 0, .int 0, .int 0, .int 0, .int 0, .int 0, .int 0, .int 0, .int 0, .int 0, .int 0, .int 0, .int 0]) : ACell), (.inr (.int, [.int 0, .int 2, .int 0, .int 0, .int 0, .int 0, .int 0, .int 0, .int 0, .int 0, .int 0, .int 0, .int 0, .int 0, .int 0, .int 0]) : ACell), (.inr (.int, [.int 0, .int 1, .int 1, .int 0, .int 0]) : ACell), (.inr (.int, [.int 0, .int 0, .int 1, .int 0, .int 0]) : ACell), (.inr (.int, [.int 0, .int 2, .int 0, .int 0, .int 0]) : ACell)] (Is none [(.inr (.int, [.int 2, .int 3, .int 0]) : ACell), (.inr (.int, [.int 2, .int 1, .int 0]) : ACell), (.inl (0, [.ref 3, .ref 4, .ref 5, .ref 6, .ref 7]) : ACell), (.inr (.int, [.int 0, .int 1, .int 0, .int 0, .int 0, .int 0, .int 0, .int 0, .int 0, .int 0, .int 0, .int 0, .int 0, .int 0, .int 0, .int 0]) : ACell), (.inr (.int, [.int 0, .int 3, .int 0, .int 0, .int 0, .int 0, .int 0, .int 0, .int 0, .int 0, .int 0, .int 0, .int 0, .int 0, .int 0, .int 0]) : ACell), (.inr (.int, [.int 0, .int 1, .int 1, .int 1, .int 0]) : ACell), (.inr (.int, [.int 0, .int 0, .int 1, .int 2, .int 0]) : ACell), (.inr (.int, [.int 0, .int 2, .int 3, .int 0, .int 0]) : ACell)]) := by
  refine e2 ?_
  refine s2_0 ?_
  refine s2_1 ?_
  refine s2_2 rfl ?_
  refine s2_5k 16 rfl rfl ?_
  refine s2_6 (fun _ => ?_) (fun h => absurd h (by decide))
  refine s2_45 ?_
  refine s2_46 rfl ?_
  refine s2_49 ?_
  refine s2_50 ?_
  refine s2_51 3 rfl (by decide) rfl ?_
  refine s2_52 ?_
  refine s2_53 rfl ?_
  refine s2_56 ?_
  refine s2_57 ?_
  refine s2_58 rfl ?_
  refine s2_61 ?_
  refine s2_62 1 rfl (by decide) rfl ?_
  refine s2_63 3 rfl (by decide) rfl ?_
  refine s2_64 ?_
  refine s2_65 rfl ?_
  refine s2_68 ?_
  refine s2_69 ?_
  refine s2_70 3 rfl (by decide) rfl ?_
  refine s2_71 ?_
  refine s2_72 rfl ?_
  refine s2_75 ?_
  refine s2_76 1 rfl (by decide) rfl ?_
  refine s2_77 (fun _ => ?_) (fun h => absurd h (by decide))
  refine s2_90 ?_
  refine s2_91 rfl ?_
  refine s2_94 ?_
  refine s2_95 rfl ?_
  refine s2_98 ?_
  refine s2_99 1 rfl (by decide) rfl ?_
  refine s2_100 ?_
  refine s2_101 2 rfl (by decide) rfl ?_
  refine s2_102 ?_
  refine s2_103 rfl ?_
  refine s2_106 ?_
  refine s2_107 ?_
  refine s2_108 1 rfl (by decide) rfl ?_
  exact s2_109 ⟨rfl, rfl⟩
theorem own_r78  : M2 ⟨0, 0, 0, 0⟩ [.ref 2, .int 4, .int 2] [(.inr (.int, [.int 2, .int 3, .int 0]) : ACell), (.inr (.int, [.int 2, .int 1, .int 0]) : ACell), (.inl (0, [.ref 3, .ref 4, .ref 5, .ref 6, .ref 7]) : ACell), (.inr (.int, [.int 0, .int 1, .int 0, .int 0, .int 0, .int 0, .int 0, .int 0, .int 0, .int 0, .int 0, .int 0, .int 0, .int 0, .int 0, .int 0]) : ACell), (.inr (.int, [.int 0, .int 3, .int 0, .int 0, .int 0, .int 0, .int 0, .int 0, .int 0, .int 0, .int 0, .int 0, .int 0, .int 0, .int 0, .int 0]) : ACell), (.inr (.int, [.int 0, .int 1, .int 1, .int 1, .int 0]) : ACell), (.inr (.int, [.int 0, .int 0, .int 1, .int 2, .int 0]) : ACell), (.inr (.int, [.int 0, .int 2, .int 3, .int 0, .int 0]) : ACell)] (Is none [(.inr (.int, [.int 2, .int 3, .int 0]) : ACell), (.inr (.int, [.int 2, .int 1, .int 0]) : ACell), (.inl (0, [.ref 3, .ref 4, .ref 5, .ref 6, .ref 7]) : ACell), (.inr (.int, [.int 0, .int 1, .int 4, .int 0, .int 0, .int 0, .int 0, .int 0, .int 0, .int 0, .int 0, .int 0, .int 0, .int 0, .int 0, .int 0]) : ACell), (.inr (.int, [.int 0, .int 3, .int 4, .int 0, .int 0, .int 0, .int 0, .int 0, .int 0, .int 0, .int 0, .int 0, .int 0, .int 0, .int 0, .int 0]) : ACell), (.inr (.int, [.int 0, .int 1, .int 1, .int 1, .int 2]) : ACell), (.inr (.int, [.int 0, .int 0, .int 1, .int 2, .int 0]) : ACell), (.inr (.int, [.int 0, .int 2, .int 3, .int 0, .int 0]) : ACell)]) := by
  refine e2 ?_
  refine s2_0 ?_
  refine s2_1 ?_
  refine s2_2 rfl ?_
  refine s2_5k 16 rfl rfl ?_
  refine s2_6 (fun _ => ?_) (fun h => absurd h (by decide))
  refine s2_45 ?_
  refine s2_46 rfl ?_
  refine s2_49 ?_
  refine s2_50 ?_
  refine s2_51 4 rfl (by decide) rfl ?_
  refine s2_52 ?_
  refine s2_53 rfl ?_
  refine s2_56 ?_
  refine s2_57 ?_
  refine s2_58 rfl ?_
  refine s2_61 ?_
  refine s2_62 2 rfl (by decide) rfl ?_
  refine s2_63 4 rfl (by decide) rfl ?_
  refine s2_64 ?_
  refine s2_65 rfl ?_
  refine s2_68 ?_
  refine s2_69 ?_
  refine s2_70 4 rfl (by decide) rfl ?_
  refine s2_71 ?_
  refine s2_72 rfl ?_
  refine s2_75 ?_
  refine s2_76 2 rfl (by decide) rfl ?_
  refine s2_77 (fun h => absurd h (by decide)) (fun _ => ?_)
  refine s2_80 ?_
  refine s2_81 rfl ?_
  refine s2_84 ?_
  refine s2_85 ?_
  refine s2_86 2 rfl (by decide) rfl ?_
  refine s2_87 ?_
  refine s2_102 ?_
  refine s2_103 rfl ?_
  refine s2_106 ?_
  refine s2_107 ?_
  refine s2_108 2 rfl (by decide) rfl ?_
  exact s2_109 ⟨rfl, rfl⟩
theorem own_r79  : M3 ⟨0, 0, 0, 0⟩ [.ref 2, .int 1] [(.inr (.int, [.int 2, .int 3, .int 0]) : ACell), (.inr (.int, [.int 2, .int 1, .int 0]) : ACell), (.inl (0, [.ref 3, .ref 4, .ref 5, .ref 6, .ref 7]) : ACell), (.inr (.int, [.int 0, .int 1, .int 4, .int 0, .int 0, .int 0, .int 0, .int 0, .int 0, .int 0, .int 0, .int 0, .int 0, .int 0, .int 0, .int 0]) : ACell), (.inr (.int, [.int 0, .int 3, .int 4, .int 0, .int 0, .int 0, .int 0, .int 0, .int 0, .int 0, .int 0, .int 0, .int 0, .int 0, .int 0, .int 0]) : ACell), (.inr (.int, [.int 0, .int 1, .int 1, .int 1, .int 2]) : ACell), (.inr (.int, [.int 0, .int 0, .int 1, .int 2, .int 0]) : ACell), (.inr (.int, [.int 0, .int 2, .int 3, .int 0, .int 0]) : ACell)] (Is none [(.inr (.int, [.int 2, .int 3, .int 0]) : ACell), (.inr (.int, [.int 2, .int 1, .int 0]) : ACell), (.inl (0, [.ref 3, .ref 4, .ref 5, .ref 6, .ref 7]) : ACell), (.inr (.int, [.int 0, .int 2, .int 4, .int 0, .int 0, .int 0, .int 0, .int 0, .int 0, .int 0, .int 0, .int 0, .int 0, .int 0, .int 0, .int 0]) : ACell), (.inr (.int, [.int 0, .int 3, .int 4, .int 0, .int 0, .int 0, .int 0, .int 0, .int 0, .int 0, .int 0, .int 0, .int 0, .int 0, .int 0, .int 0]) : ACell), (.inr (.int, [.int 0, .int 0, .int 1, .int 1, .int 2]) : ACell), (.inr (.int, [.int 0, .int 0, .int 0, .int 2, .int 0]) : ACell), (.inr (.int, [.int 0, .int 2, .int 3, .int 0, .int 0]) : ACell)]) := by
  refine e3 ?_
  refine s3_0 ?_
  refine s3_1 rfl ?_
  refine s3_4 ?_
  refine s3_5 1 rfl (by decide) rfl ?_
  refine s3_6 rfl ?_
  refine s3_7 ?_
  refine s3_8 rfl ?_
  refine s3_11 ?_
  refine s3_12 1 rfl (by decide) rfl ?_
  refine s3_13 (fun h => absurd h (by decide)) (fun _ => ?_)
  refine s3_16 ?_
  refine s3_17 rfl ?_
  refine s3_20 ?_
  refine s3_21 ?_
  refine s3_22 rfl ?_
  refine s3_25 ?_
  refine s3_26 1 rfl (by decide) rfl ?_
  refine s3_27 1 rfl (by decide) rfl ?_
  refine s3_28 ?_
  refine s3_48 ?_
  refine s3_49 rfl ?_
  refine s3_52 ?_
  refine s3_53 1 rfl (by decide) rfl ?_
  refine s3_54 (fun _ => ?_) (fun h => absurd h (by decide))
  refine s3_72 ?_
  refine s3_73 rfl ?_
  refine s3_76 ?_
  refine s3_77 rfl ?_
  refine s3_80 ?_
  refine s3_81 1 rfl (by decide) rfl ?_
  refine s3_82 ?_
  refine s3_83 rfl ?_
  refine s3_86 ?_
  refine s3_87 1 rfl (by decide) rfl ?_
  refine s3_88 2 rfl (by decide) rfl ?_
  refine s3_89 ?_
  refine s3_90 rfl ?_
  refine s3_93 ?_
  refine s3_94 ?_
  refine s3_95 1 rfl (by decide) rfl ?_
  exact s3_96 ⟨rfl, rfl⟩
theorem own_r80  : M4 ⟨0, 0, 0, 0⟩ [.ref 2, .int 1] [(.inr (.int, [.int 2, .int 3, .int 0]) : ACell), (.inr (.int, [.int 2, .int 1, .int 0]) : ACell), (.inl (0, [.ref 3, .ref 4, .ref 5, .ref 6, .ref 7]) : ACell), (.inr (.int, [.int 0, .int 2, .int 4, .int 0, .int 0, .int 0, .int 0, .int 0, .int 0, .int 0, .int 0, .int 0, .int 0, .int 0, .int 0, .int 0]) : ACell), (.inr (.int, [.int 0, .int 3, .int 4, .int 0, .int 0, .int 0, .int 0, .int 0, .int 0, .int 0, .int 0, .int 0, .int 0, .int 0, .int 0, .int 0]) : ACell), (.inr (.int, [.int 0, .int 0, .int 1, .int 1, .int 2]) : ACell), (.inr (.int, [.int 0, .int 0, .int 0, .int 2, .int 0]) : ACell), (.inr (.int, [.int 0, .int 2, .int 3, .int 0, .int 0]) : ACell)] (Is (some (.int 0)) [(.inr (.int, [.int 2, .int 3, .int 0]) : ACell), (.inr (.int, [.int 2, .int 1, .int 0]) : ACell), (.inl (0, [.ref 3, .ref 4, .ref 5, .ref 6, .ref 7]) : ACell), (.inr (.int, [.int 0, .int 2, .int 4, .int 0, .int 0, .int 0, .int 0, .int 0, .int 0, .int 0, .int 0, .int 0, .int 0, .int 0, .int 0, .int 0]) : ACell), (.inr (.int, [.int 0, .int 3, .int 4, .int 0, .int 0, .int 0, .int 0, .int 0, .int 0, .int 0, .int 0, .int 0, .int 0, .int 0, .int 0, .int 0]) : ACell), (.inr (.int, [.int 0, .int 0, .int 1, .int 1, .int 2]) : ACell), (.inr (.int, [.int 0, .int 0, .int 0, .int 2, .int 0]) : ACell), (.inr (.int, [.int 0, .int 2, .int 3, .int 0, .int 0]) : ACell)]) := by
  refine e4 ?_
  refine s4_0 ?_
  refine s4_1 rfl ?_
  refine s4_4 ?_
  refine s4_5 1 rfl (by decide) rfl ?_
  exact s4_6 ⟨rfl, rfl⟩
theorem own_r81  : M3 ⟨0, 0, 0, 0⟩ [.ref 2, .int 3] [(.inr (.int, [.int 2, .int 3, .int 0]) : ACell), (.inr (.int, [.int 2, .int 1, .int 0]) : ACell), (.inl (0, [.ref 3, .ref 4, .ref 5, .ref 6, .ref 7]) : ACell), (.inr (.int, [.int 0, .int 2, .int 4, .int 0, .int 0, .int 0, .int 0, .int 0, .int 0, .int 0, .int 0, .int 0, .int 0, .int 0, .int 0, .int 0]) : ACell), (.inr (.int, [.int 0, .int 3, .int 4, .int 0, .int 0, .int 0, .int 0, .int 0, .int 0, .int 0, .int 0, .int 0, .int 0, .int 0, .int 0, .int 0]) : ACell), (.inr (.int, [.int 0, .int 0, .int 1, .int 1, .int 2]) : ACell), (.inr (.int, [.int 0, .int 0, .int 0, .int 2, .int 0]) : ACell), (.inr (.int, [.int 0, .int 2, .int 3, .int 0, .int 0]) : ACell)] (Is none [(.inr (.int, [.int 2, .int 3, .int 0]) : ACell), (.inr (.int, [.int 2, .int 1, .int 0]) : ACell), (.inl (0, [.ref 3, .ref 4, .ref 5, .ref 6, .ref 7]) : ACell), (.inr (.int, [.int 0, .int 2, .int 4, .int 0, .int 0, .int 0, .int 0, .int 0, .int 0, .int 0, .int 0, .int 0, .int 0, .int 0, .int 0, .int 0]) : ACell), (.inr (.int, [.int 0, .int 2, .int 4, .int 0, .int 0, .int 0, .int 0, .int 0, .int 0, .int 0, .int 0, .int 0, .int 0, .int 0, .int 0, .int 0]) : ACell), (.inr (.int, [.int 0, .int 0, .int 1, .int 0, .int 2]) : ACell), (.inr (.int, [.int 0, .int 0, .int 0, .int 2, .int 0]) : ACell), (.inr (.int, [.int 0, .int 2, .int 0, .int 0, .int 0]) : ACell)]) := by
  refine e3 ?_
  refine s3_0 ?_
  refine s3_1 rfl ?_
  refine s3_4 ?_
  refine s3_5 3 rfl (by decide) rfl ?_
  refine s3_6 rfl ?_
  refine s3_7 ?_
  refine s3_8 rfl ?_
  refine s3_11 ?_
  refine s3_12 3 rfl (by decide) rfl ?_
  refine s3_13 (fun _ => ?_) (fun h => absurd h (by decide))
  refine s3_31 ?_
  refine s3_32 rfl ?_
  refine s3_35 ?_
  refine s3_36 rfl ?_
  refine s3_39 ?_
  refine s3_40 3 rfl (by decide) rfl ?_
  refine s3_41 ?_
  refine s3_42 rfl ?_
  refine s3_45 ?_
  refine s3_46 3 rfl (by decide) rfl ?_
  refine s3_47 2 rfl (by decide) rfl ?_
  refine s3_48 ?_
  refine s3_49 rfl ?_
  refine s3_52 ?_
  refine s3_53 3 rfl (by decide) rfl ?_
  refine s3_54 (fun h => absurd h (by decide)) (fun _ => ?_)
  refine s3_57 ?_
  refine s3_58 rfl ?_
  refine s3_61 ?_
  refine s3_62 ?_
  refine s3_63 rfl ?_
  refine s3_66 ?_
  refine s3_67 3 rfl (by decide) rfl ?_
  refine s3_68 1 rfl (by decide) rfl ?_
  refine s3_69 ?_
  refine s3_89 ?_
  refine s3_90 rfl ?_
  refine s3_93 ?_
  refine s3_94 ?_
  refine s3_95 3 rfl (by decide) rfl ?_
  exact s3_96 ⟨rfl, rfl⟩
theorem own_r82  : M2 ⟨0, 0, 0, 0⟩ [.ref 2, .int 1, .int 1] [(.inr (.int, [.int 2, .int 3, .int 0]) : ACell), (.inr (.int, [.int 2, .int 1, .int 0]) : ACell), (.inl (0, [.ref 3, .ref 4, .ref 5, .ref 6, .ref 7]) : ACell), (.inr (.int, [.int 0, .int 2, .int 4, .int 0, .int 0, .int 0, .int 0, .int 0, .int 0, .int 0, .int 0, .int 0, .int 0, .int 0, .int 0, .int 0]) : ACell), (.inr (.int, [.int 0, .int 2, .int 4, .int 0, .int 0, .int 0, .int 0, .int 0, .int 0, .int 0, .int 0, .int 0, .int 0, .int 0, .int 0, .int 0]) : ACell), (.inr (.int, [.int 0, .int 0, .int 1, .int 0, .int 2]) : ACell), (.inr (.int, [.int 0, .int 0, .int 0, .int 2, .int 0]) : ACell), (.inr (.int, [.int 0, .int 2, .int 0, .int 0, .int 0]) : ACell)] (Is none [(.inr (.int, [.int 2, .int 3, .int 0]) : ACell), (.inr (.int, [.int 2, .int 1, .int 0]) : ACell), (.inl (0, [.ref 3, .ref 4, .ref 5, .ref 6, .ref 7]) : ACell), (.inr (.int, [.int 0, .int 2, .int 4, .int 0, .int 0, .int 0, .int 0, .int 0, .int 0, .int 0, .int 0, .int 0, .int 0, .int 0, .int 0, .int 0]) : ACell), (.inr (.int, [.int 0, .int 1, .int 4, .int 0, .int 0, .int 0, .int 0, .int 0, .int 0, .int 0, .int 0, .int 0, .int 0, .int 0, .int 0, .int 0]) : ACell), (.inr (.int, [.int 0, .int 1, .int 1, .int 0, .int 2]) : ACell), (.inr (.int, [.int 0, .int 2, .int 0, .int 2, .int 0]) : ACell), (.inr (.int, [.int 0, .int 0, .int 1, .int 0, .int 0]) : ACell)]) := by
  refine e2 ?_
  refine s2_0 ?_
  refine s2_1 ?_
  refine s2_2 rfl ?_
  refine s2_5k 16 rfl rfl ?_
  refine s2_6 (fun _ => ?_) (fun h => absurd h (by decide))
  refine s2_45 ?_
  refine s2_46 rfl ?_
  refine s2_49 ?_
  refine s2_50 ?_
  refine s2_51 1 rfl (by decide) rfl ?_
  refine s2_52 ?_
  refine s2_53 rfl ?_
  refine s2_56 ?_
  refine s2_57 ?_
  refine s2_58 rfl ?_
  refine s2_61 ?_
  refine s2_62 1 rfl (by decide) rfl ?_
  refine s2_63 1 rfl (by decide) rfl ?_
  refine s2_64 ?_
  refine s2_65 rfl ?_
  refine s2_68 ?_
  refine s2_69 ?_
  refine s2_70 1 rfl (by decide) rfl ?_
  refine s2_71 ?_
  refine s2_72 rfl ?_
  refine s2_75 ?_
  refine s2_76 1 rfl (by decide) rfl ?_
  refine s2_77 (fun _ => ?_) (fun h => absurd h (by decide))
  refine s2_90 ?_
  refine s2_91 rfl ?_
  refine s2_94 ?_
  refine s2_95 rfl ?_
  refine s2_98 ?_
  refine s2_99 1 rfl (by decide) rfl ?_
  refine s2_100 ?_
  refine s2_101 2 rfl (by decide) rfl ?_
  refine s2_102 ?_
  refine s2_103 rfl ?_
  refine s2_106 ?_
  refine s2_107 ?_
  refine s2_108 1 rfl (by decide) rfl ?_
  exact s2_109 ⟨rfl, rfl⟩
theorem own_r83  : M5 ⟨0, 1, 2, 0⟩ [.ref 2, .int 1] [(.inr (.int, [.int 2, .int 3, .int 0]) : ACell), (.inr (.int, [.int 2, .int 1, .int 0]) : ACell), (.inl (0, [.ref 3, .ref 4, .ref 5, .ref 6, .ref 7]) : ACell), (.inr (.int, [.int 0, .int 2, .int 4, .int 0, .int 0, .int 0, .int 0, .int 0, .int 0, .int 0, .int 0, .int 0, .int 0, .int 0, .int 0, .int 0]) : ACell), (.inr (.int, [.int 0, .int 1, .int 4, .int 0, .int 0, .int 0, .int 0, .int 0, .int 0, .int 0, .int 0, .int 0, .int 0, .int 0, .int 0, .int 0]) : ACell), (.inr (.int, [.int 0, .int 1, .int 1, .int 0, .int 2]) : ACell), (.inr (.int, [.int 0, .int 2, .int 0, .int 2, .int 0]) : ACell), (.inr (.int, [.int 0, .int 0, .int 1, .int 0, .int 0]) : ACell)] (Is (some (.ref 8)) [(.inr (.int, [.int 2, .int 3, .int 0]) : ACell), (.inr (.int, [.int 2, .int 1, .int 0]) : ACell), (.inl (0, [.ref 3, .ref 4, .ref 5, .ref 6, .ref 7]) : ACell), (.inr (.int, [.int 0, .int 2, .int 4, .int 0, .int 0, .int 0, .int 0, .int 0, .int 0, .int 0, .int 0, .int 0, .int 0, .int 0, .int 0, .int 0]) : ACell), (.inr (.int, [.int 0, .int 1, .int 4, .int 0, .int 0, .int 0, .int 0, .int 0, .int 0, .int 0, .int 0, .int 0, .int 0, .int 0, .int 0, .int 0]) : ACell), (.inr (.int, [.int 0, .int 1, .int 1, .int 0, .int 2]) : ACell), (.inr (.int, [.int 0, .int 2, .int 0, .int 2, .int 0]) : ACell), (.inr (.int, [.int 0, .int 0, .int 1, .int 0, .int 0]) : ACell), (.inr (.int, [.int 2, .int 1]) : ACell)]) := by
  refine e5 ?_
  refine s5_0 ?_
  refine s5_1 rfl ?_
  refine s5_2 ?_
  refine s5_3 rfl ?_
  refine s5_6 ?_
  refine s5_7 1 rfl (by decide) rfl ?_
  refine s5_8 rfl ?_
  refine s5_9 ?_
  refine s5_10 (fun h => absurd h (by decide)) (fun _ => ?_)
  refine s5_13 ?_
  refine s5_16 ?_
  refine s5_17 rfl ?_
  refine s5_20 ?_
  refine s5_21 2 rfl (by decide) rfl ?_
  refine s5_22 rfl ?_
  refine s5_23 ?_
  refine s5_9 ?_
  refine s5_10 (fun h => absurd h (by decide)) (fun _ => ?_)
  refine s5_13 ?_
  refine s5_16 ?_
  refine s5_17 rfl ?_
  refine s5_20 ?_
  refine s5_21 1 rfl (by decide) rfl ?_
  refine s5_22 rfl ?_
  refine s5_23 ?_
  refine s5_9 ?_
  refine s5_10 (fun _ => ?_) (fun h => absurd h (by decide))
  refine s5_26 ?_
  refine s5_27 8 2 (by decide) rfl rfl ?_
  refine s5_29 rfl ?_
  refine s5_30 ?_
  refine s5_31 rfl ?_
  refine s5_33 ?_
  refine s5_34 rfl ?_
  refine s5_37 ?_
  refine s5_38 1 rfl (by decide) rfl ?_
  refine s5_39 rfl ?_
  refine s5_41 ?_
  refine s5_43 (fun h => absurd h (by decide)) (fun _ => ?_)
  refine s5_46 ?_
  refine s5_47 ?_
  refine s5_49 ?_
  refine s5_51 0 rfl (by decide) rfl ?_
  refine s5_52 ?_
  refine s5_55 ?_
  refine s5_56 rfl ?_
  refine s5_59 ?_
  refine s5_61 2 rfl (by decide) rfl ?_
  refine s5_62 rfl ?_
  refine s5_64 ?_
  refine s5_41 ?_
  refine s5_43 (fun h => absurd h (by decide)) (fun _ => ?_)
  refine s5_46 ?_
  refine s5_47 ?_
  refine s5_49 ?_
  refine s5_51 1 rfl (by decide) rfl ?_
  refine s5_52 ?_
  refine s5_55 ?_
  refine s5_56 rfl ?_
  refine s5_59 ?_
  refine s5_61 1 rfl (by decide) rfl ?_
  refine s5_62 rfl ?_
  refine s5_64 ?_
  refine s5_41 ?_
  refine s5_43 (fun _ => ?_) (fun h => absurd h (by decide))
  refine s5_67 ?_
  exact s5_68 ⟨rfl, rfl⟩
theorem own_r84  : M5 ⟨0, 1, 1, 0⟩ [.ref 2, .int 2] [(.inr (.int, [.int 2, .int 3, .int 0]) : ACell), (.inr (.int, [.int 2, .int 1, .int 0]) : ACell), (.inl (0, [.ref 3, .ref 4, .ref 5, .ref 6, .ref 7]) : ACell), (.inr (.int, [.int 0, .int 2, .int 4, .int 0, .int 0, .int 0, .int 0, .int 0, .int 0, .int 0, .int 0, .int 0, .int 0, .int 0, .int 0, .int 0]) : ACell), (.inr (.int, [.int 0, .int 1, .int 4, .int 0, .int 0, .int 0, .int 0, .int 0, .int 0, .int 0, .int 0, .int 0, .int 0, .int 0, .int 0, .int 0]) : ACell), (.inr (.int, [.int 0, .int 1, .int 1, .int 0, .int 2]) : ACell), (.inr (.int, [.int 0, .int 2, .int 0, .int 2, .int 0]) : ACell), (.inr (.int, [.int 0, .int 0, .int 1, .int 0, .int 0]) : ACell), (.inr (.int, [.int 2, .int 1]) : ACell)] (Is (some (.ref 9)) [(.inr (.int, [.int 2, .int 3, .int 0]) : ACell), (.inr (.int, [.int 2, .int 1, .int 0]) : ACell), (.inl (0, [.ref 3, .ref 4, .ref 5, .ref 6, .ref 7]) : ACell), (.inr (.int, [.int 0, .int 2, .int 4, .int 0, .int 0, .int 0, .int 0, .int 0, .int 0, .int 0, .int 0, .int 0, .int 0, .int 0, .int 0, .int 0]) : ACell), (.inr (.int, [.int 0, .int 1, .int 4, .int 0, .int 0, .int 0, .int 0, .int 0, .int 0, .int 0, .int 0, .int 0, .int 0, .int 0, .int 0, .int 0]) : ACell), (.inr (.int, [.int 0, .int 1, .int 1, .int 0, .int 2]) : ACell), (.inr (.int, [.int 0, .int 2, .int 0, .int 2, .int 0]) : ACell), (.inr (.int, [.int 0, .int 0, .int 1, .int 0, .int 0]) : ACell), (.inr (.int, [.int 2, .int 1]) : ACell), (.inr (.int, [.int 4]) : ACell)]) := by
  refine e5 ?_
  refine s5_0 ?_
  refine s5_1 rfl ?_
  refine s5_2 ?_
  refine s5_3 rfl ?_
  refine s5_6 ?_
  refine s5_7 2 rfl (by decide) rfl ?_
  refine s5_8 rfl ?_
  refine s5_9 ?_
  refine s5_10 (fun h => absurd h (by decide)) (fun _ => ?_)
  refine s5_13 ?_
  refine s5_16 ?_
  refine s5_17 rfl ?_
  refine s5_20 ?_
  refine s5_21 4 rfl (by decide) rfl ?_
  refine s5_22 rfl ?_
  refine s5_23 ?_
  refine s5_9 ?_
  refine s5_10 (fun _ => ?_) (fun h => absurd h (by decide))
  refine s5_26 ?_
  refine s5_27 9 1 (by decide) rfl rfl ?_
  refine s5_29 rfl ?_
  refine s5_30 ?_
  refine s5_31 rfl ?_
  refine s5_33 ?_
  refine s5_34 rfl ?_
  refine s5_37 ?_
  refine s5_38 2 rfl (by decide) rfl ?_
  refine s5_39 rfl ?_
  refine s5_41 ?_
  refine s5_43 (fun h => absurd h (by decide)) (fun _ => ?_)
  refine s5_46 ?_
  refine s5_47 ?_
  refine s5_49 ?_
  refine s5_51 0 rfl (by decide) rfl ?_
  refine s5_52 ?_
  refine s5_55 ?_
  refine s5_56 rfl ?_
  refine s5_59 ?_
  refine s5_61 4 rfl (by decide) rfl ?_
  refine s5_62 rfl ?_
  refine s5_64 ?_
  refine s5_41 ?_
  refine s5_43 (fun _ => ?_) (fun h => absurd h (by decide))
  refine s5_67 ?_
  exact s5_68 ⟨rfl, rfl⟩
theorem own_r85  : M6 ⟨0, 0, 0, 0⟩ [.ref 8, .ref 1, .int 2] [(.inr (.int, [.int 2, .int 3, .int 0]) : ACell), (.inr (.int, [.int 2, .int 1, .int 0]) : ACell), (.inl (0, [.ref 3, .ref 4, .ref 5, .ref 6, .ref 7]) : ACell), (.inr (.int, [.int 0, .int 2, .int 4, .int 0, .int 0, .int 0, .int 0, .int 0, .int 0, .int 0, .int 0, .int 0, .int 0, .int 0, .int 0, .int 0]) : ACell), (.inr (.int, [.int 0, .int 1, .int 4, .int 0, .int 0, .int 0, .int 0, .int 0, .int 0, .int 0, .int 0, .int 0, .int 0, .int 0, .int 0, .int 0]) : ACell), (.inr (.int, [.int 0, .int 1, .int 1, .int 0, .int 2]) : ACell), (.inr (.int, [.int 0, .int 2, .int 0, .int 2, .int 0]) : ACell), (.inr (.int, [.int 0, .int 0, .int 1, .int 0, .int 0]) : ACell), (.inr (.int, [.int 2, .int 1]) : ACell), (.inr (.int, [.int 4]) : ACell)] (Is (some (.int 1)) [(.inr (.int, [.int 2, .int 3, .int 0]) : ACell), (.inr (.int, [.int 2, .int 1, .int 0]) : ACell), (.inl (0, [.ref 3, .ref 4, .ref 5, .ref 6, .ref 7]) : ACell), (.inr (.int, [.int 0, .int 2, .int 4, .int 0, .int 0, .int 0, .int 0, .int 0, .int 0, .int 0, .int 0, .int 0, .int 0, .int 0, .int 0, .int 0]) : ACell), (.inr (.int, [.int 0, .int 1, .int 4, .int 0, .int 0, .int 0, .int 0, .int 0, .int 0, .int 0, .int 0, .int 0, .int 0, .int 0, .int 0, .int 0]) : ACell), (.inr (.int, [.int 0, .int 1, .int 1, .int 0, .int 2]) : ACell), (.inr (.int, [.int 0, .int 2, .int 0, .int 2, .int 0]) : ACell), (.inr (.int, [.int 0, .int 0, .int 1, .int 0, .int 0]) : ACell), (.inr (.int, [.int 2, .int 1]) : ACell), (.inr (.int, [.int 4]) : ACell)]) := by
  refine e6 ?_
  refine s6_0 ?_
  refine s6_1k 2 rfl rfl ?_
  refine s6_2 ?_
  refine s6_3 (fun h => absurd h (by decide)) (fun _ => ?_)
  refine s6_6 ?_
  refine s6_7 ?_
  refine s6_8 (fun h => absurd h (by decide)) (fun _ => ?_)
  refine s6_11 ?_
  refine s6_12 ?_
  refine s6_13 0 rfl (by decide) rfl ?_
  refine s6_14 ?_
  refine s6_15 ?_
  refine s6_16 0 rfl (by decide) rfl ?_
  refine s6_17 (fun h => absurd h (by decide)) (fun _ => ?_)
  refine s6_20 ?_
  refine s6_21 ?_
  refine s6_22 (fun h => absurd h (by decide)) (fun _ => ?_)
  refine s6_25 ?_
  refine s6_26 ?_
  refine s6_27 1 rfl (by decide) rfl ?_
  refine s6_28 ?_
  refine s6_29 ?_
  refine s6_30 1 rfl (by decide) rfl ?_
  refine s6_31 (fun h => absurd h (by decide)) (fun _ => ?_)
  refine s6_34 ?_
  refine s6_35 ?_
  refine s6_36 (fun _ => ?_) (fun h => absurd h (by decide))
  refine s6_48 ?_
  refine s6_49 ?_
  exact s6_53 ⟨rfl, rfl⟩
theorem own_r86  : M1 ⟨1, 5, 47, 12⟩ [.ref 2, .int 4] [(.inr (.int, [.int 1, .int 3, .int 0]) : ACell), (.inr (.int, [.int 1, .int 3, .int 2]) : ACell), (.inl (0, [.null, .null, .null, .null, .null]) : ACell)] (Is none [(.inr (.int, [.int 1, .int 3, .int 0]) : ACell), (.inr (.int, [.int 1, .int 3, .int 2]) : ACell), (.inl (0, [.ref 3, .ref 4, .ref 5, .ref 6, .ref 7]) : ACell), (.inr (.int, [.int 0, .int 0, .int 0, .int 0, .int 0, .int 0, .int 0, .int 0, .int 0, .int 0, .int 0, .int 0, .int 0, .int 0, .int 0, .int 0]) : ACell), (.inr (.int, [.int 0, .int 0, .int 0, .int 0, .int 0, .int 0, .int 0, .int 0, .int 0, .int 0, .int 0, .int 0, .int 0, .int 0, .int 0, .int 0]) : ACell), (.inr (.int, [.int 0, .int 0, .int 0, .int 0, .int 0]) : ACell), (.inr (.int, [.int 0, .int 0, .int 0, .int 0, .int 0]) : ACell), (.inr (.int, [.int 0, .int 0, .int 0, .int 0, .int 0]) : ACell)]) := by
  refine e1 ?_
  refine s1_0 ?_
  refine s1_1 rfl ?_
  refine s1_4 ?_
  refine s1_5 ?_
  refine s1_7 3 16 (by decide) rfl rfl ?_
  refine s1_9 rfl ?_
  refine s1_12 ?_
  refine s1_13 ?_
  refine s1_15 4 16 (by decide) rfl rfl ?_
  refine s1_17 rfl ?_
  refine s1_20 ?_
  refine s1_21 ?_
  refine s1_22 ?_
  refine s1_23 ?_
  refine s1_24 5 5 (by decide) rfl rfl ?_
  refine s1_26 rfl ?_
  refine s1_29 ?_
  refine s1_30 ?_
  refine s1_31 ?_
  refine s1_32 ?_
  refine s1_33 6 5 (by decide) rfl rfl ?_
  refine s1_35 rfl ?_
  refine s1_38 ?_
  refine s1_39 ?_
  refine s1_40 ?_
  refine s1_41 ?_
  refine s1_42 7 5 (by decide) rfl rfl ?_
  refine s1_44 rfl ?_
  exact s1_47 ⟨rfl, rfl⟩
theorem own_r87  : M2 ⟨0, 0, 0, 0⟩ [.ref 2, .int 1, .int 1] [(.inr (.int, [.int 1, .int 3, .int 0]) : ACell), (.inr (.int, [.int 1, .int 3, .int 2]) : ACell), (.inl (0, [.ref 3, .ref 4, .ref 5, .ref 6, .ref 7]) : ACell), (.inr (.int, [.int 0, .int 0, .int 0, .int 0, .int 0, .int 0, .int 0, .int 0, .int 0, .int 0, .int 0, .int 0, .int 0, .int 0, .int 0, .int 0]) : ACell), (.inr (.int, [.int 0, .int 0, .int 0, .int 0, .int 0, .int 0, .int 0, .int 0, .int 0, .int 0, .int 0, .int 0, .int 0, .int 0, .int 0, .int 0]) : ACell), (.inr (.int, [.int 0, .int 0, .int 0, .int 0, .int 0]) : ACell), (.inr (.int, [.int 0, .int 0, .int 0, .int 0, .int 0]) : ACell), (.inr (.int, [.int 0, .int 0, .int 0, .int 0, .int 0]) : ACell)] (Is none [(.inr (.int, [.int 1, .int 3, .int 0]) : ACell), (.inr (.int, [.int 1, .int 3, .int 2]) : ACell), (.inl (0, [.ref 3, .ref 4, .ref 5, .ref 6, .ref 7]) : ACell), (.inr (.int, [.int 0, .int 1, .int 0, .int 0, .int 0, .int 0, .int 0, .int 0, .int 0, .int 0, .int 0, .int 0, .int 0, .int 0, .int 0, .int 0]) : ACell), (.inr (.int, [.int 0, .int 1, .int 0, .int 0, .int 0, .int 0, .int 0, .int 0, .int 0, .int 0, .int 0, .int 0, .int 0, .int 0, .int 0, .int 0]) : ACell), (.inr (.int, [.int 0, .int 1, .int 0, .int 0, .int 0]) : ACell), (.inr (.int, [.int 0, .int 0, .int 0, .int 0, .int 0]) : ACell), (.inr (.int, [.int 0, .int 0, .int 0, .int 0, .int 0]) : ACell)]) := by
  refine e2 ?_
  refine s2_0 ?_
  refine s2_1 ?_
  refine s2_2 rfl ?_
  refine s2_5k 16 rfl rfl ?_
  refine s2_6 (fun _ => ?_) (fun h => absurd h (by decide))
  refine s2_45 ?_
  refine s2_46 rfl ?_
  refine s2_49 ?_
  refine s2_50 ?_
  refine s2_51 1 rfl (by decide) rfl ?_
  refine s2_52 ?_
  refine s2_53 rfl ?_
  refine s2_56 ?_
  refine s2_57 ?_
  refine s2_58 rfl ?_
  refine s2_61 ?_
  refine s2_62 1 rfl (by decide) rfl ?_
  refine s2_63 1 rfl (by decide) rfl ?_
  refine s2_64 ?_
  refine s2_65 rfl ?_
  refine s2_68 ?_
  refine s2_69 ?_
  refine s2_70 1 rfl (by decide) rfl ?_
  refine s2_71 ?_
  refine s2_72 rfl ?_
  refine s2_75 ?_
  refine s2_76 1 rfl (by decide) rfl ?_
  refine s2_77 (fun h => absurd h (by decide)) (fun _ => ?_)
  refine s2_80 ?_
  refine s2_81 rfl ?_
  refine s2_84 ?_
  refine s2_85 ?_
  refine s2_86 1 rfl (by decide) rfl ?_
  refine s2_87 ?_
  refine s2_102 ?_
  refine s2_103 rfl ?_
  refine s2_106 ?_
  refine s2_107 ?_
  refine s2_108 1 rfl (by decide) rfl ?_
  exact s2_109 ⟨rfl, rfl⟩
theorem own_r88  : M2 ⟨0, 0, 0, 0⟩ [.ref 2, .int 2, .int 1] [(.inr (.int, [.int 1, .int 3, .int 0]) : ACell), (.inr (.int, [.int 1, .int 3, .int 2]) : ACell), (.inl (0, [.ref 3, .ref 4, .ref 5, .ref 6, .ref 7]) : ACell), (.inr (.int, [.int 0, .int 1, .int 0, .int 0, .int 0, .int 0, .int 0, .int 0, .int 0, .int 0, .int 0, .int 0, .int 0, .int 0, .int 0, .int 0]) : ACell), (.inr (.int, [.int 0, .int 1, .int 0, .int 0, .int 0, .int 0, .int 0, .int 0, .int 0, .int 0, .int 0, .int 0, .int 0, .int 0, .int 0, .int 0]) : ACell), (.inr (.int, [.int 0, .int 1, .int 0, .int 0, .int 0]) : ACell), (.inr (.int, [.int 0, .int 0, .int 0, .int 0, .int 0]) : ACell), (.inr (.int, [.int 0, .int 0, .int 0, .int 0, .int 0]) : ACell)] (Is none [(.inr (.int, [.int 1, .int 3, .int 0]) : ACell), (.inr (.int, [.int 1, .int 3, .int 2]) : ACell), (.inl (0, [.ref 3, .ref 4, .ref 5, .ref 6, .ref 7]) : ACell), (.inr (.int, [.int 0, .int 1, .int 0, .int 0, .int 0, .int 0, .int 0, .int 0, .int 0, .int 0, .int 0, .int 0, .int 0, .int 0, .int 0, .int 0]) : ACell), (.inr (.int, [.int 0, .int 2, .int 0, .int 0, .int 0, .int 0, .int 0, .int 0, .int 0, .int 0, .int 0, .int 0, .int 0, .int 0, .int 0, .int 0]) : ACell), (.inr (.int, [.int 0, .int 1, .int 1, .int 0, .int 0]) : ACell), (.inr (.int, [.int 0, .int 0, .int 1, .int 0, .int 0]) : ACell), (.inr (.int, [.int 0, .int 2, .int 0, .int 0, .int 0]) : ACell)]) := by
  refine e2 ?_
  refine s2_0 ?_
  refine s2_1 ?_
  refine s2_2 rfl ?_
  refine s2_5k 16 rfl rfl ?_
  refine s2_6 (fun _ => ?_) (fun h => absurd h (by decide))
  refine s2_45 ?_
  refine s2_46 rfl ?_
  refine s2_49 ?_
  refine s2_50 ?_
  refine s2_51 2 rfl (by decide) rfl ?_
  refine s2_52 ?_
  refine s2_53 rfl ?_
  refine s2_56 ?_
  refine s2_57 ?_
  refine s2_58 rfl ?_
  refine s2_61 ?_
  refine s2_62 1 rfl (by decide) rfl ?_
  refine s2_63 2 rfl (by decide) rfl ?_
  refine s2_64 ?_
  refine s2_65 rfl ?_
  refine s2_68 ?_
  refine s2_69 ?_
  refine s2_70 2 rfl (by decide) rfl ?_
  refine s2_71 ?_
  refine s2_72 rfl ?_
  refine s2_75 ?_
  refine s2_76 1 rfl (by decide) rfl ?_
  refine s2_77 (fun _ => ?_) (fun h => absurd h (by decide))
  refine s2_90 ?_
  refine s2_91 rfl ?_
  refine s2_94 ?_
  refine s2_95 rfl ?_
  refine s2_98 ?_
  refine s2_99 1 rfl (by decide) rfl ?_
  refine s2_100 ?_
  refine s2_101 1 rfl (by decide) rfl ?_
  refine s2_102 ?_
  refine s2_103 rfl ?_
  refine s2_106 ?_
  refine s2_107 ?_
  refine s2_108 1 rfl (by decide) rfl ?_
  exact s2_109 ⟨rfl, rfl⟩
theorem own_r89  : M2 ⟨0, 0, 0, 0⟩ [.ref 2, .int 3, .int 1] [(.inr (.int, [.int 1, .int 3, .int 0]) : ACell), (.inr (.int, [.int 1, .int 3, .int 2]) : ACell), (.inl (0, [.ref 3, .ref 4, .ref 5, .ref 6, .ref 7]) : ACell), (.inr (.int, [.int 0, .int 1, .int 0, .int 0, .int 0, .int 0, .int 0, .int 0, .int 0, .int 0, .int 0, .int 0, .int 0, .int 0, .int 0, .int 0]) : ACell), (.inr (.int, [.int 0, .int 2, .int 0, .int 0, .int 0, .int 0, .int 0, .int 0, .int 0, .int 0, .int 0, .int 0, .int 0, .int 0, .int 0, .int 0]) : ACell), (.inr (.int, [.int 0, .int 1, .int 1, .int 0, .int 0]) : ACell), (.inr (.int, [.int 0, .int 0, .int 1, .int 0, .int 0]) : ACell), (.inr (.int, [.int 0, .int 2, .int 0, .int 0, .int 0]) : ACell)] (Is none [(.inr (.int, [.int 1, .int 3, .int 0]) : ACell), (.inr (.int, [.int 1, .int 3, .int 2]) : ACell), (.inl (0, [.ref 3, .ref 4, .ref 5, .ref 6, .ref 7]) : ACell), (.inr (.int, [.int 0, .int 1, .int 0, .int 0, .int 0, .int 0, .int 0, .int 0, .int 0, .int 0, .int 0, .int 0, .int 0, .int 0, .int 0, .int 0]) : ACell), (.inr (.int, [.int 0, .int 3, .int 0, .int 0, .int 0, .int 0, .int 0, .int 0, .int 0, .int 0, .int 0, .int 0, .int 0, .int 0, .int 0, .int 0]) : ACell), (.inr (.int, [.int 0, .int 1, .int 1, .int 1, .int 0]) : ACell), (.inr (.int, [.int 0, .int 0, .int 1, .int 2, .int 0]) : ACell), (.inr (.int, [.int 0, .int 2, .int 3, .int 0, .int 0]) : ACell)]) := by
  refine e2 ?_
  refine s2_0 ?_
  refine s2_1 ?_
  refine s2_2 rfl ?_
  refine s2_5k 16 rfl rfl ?_
  refine s2_6 (fun _ => ?_) (fun h => absurd h (by decide))
  refine s2_45 ?_
  refine s2_46 rfl ?_
  refine s2_49 ?_
  refine s2_50 ?_
  refine s2_51 3 rfl (by decide) rfl ?_
  refine s2_52 ?_
  refine s2_53 rfl ?_
  refine s2_56 ?_
  refine s2_57 ?_
  refine s2_58 rfl ?_
  refine s2_61 ?_
  refine s2_62 1 rfl (by decide) rfl ?_
  refine s2_63 3 rfl (by decide) rfl ?_
  refine s2_64 ?_
  refine s2_65 rfl ?_
  refine s2_68 ?_
  refine s2_69 ?_
  refine s2_70 3 rfl (by decide) rfl ?_
  refine s2_71 ?_
  refine s2_72 rfl ?_
  refine s2_75 ?_
  refine s2_76 1 rfl (by decide) rfl ?_
  refine s2_77 (fun _ => ?_) (fun h => absurd h (by decide))
  refine s2_90 ?_
  refine s2_91 rfl ?_
  refine s2_94 ?_
  refine s2_95 rfl ?_
  refine s2_98 ?_
  refine s2_99 1 rfl (by decide) rfl ?_
  refine s2_100 ?_
  refine s2_101 2 rfl (by decide) rfl ?_
  refine s2_102 ?_
  refine s2_103 rfl ?_
  refine s2_106 ?_
  refine s2_107 ?_
  refine s2_108 1 rfl (by decide) rfl ?_
  exact s2_109 ⟨rfl, rfl⟩
theorem own_r90  : M2 ⟨0, 0, 0, 0⟩ [.ref 2, .int 4, .int 2] [(.inr (.int, [.int 1, .int 3, .int 0]) : ACell), (.inr (.int, [.int 1, .int 3, .int 2]) : ACell), (.inl (0, [.ref 3, .ref 4, .ref 5, .ref 6, .ref 7]) : ACell), (.inr (.int, [.int 0, .int 1, .int 0, .int 0, .int 0, .int 0, .int 0, .int 0, .int 0, .int 0, .int 0, .int 0, .int 0, .int 0, .int 0, .int 0]) : ACell), (.inr (.int, [.int 0, .int 3, .int 0, .int 0, .int 0, .int 0, .int 0, .int 0, .int 0, .int 0, .int 0, .int 0, .int 0, .int 0, .int 0, .int 0]) : ACell), (.inr (.int, [.int 0, .int 1, .int 1, .int 1, .int 0]) : ACell), (.inr (.int, [.int 0, .int 0, .int 1, .int 2, .int 0]) : ACell), (.inr (.int, [.int 0, .int 2, .int 3, .int 0, .int 0]) : ACell)] (Is none [(.inr (.int, [.int 1, .int 3, .int 0]) : ACell), (.inr (.int, [.int 1, .int 3, .int 2]) : ACell), (.inl (0, [.ref 3, .ref 4, .ref 5, .ref 6, .ref 7]) : ACell), (.inr (.int, [.int 0, .int 1, .int 4, .int 0, .int 0, .int 0, .int 0, .int 0, .int 0, .int 0, .int 0, .int 0, .int 0, .int 0, .int 0, .int 0]) : ACell), (.inr (.int, [.int 0, .int 3, .int 4, .int 0, .int 0, .int 0, .int 0, .int 0, .int 0, .int 0, .int 0, .int 0, .int 0, .int 0, .int 0, .int 0]) : ACell), (.inr (.int, [.int 0, .int 1, .int 1, .int 1, .int 2]) : ACell), (.inr (.int, [.int 0, .int 0, .int 1, .int 2, .int 0]) : ACell), (.inr (.int, [.int 0, .int 2, .int 3, .int 0, .int 0]) : ACell)]) := by
  refine e2 ?_
  refine s2_0 ?_
  refine s2_1 ?_
  refine s2_2 rfl ?_
  refine s2_5k 16 rfl rfl ?_
  refine s2_6 (fun _ => ?_) (fun h => absurd h (by decide))
  refine s2_45 ?_
  refine s2_46 rfl ?_
  refine s2_49 ?_
  refine s2_50 ?_
  refine s2_51 4 rfl (by decide) rfl ?_
  refine s2_52 ?_
  refine s2_53 rfl ?_
  refine s2_56 ?_
  refine s2_57 ?_
  refine s2_58 rfl ?_
  refine s2_61 ?_
  refine s2_62 2 rfl (by decide) rfl ?_
  refine s2_63 4 rfl (by decide) rfl ?_
  refine s2_64 ?_
  refine s2_65 rfl ?_
  refine s2_68 ?_
  refine s2_69 ?_
  refine s2_70 4 rfl (by decide) rfl ?_
  refine s2_71 ?_
  refine s2_72 rfl ?_
  refine s2_75 ?_
  refine s2_76 2 rfl (by decide) rfl ?_
  refine s2_77 (fun h => absurd h (by decide)) (fun _ => ?_)
  refine s2_80 ?_
  refine s2_81 rfl ?_
  refine s2_84 ?_
  refine s2_85 ?_
  refine s2_86 2 rfl (by decide) rfl ?_
  refine s2_87 ?_
  refine s2_102 ?_
  refine s2_103 rfl ?_
  refine s2_106 ?_
  refine s2_107 ?_
  refine s2_108 2 rfl (by decide) rfl ?_
  exact s2_109 ⟨rfl, rfl⟩
theorem own_r91  : M3 ⟨0, 0, 0, 0⟩ [.ref 2, .int 2] [(.inr (.int, [.int 1, .int 3, .int 0]) : ACell), (.inr (.int, [.int 1, .int 3, .int 2]) : ACell), (.inl (0, [.ref 3, .ref 4, .ref 5, .ref 6, .ref 7]) : ACell), (.inr (.int, [.int 0, .int 1, .int 4, .int 0, .int 0, .int 0, .int 0, .int 0, .int 0, .int 0, .int 0, .int 0, .int 0, .int 0, .int 0, .int 0]) : ACell), (.inr (.int, [.int 0, .int 3, .int 4, .int 0, .int 0, .int 0, .int 0, .int 0, .int 0, .int 0, .int 0, .int 0, .int 0, .int 0, .int 0, .int 0]) : ACell), (.inr (.int, [.int 0, .int 1, .int 1, .int 1, .int 2]) : ACell), (.inr (.int, [.int 0, .int 0, .int 1, .int 2, .int 0]) : ACell), (.inr (.int, [.int 0, .int 2, .int 3, .int 0, .int 0]) : ACell)] (Is none [(.inr (.int, [.int 1, .int 3, .int 0]) : ACell), (.inr (.int, [.int 1, .int 3, .int 2]) : ACell), (.inl (0, [.ref 3, .ref 4, .ref 5, .ref 6, .ref 7]) : ACell), (.inr (.int, [.int 0, .int 1, .int 4, .int 0, .int 0, .int 0, .int 0, .int 0, .int 0, .int 0, .int 0, .int 0, .int 0, .int 0, .int 0, .int 0]) : ACell), (.inr (.int, [.int 0, .int 3, .int 4, .int 0, .int 0, .int 0, .int 0, .int 0, .int 0, .int 0, .int 0, .int 0, .int 0, .int 0, .int 0, .int 0]) : ACell), (.inr (.int, [.int 0, .int 1, .int 0, .int 1, .int 2]) : ACell), (.inr (.int, [.int 0, .int 0, .int 1, .int 1, .int 0]) : ACell), (.inr (.int, [.int 0, .int 3, .int 3, .int 0, .int 0]) : ACell)]) := by
  refine e3 ?_
  refine s3_0 ?_
  refine s3_1 rfl ?_
  refine s3_4 ?_
  refine s3_5 2 rfl (by decide) rfl ?_
  refine s3_6 rfl ?_
  refine s3_7 ?_
  refine s3_8 rfl ?_
  refine s3_11 ?_
  refine s3_12 2 rfl (by decide) rfl ?_
  refine s3_13 (fun _ => ?_) (fun h => absurd h (by decide))
  refine s3_31 ?_
  refine s3_32 rfl ?_
  refine s3_35 ?_
  refine s3_36 rfl ?_
  refine s3_39 ?_
  refine s3_40 2 rfl (by decide) rfl ?_
  refine s3_41 ?_
  refine s3_42 rfl ?_
  refine s3_45 ?_
  refine s3_46 2 rfl (by decide) rfl ?_
  refine s3_47 1 rfl (by decide) rfl ?_
  refine s3_48 ?_
  refine s3_49 rfl ?_
  refine s3_52 ?_
  refine s3_53 2 rfl (by decide) rfl ?_
  refine s3_54 (fun _ => ?_) (fun h => absurd h (by decide))
  refine s3_72 ?_
  refine s3_73 rfl ?_
  refine s3_76 ?_
  refine s3_77 rfl ?_
  refine s3_80 ?_
  refine s3_81 2 rfl (by decide) rfl ?_
  refine s3_82 ?_
  refine s3_83 rfl ?_
  refine s3_86 ?_
  refine s3_87 2 rfl (by decide) rfl ?_
  refine s3_88 3 rfl (by decide) rfl ?_
  refine s3_89 ?_
  refine s3_90 rfl ?_
  refine s3_93 ?_
  refine s3_94 ?_
  refine s3_95 2 rfl (by decide) rfl ?_
  exact s3_96 ⟨rfl, rfl⟩
theorem own_r92  : M4 ⟨0, 0, 0, 0⟩ [.ref 2, .int 2] [(.inr (.int, [.int 1, .int 3, .int 0]) : ACell), (.inr (.int, [.int 1, .int 3, .int 2]) : ACell), (.inl (0, [.ref 3, .ref 4, .ref 5, .ref 6, .ref 7]) : ACell), (.inr (.int, [.int 0, .int 1, .int 4, .int 0, .int 0, .int 0, .int 0, .int 0, .int 0, .int 0, .int 0, .int 0, .int 0, .int 0, .int 0, .int 0]) : ACell), (.inr (.int, [.int 0, .int 3, .int 4, .int 0, .int 0, .int 0, .int 0, .int 0, .int 0, .int 0, .int 0, .int 0, .int 0, .int 0, .int 0, .int 0]) : ACell), (.inr (.int, [.int 0, .int 1, .int 0, .int 1, .int 2]) : ACell), (.inr (.int, [.int 0, .int 0, .int 1, .int 1, .int 0]) : ACell), (.inr (.int, [.int 0, .int 3, .int 3, .int 0, .int 0]) : ACell)] (Is (some (.int 0)) [(.inr (.int, [.int 1, .int 3, .int 0]) : ACell), (.inr (.int, [.int 1, .int 3, .int 2]) : ACell), (.inl (0, [.ref 3, .ref 4, .ref 5, .ref 6, .ref 7]) : ACell), (.inr (.int, [.int 0, .int 1, .int 4, .int 0, .int 0, .int 0, .int 0, .int 0, .int 0, .int 0, .int 0, .int 0, .int 0, .int 0, .int 0, .int 0]) : ACell), (.inr (.int, [.int 0, .int 3, .int 4, .int 0, .int 0, .int 0, .int 0, .int 0, .int 0, .int 0, .int 0, .int 0, .int 0, .int 0, .int 0, .int 0]) : ACell), (.inr (.int, [.int 0, .int 1, .int 0, .int 1, .int 2]) : ACell), (.inr (.int, [.int 0, .int 0, .int 1, .int 1, .int 0]) : ACell), (.inr (.int, [.int 0, .int 3, .int 3, .int 0, .int 0]) : ACell)]) := by
  refine e4 ?_
  refine s4_0 ?_
  refine s4_1 rfl ?_
  refine s4_4 ?_
  refine s4_5 2 rfl (by decide) rfl ?_
  exact s4_6 ⟨rfl, rfl⟩
theorem own_r93  : M2 ⟨0, 0, 0, 0⟩ [.ref 2, .int 2, .int 1] [(.inr (.int, [.int 1, .int 3, .int 0]) : ACell), (.inr (.int, [.int 1, .int 3, .int 2]) : ACell), (.inl (0, [.ref 3, .ref 4, .ref 5, .ref 6, .ref 7]) : ACell), (.inr (.int, [.int 0, .int 1, .int 4, .int 0, .int 0, .int 0, .int 0, .int 0, .int 0, .int 0, .int 0, .int 0, .int 0, .int 0, .int 0, .int 0]) : ACell), (.inr (.int, [.int 0, .int 3, .int 4, .int 0, .int 0, .int 0, .int 0, .int 0, .int 0, .int 0, .int 0, .int 0, .int 0, .int 0, .int 0, .int 0]) : ACell), (.inr (.int, [.int 0, .int 1, .int 0, .int 1, .int 2]) : ACell), (.inr (.int, [.int 0, .int 0, .int 1, .int 1, .int 0]) : ACell), (.inr (.int, [.int 0, .int 3, .int 3, .int 0, .int 0]) : ACell)] (Is none [(.inr (.int, [.int 1, .int 3, .int 0]) : ACell), (.inr (.int, [.int 1, .int 3, .int 2]) : ACell), (.inl (0, [.ref 3, .ref 4, .ref 5, .ref 6, .ref 7]) : ACell), (.inr (.int, [.int 0, .int 1, .int 4, .int 0, .int 0, .int 0, .int 0, .int 0, .int 0, .int 0, .int 0, .int 0, .int 0, .int 0, .int 0, .int 0]) : ACell), (.inr (.int, [.int 0, .int 2, .int 4, .int 0, .int 0, .int 0, .int 0, .int 0, .int 0, .int 0, .int 0, .int 0, .int 0, .int 0, .int 0, .int 0]) : ACell), (.inr (.int, [.int 0, .int 1, .int 1, .int 1, .int 2]) : ACell), (.inr (.int, [.int 0, .int 0, .int 3, .int 1, .int 0]) : ACell), (.inr (.int, [.int 0, .int 3, .int 0, .int 2, .int 0]) : ACell)]) := by
  refine e2 ?_
  refine s2_0 ?_
  refine s2_1 ?_
  refine s2_2 rfl ?_
  refine s2_5k 16 rfl rfl ?_
  refine s2_6 (fun _ => ?_) (fun h => absurd h (by decide))
  refine s2_45 ?_
  refine s2_46 rfl ?_
  refine s2_49 ?_
  refine s2_50 ?_
  refine s2_51 2 rfl (by decide) rfl ?_
  refine s2_52 ?_
  refine s2_53 rfl ?_
  refine s2_56 ?_
  refine s2_57 ?_
  refine s2_58 rfl ?_
  refine s2_61 ?_
  refine s2_62 1 rfl (by decide) rfl ?_
  refine s2_63 2 rfl (by decide) rfl ?_
  refine s2_64 ?_
  refine s2_65 rfl ?_
  refine s2_68 ?_
  refine s2_69 ?_
  refine s2_70 2 rfl (by decide) rfl ?_
  refine s2_71 ?_
  refine s2_72 rfl ?_
  refine s2_75 ?_
  refine s2_76 1 rfl (by decide) rfl ?_
  refine s2_77 (fun _ => ?_) (fun h => absurd h (by decide))
  refine s2_90 ?_
  refine s2_91 rfl ?_
  refine s2_94 ?_
  refine s2_95 rfl ?_
  refine s2_98 ?_
  refine s2_99 1 rfl (by decide) rfl ?_
  refine s2_100 ?_
  refine s2_101 3 rfl (by decide) rfl ?_
  refine s2_102 ?_
  refine s2_103 rfl ?_
  refine s2_106 ?_
  refine s2_107 ?_
  refine s2_108 1 rfl (by decide) rfl ?_
  exact s2_109 ⟨rfl, rfl⟩
theorem own_r94  : M5 ⟨0, 1, 3, 0⟩ [.ref 2, .int 1] [(.inr (.int, [.int 1, .int 3, .int 0]) : ACell), (.inr (.int, [.int 1, .int 3, .int 2]) : ACell), (.inl (0, [.ref 3, .ref 4, .ref 5, .ref 6, .ref 7]) : ACell), (.inr (.int, [.int 0, .int 1, .int 4, .int 0, .int 0, .int 0, .int 0, .int 0, .int 0, .int 0, .int 0, .int 0, .int 0, .int 0, .int 0, .int 0]) : ACell), (.inr (.int, [.int 0, .int 2, .int 4, .int 0, .int 0, .int 0, .int 0, .int 0, .int 0, .int 0, .int 0, .int 0, .int 0, .int 0, .int 0, .int 0]) : ACell), (.inr (.int, [.int 0, .int 1, .int 1, .int 1, .int 2]) : ACell), (.inr (.int, [.int 0, .int 0, .int 3, .int 1, .int 0]) : ACell), (.inr (.int, [.int 0, .int 3, .int 0, .int 2, .int 0]) : ACell)] (Is (some (.ref 8)) [(.inr (.int, [.int 1, .int 3, .int 0]) : ACell), (.inr (.int, [.int 1, .int 3, .int 2]) : ACell), (.inl (0, [.ref 3, .ref 4, .ref 5, .ref 6, .ref 7]) : ACell), (.inr (.int, [.int 0, .int 1, .int 4, .int 0, .int 0, .int 0, .int 0, .int 0, .int 0, .int 0, .int 0, .int 0, .int 0, .int 0, .int 0, .int 0]) : ACell), (.inr (.int, [.int 0, .int 2, .int 4, .int 0, .int 0, .int 0, .int 0, .int 0, .int 0, .int 0, .int 0, .int 0, .int 0, .int 0, .int 0, .int 0]) : ACell), (.inr (.int, [.int 0, .int 1, .int 1, .int 1, .int 2]) : ACell), (.inr (.int, [.int 0, .int 0, .int 3, .int 1, .int 0]) : ACell), (.inr (.int, [.int 0, .int 3, .int 0, .int 2, .int 0]) : ACell), (.inr (.int, [.int 1, .int 3, .int 2]) : ACell)]) := by
  refine e5 ?_
  refine s5_0 ?_
  refine s5_1 rfl ?_
  refine s5_2 ?_
  refine s5_3 rfl ?_
  refine s5_6 ?_
  refine s5_7 1 rfl (by decide) rfl ?_
  refine s5_8 rfl ?_
  refine s5_9 ?_
  refine s5_10 (fun h => absurd h (by decide)) (fun _ => ?_)
  refine s5_13 ?_
  refine s5_16 ?_
  refine s5_17 rfl ?_
  refine s5_20 ?_
  refine s5_21 1 rfl (by decide) rfl ?_
  refine s5_22 rfl ?_
  refine s5_23 ?_
  refine s5_9 ?_
  refine s5_10 (fun h => absurd h (by decide)) (fun _ => ?_)
  refine s5_13 ?_
  refine s5_16 ?_
  refine s5_17 rfl ?_
  refine s5_20 ?_
  refine s5_21 3 rfl (by decide) rfl ?_
  refine s5_22 rfl ?_
  refine s5_23 ?_
  refine s5_9 ?_
  refine s5_10 (fun h => absurd h (by decide)) (fun _ => ?_)
  refine s5_13 ?_
  refine s5_16 ?_
  refine s5_17 rfl ?_
  refine s5_20 ?_
  refine s5_21 2 rfl (by decide) rfl ?_
  refine s5_22 rfl ?_
  refine s5_23 ?_
  refine s5_9 ?_
  refine s5_10 (fun _ => ?_) (fun h => absurd h (by decide))
  refine s5_26 ?_
  refine s5_27 8 3 (by decide) rfl rfl ?_
  refine s5_29 rfl ?_
  refine s5_30 ?_
  refine s5_31 rfl ?_
  refine s5_33 ?_
  refine s5_34 rfl ?_
  refine s5_37 ?_
  refine s5_38 1 rfl (by decide) rfl ?_
  refine s5_39 rfl ?_
  refine s5_41 ?_
  refine s5_43 (fun h => absurd h (by decide)) (fun _ => ?_)
  refine s5_46 ?_
  refine s5_47 ?_
  refine s5_49 ?_
  refine s5_51 0 rfl (by decide) rfl ?_
  refine s5_52 ?_
  refine s5_55 ?_
  refine s5_56 rfl ?_
  refine s5_59 ?_
  refine s5_61 1 rfl (by decide) rfl ?_
  refine s5_62 rfl ?_
  refine s5_64 ?_
  refine s5_41 ?_
  refine s5_43 (fun h => absurd h (by decide)) (fun _ => ?_)
  refine s5_46 ?_
  refine s5_47 ?_
  refine s5_49 ?_
  refine s5_51 1 rfl (by decide) rfl ?_
  refine s5_52 ?_
  refine s5_55 ?_
  refine s5_56 rfl ?_
  refine s5_59 ?_
  refine s5_61 3 rfl (by decide) rfl ?_
  refine s5_62 rfl ?_
  refine s5_64 ?_
  refine s5_41 ?_
  refine s5_43 (fun h => absurd h (by decide)) (fun _ => ?_)
  refine s5_46 ?_
  refine s5_47 ?_
  refine s5_49 ?_
  refine s5_51 2 rfl (by decide) rfl ?_
  refine s5_52 ?_
  refine s5_55 ?_
  refine s5_56 rfl ?_
  refine s5_59 ?_
  refine s5_61 2 rfl (by decide) rfl ?_
  refine s5_62 rfl ?_
  refine s5_64 ?_
  refine s5_41 ?_
  refine s5_43 (fun _ => ?_) (fun h => absurd h (by decide))
  refine s5_67 ?_
  exact s5_68 ⟨rfl, rfl⟩
theorem own_r95  : M5 ⟨0, 1, 1, 0⟩ [.ref 2, .int 2] [(.inr (.int, [.int 1, .int 3, .int 0]) : ACell), (.inr (.int, [.int 1, .int 3, .int 2]) : ACell), (.inl (0, [.ref 3, .ref 4, .ref 5, .ref 6, .ref 7]) : ACell), (.inr (.int, [.int 0, .int 1, .int 4, .int 0, .int 0, .int 0, .int 0, .int 0, .int 0, .int 0, .int 0, .int 0, .int 0, .int 0, .int 0, .int 0]) : ACell), (.inr (.int, [.int 0, .int 2, .int 4, .int 0, .int 0, .int 0, .int 0, .int 0, .int 0, .int 0, .int 0, .int 0, .int 0, .int 0, .int 0, .int 0]) : ACell), (.inr (.int, [.int 0, .int 1, .int 1, .int 1, .int 2]) : ACell), (.inr (.int, [.int 0, .int 0, .int 3, .int 1, .int 0]) : ACell), (.inr (.int, [.int 0, .int 3, .int 0, .int 2, .int 0]) : ACell), (.inr (.int, [.int 1, .int 3, .int 2]) : ACell)] (Is (some (.ref 9)) [(.inr (.int, [.int 1, .int 3, .int 0]) : ACell), (.inr (.int, [.int 1, .int 3, .int 2]) : ACell), (.inl (0, [.ref 3, .ref 4, .ref 5, .ref 6, .ref 7]) : ACell), (.inr (.int, [.int 0, .int 1, .int 4, .int 0, .int 0, .int 0, .int 0, .int 0, .int 0, .int 0, .int 0, .int 0, .int 0, .int 0, .int 0, .int 0]) : ACell), (.inr (.int, [.int 0, .int 2, .int 4, .int 0, .int 0, .int 0, .int 0, .int 0, .int 0, .int 0, .int 0, .int 0, .int 0, .int 0, .int 0, .int 0]) : ACell), (.inr (.int, [.int 0, .int 1, .int 1, .int 1, .int 2]) : ACell), (.inr (.int, [.int 0, .int 0, .int 3, .int 1, .int 0]) : ACell), (.inr (.int, [.int 0, .int 3, .int 0, .int 2, .int 0]) : ACell), (.inr (.int, [.int 1, .int 3, .int 2]) : ACell), (.inr (.int, [.int 4]) : ACell)]) := by
  refine e5 ?_
  refine s5_0 ?_
  refine s5_1 rfl ?_
  refine s5_2 ?_
  refine s5_3 rfl ?_
  refine s5_6 ?_
  refine s5_7 2 rfl (by decide) rfl ?_
  refine s5_8 rfl ?_
  refine s5_9 ?_
  refine s5_10 (fun h => absurd h (by decide)) (fun _ => ?_)
  refine s5_13 ?_
  refine s5_16 ?_
  refine s5_17 rfl ?_
  refine s5_20 ?_
  refine s5_21 4 rfl (by decide) rfl ?_
  refine s5_22 rfl ?_
  refine s5_23 ?_
  refine s5_9 ?_
  refine s5_10 (fun _ => ?_) (fun h => absurd h (by decide))
  refine s5_26 ?_
  refine s5_27 9 1 (by decide) rfl rfl ?_
  refine s5_29 rfl ?_
  refine s5_30 ?_
  refine s5_31 rfl ?_
  refine s5_33 ?_
  refine s5_34 rfl ?_
  refine s5_37 ?_
  refine s5_38 2 rfl (by decide) rfl ?_
  refine s5_39 rfl ?_
  refine s5_41 ?_
  refine s5_43 (fun h => absurd h (by decide)) (fun _ => ?_)
  refine s5_46 ?_
  refine s5_47 ?_
  refine s5_49 ?_
  refine s5_51 0 rfl (by decide) rfl ?_
  refine s5_52 ?_
  refine s5_55 ?_
  refine s5_56 rfl ?_
  refine s5_59 ?_
  refine s5_61 4 rfl (by decide) rfl ?_
  refine s5_62 rfl ?_
  refine s5_64 ?_
  refine s5_41 ?_
  refine s5_43 (fun _ => ?_) (fun h => absurd h (by decide))
  refine s5_67 ?_
  exact s5_68 ⟨rfl, rfl⟩
theorem own_r96  : M6 ⟨0, 0, 0, 0⟩ [.ref 8, .ref 1, .int 3] [(.inr (.int, [.int 1, .int 3, .int 0]) : ACell), (.inr (.int, [.int 1, .int 3, .int 2]) : ACell), (.inl (0, [.ref 3, .ref 4, .ref 5, .ref 6, .ref 7]) : ACell), (.inr (.int, [.int 0, .int 1, .int 4, .int 0, .int 0, .int 0, .int 0, .int 0, .int 0, .int 0, .int 0, .int 0, .int 0, .int 0, .int 0, .int 0]) : ACell), (.inr (.int, [.int 0, .int 2, .int 4, .int 0, .int 0, .int 0, .int 0, .int 0, .int 0, .int 0, .int 0, .int 0, .int 0, .int 0, .int 0, .int 0]) : ACell), (.inr (.int, [.int 0, .int 1, .int 1, .int 1, .int 2]) : ACell), (.inr (.int, [.int 0, .int 0, .int 3, .int 1, .int 0]) : ACell), (.inr (.int, [.int 0, .int 3, .int 0, .int 2, .int 0]) : ACell), (.inr (.int, [.int 1, .int 3, .int 2]) : ACell), (.inr (.int, [.int 4]) : ACell)] (Is (some (.int 1)) [(.inr (.int, [.int 1, .int 3, .int 0]) : ACell), (.inr (.int, [.int 1, .int 3, .int 2]) : ACell), (.inl (0, [.ref 3, .ref 4, .ref 5, .ref 6, .ref 7]) : ACell), (.inr (.int, [.int 0, .int 1, .int 4, .int 0, .int 0, .int 0, .int 0, .int 0, .int 0, .int 0, .int 0, .int 0, .int 0, .int 0, .int 0, .int 0]) : ACell), (.inr (.int, [.int 0, .int 2, .int 4, .int 0, .int 0, .int 0, .int 0, .int 0, .int 0, .int 0, .int 0, .int 0, .int 0, .int 0, .int 0, .int 0]) : ACell), (.inr (.int, [.int 0, .int 1, .int 1, .int 1, .int 2]) : ACell), (.inr (.int, [.int 0, .int 0, .int 3, .int 1, .int 0]) : ACell), (.inr (.int, [.int 0, .int 3, .int 0, .int 2, .int 0]) : ACell), (.inr (.int, [.int 1, .int 3, .int 2]) : ACell), (.inr (.int, [.int 4]) : ACell)]) := by
  refine e6 ?_
  refine s6_0 ?_
  refine s6_1k 3 rfl rfl ?_
  refine s6_2 ?_
  refine s6_3 (fun h => absurd h (by decide)) (fun _ => ?_)
  refine s6_6 ?_
  refine s6_7 ?_
  refine s6_8 (fun h => absurd h (by decide)) (fun _ => ?_)
  refine s6_11 ?_
  refine s6_12 ?_
  refine s6_13 0 rfl (by decide) rfl ?_
  refine s6_14 ?_
  refine s6_15 ?_
  refine s6_16 0 rfl (by decide) rfl ?_
  refine s6_17 (fun h => absurd h (by decide)) (fun _ => ?_)
  refine s6_20 ?_
  refine s6_21 ?_
  refine s6_22 (fun h => absurd h (by decide)) (fun _ => ?_)
  refine s6_25 ?_
  refine s6_26 ?_
  refine s6_27 1 rfl (by decide) rfl ?_
  refine s6_28 ?_
  refine s6_29 ?_
  refine s6_30 1 rfl (by decide) rfl ?_
  refine s6_31 (fun h => absurd h (by decide)) (fun _ => ?_)
  refine s6_34 ?_
  refine s6_35 ?_
  refine s6_36 (fun h => absurd h (by decide)) (fun _ => ?_)
  refine s6_39 ?_
  refine s6_40 ?_
  refine s6_41 2 rfl (by decide) rfl ?_
  refine s6_42 ?_
  refine s6_43 ?_
  refine s6_44 2 rfl (by decide) rfl ?_
  refine s6_45 (fun h => absurd h (by decide)) (fun _ => ?_)
  refine s6_48 ?_
  refine s6_49 ?_
  exact s6_53 ⟨rfl, rfl⟩
theorem own_r97  : M1 ⟨1, 5, 47, 12⟩ [.ref 2, .int 4] [(.inr (.int, [.int 1, .int 3, .int 0]) : ACell), (.inr (.int, [.int 3, .int 2, .int 0]) : ACell), (.inl (0, [.null, .null, .null, .null, .null]) : ACell)] (Is none [(.inr (.int, [.int 1, .int 3, .int 0]) : ACell), (.inr (.int, [.int 3, .int 2, .int 0]) : ACell), (.inl (0, [.ref 3, .ref 4, .ref 5, .ref 6, .ref 7]) : ACell), (.inr (.int, [.int 0, .int 0, .int 0, .int 0, .int 0, .int 0, .int 0, .int 0, .int 0, .int 0, .int 0, .int 0, .int 0, .int 0, .int 0, .int 0]) : ACell), (.inr (.int, [.int 0, .int 0, .int 0, .int 0, .int 0, .int 0, .int 0, .int 0, .int 0, .int 0, .int 0, .int 0, .int 0, .int 0, .int 0, .int 0]) : ACell), (.inr (.int, [.int 0, .int 0, .int 0, .int 0, .int 0]) : ACell), (.inr (.int, [.int 0, .int 0, .int 0, .int 0, .int 0]) : ACell), (.inr (.int, [.int 0, .int 0, .int 0, .int 0, .int 0]) : ACell)]) := by
  refine e1 ?_
  refine s1_0 ?_
  refine s1_1 rfl ?_
  refine s1_4 ?_
  refine s1_5 ?_
  refine s1_7 3 16 (by decide) rfl rfl ?_
  refine s1_9 rfl ?_
  refine s1_12 ?_
  refine s1_13 ?_
  refine s1_15 4 16 (by decide) rfl rfl ?_
  refine s1_17 rfl ?_
  refine s1_20 ?_
  refine s1_21 ?_
  refine s1_22 ?_
  refine s1_23 ?_
  refine s1_24 5 5 (by decide) rfl rfl ?_
  refine s1_26 rfl ?_
  refine s1_29 ?_
  refine s1_30 ?_
  refine s1_31 ?_
  refine s1_32 ?_
  refine s1_33 6 5 (by decide) rfl rfl ?_
  refine s1_35 rfl ?_
  refine s1_38 ?_
  refine s1_39 ?_
  refine s1_40 ?_
  refine s1_41 ?_
  refine s1_42 7 5 (by decide) rfl rfl ?_
  refine s1_44 rfl ?_
  exact s1_47 ⟨rfl, rfl⟩
theorem own_r98  : M2 ⟨0, 0, 0, 0⟩ [.ref 2, .int 1, .int 1] [(.inr (.int, [.int 1, .int 3, .int 0]) : ACell), (.inr (.int, [.int 3, .int 2, .int 0]) : ACell), (.inl (0, [.ref 3, .ref 4, .ref 5, .ref 6, .ref 7]) : ACell), (.inr (.int, [.int 0, .int 0, .int 0, .int 0, .int 0, .int 0, .int 0, .int 0, .int 0, .int 0, .int 0, .int 0, .int 0, .int 0, .int 0, .int 0]) : ACell), (.inr (.int, [.int 0, .int 0, .int 0, .int 0, .int 0, .int 0, .int 0, .int 0, .int 0, .int 0, .int 0, .int 0, .int 0, .int 0, .int 0, .int 0]) : ACell), (.inr (.int, [.int 0, .int 0, .int 0, .int 0, .int 0]) : ACell), (.inr (.int, [.int 0, .int 0, .int 0, .int 0, .int 0]) : ACell), (.inr (.int, [.int 0, .int 0, .int 0, .int 0, .int 0]) : ACell)] (Is none [(.inr (.int, [.int 1, .int 3, .int 0]) : ACell), (.inr (.int, [.int 3, .int 2, .int 0]) : ACell), (.inl (0, [.ref 3, .ref 4, .ref 5, .ref 6, .ref 7]) : ACell), (.inr (.int, [.int 0, .int 1, .int 0, .int 0, .int 0, .int 0, .int 0, .int 0, .int 0, .int 0, .int 0, .int 0, .int 0, .int 0, .int 0, .int 0]) : ACell), (.inr (.int, [.int 0, .int 1, .int 0, .int 0, .int 0, .int 0, .int 0, .int 0, .int 0, .int 0, .int 0, .int 0, .int 0, .int 0, .int 0, .int 0]) : ACell), (.inr (.int, [.int 0, .int 1, .int 0, .int 0, .int 0]) : ACell), (.inr (.int, [.int 0, .int 0, .int 0, .int 0, .int 0]) : ACell), (.inr (.int, [.int 0, .int 0, .int 0, .int 0, .int 0]) : ACell)]) := by
  refine e2 ?_
  refine s2_0 ?_
  refine s2_1 ?_
  refine s2_2 rfl ?_
  refine s2_5k 16 rfl rfl ?_
  refine s2_6 (fun _ => ?_) (fun h => absurd h (by decide))
  refine s2_45 ?_
  refine s2_46 rfl ?_
  refine s2_49 ?_
  refine s2_50 ?_
  refine s2_51 1 rfl (by decide) rfl ?_
  refine s2_52 ?_
  refine s2_53 rfl ?_
  refine s2_56 ?_
  refine s2_57 ?_
  refine s2_58 rfl ?_
  refine s2_61 ?_
  refine s2_62 1 rfl (by decide) rfl ?_
  refine s2_63 1 rfl (by decide) rfl ?_
  refine s2_64 ?_
  refine s2_65 rfl ?_
  refine s2_68 ?_
  refine s2_69 ?_
  refine s2_70 1 rfl (by decide) rfl ?_
  refine s2_71 ?_
  refine s2_72 rfl ?_
  refine s2_75 ?_
  refine s2_76 1 rfl (by decide) rfl ?_
  refine s2_77 (fun h => absurd h (by decide)) (fun _ => ?_)
  refine s2_80 ?_
  refine s2_81 rfl ?_
  refine s2_84 ?_
  refine s2_85 ?_
  refine s2_86 1 rfl (by decide) rfl ?_
  refine s2_87 ?_
  refine s2_102 ?_
  refine s2_103 rfl ?_
  refine s2_106 ?_
  refine s2_107 ?_
  refine s2_108 1 rfl (by decide) rfl ?_
  exact s2_109 ⟨rfl, rfl⟩
theorem own_r99  : M2 ⟨0, 0, 0, 0⟩ [.ref 2, .int 2, .int 1] [(.inr (.int, [.int 1, .int 3, .int 0]) : ACell), (.inr (.int, [.int 3, .int 2, .int 0]) : ACell), (.inl (0, [.ref 3, .ref 4, .ref 5, .ref 6, .ref 7]) : ACell), (.inr (.int, [.int 0, .int 1, .int 0, .int 0, .int 0, .int 0, .int 0, .int 0, .int 0, .int 0, .int 0, .int 0, .int 0, .int 0, .int 0, .int 0]) : ACell), (.inr (.int, [.int 0, .int 1, .int 0, .int 0, .int 0, .int 0, .int 0, .int 0, .int 0, .int 0, .int 0, .int 0, .int 0, .int 0, .int 0, .int 0]) : ACell), (.inr (.int, [.int 0, .int 1, .int 0, .int 0, .int 0]) : ACell), (.inr (.int, [.int 0, .int 0, .int 0, .int 0, .int 0]) : ACell), (.inr (.int, [.int 0, .int 0, .int 0, .int 0, .int 0]) : ACell)] (Is none [(.inr (.int, [.int 1, .int 3, .int 0]) : ACell), (.inr (.int, [.int 3, .int 2, .int 0]) : ACell), (.inl (0, [.ref 3, .ref 4, .ref 5, .ref 6, .ref 7]) : ACell), (.inr (.int, [.int 0, .int 1, .int 0, .int 0, .int 0, .int 0, .int 0, .int 0, .int 0, .int 0, .int 0, .int 0, .int 0, .int 0, .int 0, .int 0]) : ACell), (.inr (.int, [.int 0, .int 2, .int 0, .int 0, .int 0, .int 0, .int 0, .int 0, .int 0, .int 0, .int 0, .int 0, .int 0, .int 0, .int 0, .int 0]) : ACell), (.inr (.int, [.int 0, .int 1, .int 1, .int 0, .int 0]) : ACell), (.inr (.int, [.int 0, .int 0, .int 1, .int 0, .int 0]) : ACell), (.inr (.int, [.int 0, .int 2, .int 0, .int 0, .int 0]) : ACell)]) := by
  refine e2 ?_
  refine s2_0 ?_
  refine s2_1 ?_
  refine s2_2 rfl ?_
  refine s2_5k 16 rfl rfl ?_
  refine s2_6 (fun _ => ?_) (fun h => absurd h (by decide))
  refine s2_45 ?_
  refine s2_46 rfl ?_
  refine s2_49 ?_
  refine s2_50 ?_
  refine s2_51 2 rfl (by decide) rfl ?_
  refine s2_52 ?_
  refine s2_53 rfl ?_
  refine s2_56 ?_
  refine s2_57 ?_
  refine s2_58 rfl ?_
  refine s2_61 ?_
  refine s2_62 1 rfl (by decide) rfl ?_
  refine s2_63 2 rfl (by decide) rfl ?_
  refine s2_64 ?_
  refine s2_65 rfl ?_
  refine s2_68 ?_
  refine s2_69 ?_
  refine s2_70 2 rfl (by decide) rfl ?_
  refine s2_71 ?_
  refine s2_72 rfl ?_
  refine s2_75 ?_
  refine s2_76 1 rfl (by decide) rfl ?_
  refine s2_77 (fun _ => ?_) (fun h => absurd h (by decide))
  refine s2_90 ?_
  refine s2_91 rfl ?_
  refine s2_94 ?_
  refine s2_95 rfl ?_
  refine s2_98 ?_
  refine s2_99 1 rfl (by decide) rfl ?_
  refine s2_100 ?_
  refine s2_101 1 rfl (by decide) rfl ?_
  refine s2_102 ?_
  refine s2_103 rfl ?_
  refine s2_106 ?_
  refine s2_107 ?_
  refine s2_108 1 rfl (by decide) rfl ?_
  exact s2_109 ⟨rfl, rfl⟩
theorem own_r100  : M2 ⟨0, 0, 0, 0⟩ [.ref 2, .int 3, .int 1] [(.inr (.int, [.int 1, .int 3, .int 0]) : ACell), (.inr (.int, [.int 3, .int 2, .int 0]) : ACell), (.inl (0, [.ref 3, .ref 4, .ref 5, .ref 6, .ref 7]) : ACell), (.inr (.int, [.int 0, .int 1, .int 0, .int 0, .int 0, .int 0, .int 0, .int 0, .int 0, .int 0, .int 0, .int 0, .int 0, .int 0, .int 0, .int 0]) : ACell), (.inr (.int, [.int 0, .int 2, .int 0, .int 0, .int 0, .int 0, .int 0, .int 0, .int 0, .int 0, .int 0, .int 0, .int 0, .int 0, .int 0, .int 0]) : ACell), (.inr (.int, [.int 0, .int 1, .int 1, .int 0, .int 0]) : ACell), (.inr (.int, [.int 0, .int 0, .int 1, .int 0, .int 0]) : ACell), (.inr (.int, [.int 0, .int 2, .int 0, .int 0, .int 0]) : ACell)] (Is none [(.inr (.int, [.int 1, .int 3, .int 0]) : ACell), (.inr (.int, [.int 3, .int 2, .int 0]) : ACell), (.inl (0, [.ref 3, .ref 4, .ref 5, .ref 6, .ref 7]) : ACell), (.inr (.int, [.int 0, .int 1, .int 0, .int 0, .int 0, .int 0, .int 0, .int 0, .int 0, .int 0, .int 0, .int 0, .int 0, .int 0, .int 0, .int 0]) : ACell), (.inr (.int, [.int 0, .int 3, .int 0, .int 0, .int 0, .int 0, .int 0, .int 0, .int 0, .int 0, .int 0, .int 0, .int 0, .int 0, .int 0, .int 0]) : ACell), (.inr (.int, [.int 0, .int 1, .int 1, .int 1, .int 0]) : ACell), (.inr (.int, [.int 0, .int 0, .int 1, .int 2, .int 0]) : ACell), (.inr (.int, [.int 0, .int 2, .int 3, .int 0, .int 0]) : ACell)]) := by
  refine e2 ?_
  refine s2_0 ?_
  refine s2_1 ?_
  refine s2_2 rfl ?_
  refine s2_5k 16 rfl rfl ?_
  refine s2_6 (fun _ => ?_) (fun h => absurd h (by decide))
  refine s2_45 ?_
  refine s2_46 rfl ?_
  refine s2_49 ?_
  refine s2_50 ?_
  refine s2_51 3 rfl (by decide) rfl ?_
  refine s2_52 ?_
  refine s2_53 rfl ?_
  refine s2_56 ?_
  refine s2_57 ?_
  refine s2_58 rfl ?_
  refine s2_61 ?_
  refine s2_62 1 rfl (by decide) rfl ?_
  refine s2_63 3 rfl (by decide) rfl ?_
  refine s2_64 ?_
  refine s2_65 rfl ?_
  refine s2_68 ?_
  refine s2_69 ?_
  refine s2_70 3 rfl (by decide) rfl ?_
  refine s2_71 ?_
  refine s2_72 rfl ?_
  refine s2_75 ?_
  refine s2_76 1 rfl (by decide) rfl ?_
  refine s2_77 (fun _ => ?_) (fun h => absurd h (by decide))
  refine s2_90 ?_
  refine s2_91 rfl ?_
  refine s2_94 ?_
  refine s2_95 rfl ?_
  refine s2_98 ?_
  refine s2_99 1 rfl (by decide) rfl ?_
  refine s2_100 ?_
  refine s2_101 2 rfl (by decide) rfl ?_
  refine s2_102 ?_
  refine s2_103 rfl ?_
  refine s2_106 ?_
  refine s2_107 ?_
  refine s2_108 1 rfl (by decide) rfl ?_
  exact s2_109 ⟨rfl, rfl⟩
theorem own_r101  : M2 ⟨0, 0, 0, 0⟩ [.ref 2, .int 4, .int 2] [(.inr (.int, [.int 1, .int 3, .int 0]) : ACell), (.inr (.int, [.int 3, .int 2, .int 0]) : ACell), (.inl (0, [.ref 3, .ref 4, .ref 5, .ref 6, .ref 7]) : ACell), (.inr (.int, [.int 0, .int 1, .int 0, .int 0, .int 0, .int 0, .int 0, .int 0, .int 0, .int 0, .int 0, .int 0, .int 0, .int 0, .int 0, .int 0]) : ACell), (.inr (.int, [.int 0, .int 3, .int 0, .int 0, .int 0, .int 0, .int 0, .int 0, .int 0, .int 0, .int 0, .int 0, .int 0, .int 0, .int 0, .int 0]) : ACell), (.inr (.int, [.int 0, .int 1, .int 1, .int 1, .int 0]) : ACell), (.inr (.int, [.int 0, .int 0, .int 1, .int 2, .int 0]) : ACell), (.inr (.int, [.int 0, .int 2, .int 3, .int 0, .int 0]) : ACell)] (Is none [(.inr (.int, [.int 1, .int 3, .int 0]) : ACell), (.inr (.int, [.int 3, .int 2, .int 0]) : ACell), (.inl (0, [.ref 3, .ref 4, .ref 5, .ref 6, .ref 7]) : ACell), (.inr (.int, [.int 0, .int 1, .int 4, .int 0, .int 0, .int 0, .int 0, .int 0, .int 0, .int 0, .int 0, .int 0, .int 0, .int 0, .int 0, .int 0]) : ACell), (.inr (.int, [.int 0, .int 3, .int 4, .int 0, .int 0, .int 0, .int 0, .int 0, .int 0, .int 0, .int 0, .int 0, .int 0, .int 0, .int 0, .int 0]) : ACell), (.inr (.int, [.int 0, .int 1, .int 1, .int 1, .int 2]) : ACell), (.inr (.int, [.int 0, .int 0, .int 1, .int 2, .int 0]) : ACell), (.inr (.int, [.int 0, .int 2, .int 3, .int 0, .int 0]) : ACell)]) := by
  refine e2 ?_
  refine s2_0 ?_
  refine s2_1 ?_
  refine s2_2 rfl ?_
  refine s2_5k 16 rfl rfl ?_
  refine s2_6 (fun _ => ?_) (fun h => absurd h (by decide))
  refine s2_45 ?_
  refine s2_46 rfl ?_
  refine s2_49 ?_
  refine s2_50 ?_
  refine s2_51 4 rfl (by decide) rfl ?_
  refine s2_52 ?_
  refine s2_53 rfl ?_
  refine s2_56 ?_
  refine s2_57 ?_
  refine s2_58 rfl ?_
  refine s2_61 ?_
  refine s2_62 2 rfl (by decide) rfl ?_
  refine s2_63 4 rfl (by decide) rfl ?_
  refine s2_64 ?_
  refine s2_65 rfl ?_
  refine s2_68 ?_
  refine s2_69 ?_
  refine s2_70 4 rfl (by decide) rfl ?_
  refine s2_71 ?_
  refine s2_72 rfl ?_
  refine s2_75 ?_
  refine s2_76 2 rfl (by decide) rfl ?_
  refine s2_77 (fun h => absurd h (by decide)) (fun _ => ?_)
  refine s2_80 ?_
  refine s2_81 rfl ?_
  refine s2_84 ?_
  refine s2_85 ?_
  refine s2_86 2 rfl (by decide) rfl ?_
  refine s2_87 ?_
  refine s2_102 ?_
  refine s2_103 rfl ?_
  refine s2_106 ?_
  refine s2_107 ?_
  refine s2_108 2 rfl (by decide) rfl ?_
  exact s2_109 ⟨rfl, rfl⟩
theorem own_r102  : M3 ⟨0, 0, 0, 0⟩ [.ref 2, .int 2] [(.inr (.int, [.int 1, .int 3, .int 0]) : ACell), (.inr (.int, [.int 3, .int 2, .int 0]) : ACell), (.inl (0, [.ref 3, .ref 4, .ref 5, .ref 6, .ref 7]) : ACell), (.inr (.int, [.int 0, .int 1, .int 4, .int 0, .int 0, .int 0, .int 0, .int 0, .int 0, .int 0, .int 0, .int 0, .int 0, .int 0, .int 0, .int 0]) : ACell), (.inr (.int, [.int 0, .int 3, .int 4, .int 0, .int 0, .int 0, .int 0, .int 0, .int 0, .int 0, .int 0, .int 0, .int 0, .int 0, .int 0, .int 0]) : ACell), (.inr (.int, [.int 0, .int 1, .int 1, .int 1, .int 2]) : ACell), (.inr (.int, [.int 0, .int 0, .int 1, .int 2, .int 0]) : ACell), (.inr (.int, [.int 0, .int 2, .int 3, .int 0, .int 0]) : ACell)] (Is none [(.inr (.int, [.int 1, .int 3, .int 0]) : ACell), (.inr (.int, [.int 3, .int 2, .int 0]) : ACell), (.inl (0, [.ref 3, .ref 4, .ref 5, .ref 6, .ref 7]) : ACell), (.inr (.int, [.int 0, .int 1, .int 4, .int 0, .int 0, .int 0, .int 0, .int 0, .int 0, .int 0, .int 0, .int 0, .int 0, .int 0, .int 0, .int 0]) : ACell), (.inr (.int, [.int 0, .int 3, .int 4, .int 0, .int 0, .int 0, .int 0, .int 0, .int 0, .int 0, .int 0, .int 0, .int 0, .int 0, .int 0, .int 0]) : ACell), (.inr (.int, [.int 0, .int 1, .int 0, .int 1, .int 2]) : ACell), (.inr (.int, [.int 0, .int 0, .int 1, .int 1, .int 0]) : ACell), (.inr (.int, [.int 0, .int 3, .int 3, .int 0, .int 0]) : ACell)]) := by
  refine e3 ?_
  refine s3_0 ?_
  refine s3_1 rfl ?_
  refine s3_4 ?_
  refine s3_5 2 rfl (by decide) rfl ?_
  refine s3_6 rfl ?_
  refine s3_7 ?_
  refine s3_8 rfl ?_
  refine s3_11 ?_
  refine s3_12 2 rfl (by decide) rfl ?_
  refine s3_13 (fun _ => ?_) (fun h => absurd h (by decide))
  refine s3_31 ?_
  refine s3_32 rfl ?_
  refine s3_35 ?_
  refine s3_36 rfl ?_
  refine s3_39 ?_
  refine s3_40 2 rfl (by decide) rfl ?_
  refine s3_41 ?_
  refine s3_42 rfl ?_
  refine s3_45 ?_
  refine s3_46 2 rfl (by decide) rfl ?_
  refine s3_47 1 rfl (by decide) rfl ?_
  refine s3_48 ?_
  refine s3_49 rfl ?_
  refine s3_52 ?_
  refine s3_53 2 rfl (by decide) rfl ?_
  refine s3_54 (fun _ => ?_) (fun h => absurd h (by decide))
  refine s3_72 ?_
  refine s3_73 rfl ?_
  refine s3_76 ?_
  refine s3_77 rfl ?_
  refine s3_80 ?_
  refine s3_81 2 rfl (by decide) rfl ?_
  refine s3_82 ?_
  refine s3_83 rfl ?_
  refine s3_86 ?_
  refine s3_87 2 rfl (by decide) rfl ?_
  refine s3_88 3 rfl (by decide) rfl ?_
  refine s3_89 ?_
  refine s3_90 rfl ?_
  refine s3_93 ?_
  refine s3_94 ?_
  refine s3_95 2 rfl (by decide) rfl ?_
  exact s3_96 ⟨rfl, rfl⟩
theorem own_r103  : M4 ⟨0, 0, 0, 0⟩ [.ref 2, .int 2] [(.inr (.int, [.int 1, .int 3, .int 0]) : ACell), (.inr (.int, [.int 3, .int 2, .int 0]) : ACell), (.inl (0, [.ref 3, .ref 4, .ref 5, .ref 6, .ref 7]) : ACell), (.inr (.int, [.int 0, .int 1, .int 4, .int 0, .int 0, .int 0, .int 0, .int 0, .int 0, .int 0, .int 0, .int 0, .int 0, .int 0, .int 0, .int 0]) : ACell), (.inr (.int, [.int 0, .int 3, .int 4, .int 0, .int 0, .int 0, .int 0, .int 0, .int 0, .int 0, .int 0, .int 0, .int 0, .int 0, .int 0, .int 0]) : ACell), (.inr (.int, [.int 0, .int 1, .int 0, .int 1, .int 2]) : ACell), (.inr (.int, [.int 0, .int 0, .int 1, .int 1, .int 0]) : ACell), (.inr (.int, [.int 0, .int 3, .int 3, .int 0, .int 0]) : ACell)] (Is (some (.int 0)) [(.inr (.int, [.int 1, .int 3, .int 0]) : ACell), (.inr (.int, [.int 3, .int 2, .int 0]) : ACell), (.inl (0, [.ref 3, .ref 4, .ref 5, .ref 6, .ref 7]) : ACell), (.inr (.int, [.int 0, .int 1, .int 4, .int 0, .int 0, .int 0, .int 0, .int 0, .int 0, .int 0, .int 0, .int 0, .int 0, .int 0, .int 0, .int 0]) : ACell), (.inr (.int, [.int 0, .int 3, .int 4, .int 0, .int 0, .int 0, .int 0, .int 0, .int 0, .int 0, .int 0, .int 0, .int 0, .int 0, .int 0, .int 0]) : ACell), (.inr (.int, [.int 0, .int 1, .int 0, .int 1, .int 2]) : ACell), (.inr (.int, [.int 0, .int 0, .int 1, .int 1, .int 0]) : ACell), (.inr (.int, [.int 0, .int 3, .int 3, .int 0, .int 0]) : ACell)]) := by
  refine e4 ?_
  refine s4_0 ?_
  refine s4_1 rfl ?_
  refine s4_4 ?_
  refine s4_5 2 rfl (by decide) rfl ?_
  exact s4_6 ⟨rfl, rfl⟩
theorem own_r104  : M3 ⟨0, 0, 0, 0⟩ [.ref 2, .int 1] [(.inr (.int, [.int 1, .int 3, .int 0]) : ACell), (.inr (.int, [.int 3, .int 2, .int 0]) : ACell), (.inl (0, [.ref 3, .ref 4, .ref 5, .ref 6, .ref 7]) : ACell), (.inr (.int, [.int 0, .int 1, .int 4, .int 0, .int 0, .int 0, .int 0, .int 0, .int 0, .int 0, .int 0, .int 0, .int 0, .int 0, .int 0, .int 0]) : ACell), (.inr (.int, [.int 0, .int 3, .int 4, .int 0, .int 0, .int 0, .int 0, .int 0, .int 0, .int 0, .int 0, .int 0, .int 0, .int 0, .int 0, .int 0]) : ACell), (.inr (.int, [.int 0, .int 1, .int 0, .int 1, .int 2]) : ACell), (.inr (.int, [.int 0, .int 0, .int 1, .int 1, .int 0]) : ACell), (.inr (.int, [.int 0, .int 3, .int 3, .int 0, .int 0]) : ACell)] (Is none [(.inr (.int, [.int 1, .int 3, .int 0]) : ACell), (.inr (.int, [.int 3, .int 2, .int 0]) : ACell), (.inl (0, [.ref 3, .ref 4, .ref 5, .ref 6, .ref 7]) : ACell), (.inr (.int, [.int 0, .int 3, .int 4, .int 0, .int 0, .int 0, .int 0, .int 0, .int 0, .int 0, .int 0, .int 0, .int 0, .int 0, .int 0, .int 0]) : ACell), (.inr (.int, [.int 0, .int 3, .int 4, .int 0, .int 0, .int 0, .int 0, .int 0, .int 0, .int 0, .int 0, .int 0, .int 0, .int 0, .int 0, .int 0]) : ACell), (.inr (.int, [.int 0, .int 0, .int 0, .int 1, .int 2]) : ACell), (.inr (.int, [.int 0, .int 0, .int 1, .int 0, .int 0]) : ACell), (.inr (.int, [.int 0, .int 3, .int 3, .int 0, .int 0]) : ACell)]) := by
  refine e3 ?_
  refine s3_0 ?_
  refine s3_1 rfl ?_
  refine s3_4 ?_
  refine s3_5 1 rfl (by decide) rfl ?_
  refine s3_6 rfl ?_
  refine s3_7 ?_
  refine s3_8 rfl ?_
  refine s3_11 ?_
  refine s3_12 1 rfl (by decide) rfl ?_
  refine s3_13 (fun h => absurd h (by decide)) (fun _ => ?_)
  refine s3_16 ?_
  refine s3_17 rfl ?_
  refine s3_20 ?_
  refine s3_21 ?_
  refine s3_22 rfl ?_
  refine s3_25 ?_
  refine s3_26 1 rfl (by decide) rfl ?_
  refine s3_27 1 rfl (by decide) rfl ?_
  refine s3_28 ?_
  refine s3_48 ?_
  refine s3_49 rfl ?_
  refine s3_52 ?_
  refine s3_53 1 rfl (by decide) rfl ?_
  refine s3_54 (fun _ => ?_) (fun h => absurd h (by decide))
  refine s3_72 ?_
  refine s3_73 rfl ?_
  refine s3_76 ?_
  refine s3_77 rfl ?_
  refine s3_80 ?_
  refine s3_81 1 rfl (by decide) rfl ?_
  refine s3_82 ?_
  refine s3_83 rfl ?_
  refine s3_86 ?_
  refine s3_87 1 rfl (by decide) rfl ?_
  refine s3_88 3 rfl (by decide) rfl ?_
  refine s3_89 ?_
  refine s3_90 rfl ?_
  refine s3_93 ?_
  refine s3_94 ?_
  refine s3_95 1 rfl (by decide) rfl ?_
  exact s3_96 ⟨rfl, rfl⟩
theorem own_r105  : M2 ⟨0, 0, 0, 0⟩ [.ref 2, .int 2, .int 1] [(.inr (.int, [.int 1, .int 3, .int 0]) : ACell), (.inr (.int, [.int 3, .int 2, .int 0]) : ACell), (.inl (0, [.ref 3, .ref 4, .ref 5, .ref 6, .ref 7]) : ACell), (.inr (.int, [.int 0, .int 3, .int 4, .int 0, .int 0, .int 0, .int 0, .int 0, .int 0, .int 0, .int 0, .int 0, .int 0, .int 0, .int 0, .int 0]) : ACell), (.inr (.int, [.int 0, .int 3, .int 4, .int 0, .int 0, .int 0, .int 0, .int 0, .int 0, .int 0, .int 0, .int 0, .int 0, .int 0, .int 0, .int 0]) : ACell), (.inr (.int, [.int 0, .int 0, .int 0, .int 1, .int 2]) : ACell), (.inr (.int, [.int 0, .int 0, .int 1, .int 0, .int 0]) : ACell), (.inr (.int, [.int 0, .int 3, .int 3, .int 0, .int 0]) : ACell)] (Is none [(.inr (.int, [.int 1, .int 3, .int 0]) : ACell), (.inr (.int, [.int 3, .int 2, .int 0]) : ACell), (.inl (0, [.ref 3, .ref 4, .ref 5, .ref 6, .ref 7]) : ACell), (.inr (.int, [.int 0, .int 3, .int 4, .int 0, .int 0, .int 0, .int 0, .int 0, .int 0, .int 0, .int 0, .int 0, .int 0, .int 0, .int 0, .int 0]) : ACell), (.inr (.int, [.int 0, .int 2, .int 4, .int 0, .int 0, .int 0, .int 0, .int 0, .int 0, .int 0, .int 0, .int 0, .int 0, .int 0, .int 0, .int 0]) : ACell), (.inr (.int, [.int 0, .int 0, .int 1, .int 1, .int 2]) : ACell), (.inr (.int, [.int 0, .int 0, .int 3, .int 0, .int 0]) : ACell), (.inr (.int, [.int 0, .int 3, .int 0, .int 2, .int 0]) : ACell)]) := by
  refine e2 ?_
  refine s2_0 ?_
  refine s2_1 ?_
  refine s2_2 rfl ?_
  refine s2_5k 16 rfl rfl ?_
  refine s2_6 (fun _ => ?_) (fun h => absurd h (by decide))
  refine s2_45 ?_
  refine s2_46 rfl ?_
  refine s2_49 ?_
  refine s2_50 ?_
  refine s2_51 2 rfl (by decide) rfl ?_
  refine s2_52 ?_
  refine s2_53 rfl ?_
  refine s2_56 ?_
  refine s2_57 ?_
  refine s2_58 rfl ?_
  refine s2_61 ?_
  refine s2_62 1 rfl (by decide) rfl ?_
  refine s2_63 2 rfl (by decide) rfl ?_
  refine s2_64 ?_
  refine s2_65 rfl ?_
  refine s2_68 ?_
  refine s2_69 ?_
  refine s2_70 2 rfl (by decide) rfl ?_
  refine s2_71 ?_
  refine s2_72 rfl ?_
  refine s2_75 ?_
  refine s2_76 1 rfl (by decide) rfl ?_
  refine s2_77 (fun _ => ?_) (fun h => absurd h (by decide))
  refine s2_90 ?_
  refine s2_91 rfl ?_
  refine s2_94 ?_
  refine s2_95 rfl ?_
  refine s2_98 ?_
  refine s2_99 1 rfl (by decide) rfl ?_
  refine s2_100 ?_
  refine s2_101 3 rfl (by decide) rfl ?_
  refine s2_102 ?_
  refine s2_103 rfl ?_
  refine s2_106 ?_
  refine s2_107 ?_
  refine s2_108 1 rfl (by decide) rfl ?_
  exact s2_109 ⟨rfl, rfl⟩
theorem own_r106  : M5 ⟨0, 1, 2, 0⟩ [.ref 2, .int 1] [(.inr (.int, [.int 1, .int 3, .int 0]) : ACell), (.inr (.int, [.int 3, .int 2, .int 0]) : ACell), (.inl (0, [.ref 3, .ref 4, .ref 5, .ref 6, .ref 7]) : ACell), (.inr (.int, [.int 0, .int 3, .int 4, .int 0, .int 0, .int 0, .int 0, .int 0, .int 0, .int 0, .int 0, .int 0, .int 0, .int 0, .int 0, .int 0]) : ACell), (.inr (.int, [.int 0, .int 2, .int 4, .int 0, .int 0, .int 0, .int 0, .int 0, .int 0, .int 0, .int 0, .int 0, .int 0, .int 0, .int 0, .int 0]) : ACell), (.inr (.int, [.int 0, .int 0, .int 1, .int 1, .int 2]) : ACell), (.inr (.int, [.int 0, .int 0, .int 3, .int 0, .int 0]) : ACell), (.inr (.int, [.int 0, .int 3, .int 0, .int 2, .int 0]) : ACell)] (Is (some (.ref 8)) [(.inr (.int, [.int 1, .int 3, .int 0]) : ACell), (.inr (.int, [.int 3, .int 2, .int 0]) : ACell), (.inl (0, [.ref 3, .ref 4, .ref 5, .ref 6, .ref 7]) : ACell), (.inr (.int, [.int 0, .int 3, .int 4, .int 0, .int 0, .int 0, .int 0, .int 0, .int 0, .int 0, .int 0, .int 0, .int 0, .int 0, .int 0, .int 0]) : ACell), (.inr (.int, [.int 0, .int 2, .int 4, .int 0, .int 0, .int 0, .int 0, .int 0, .int 0, .int 0, .int 0, .int 0, .int 0, .int 0, .int 0, .int 0]) : ACell), (.inr (.int, [.int 0, .int 0, .int 1, .int 1, .int 2]) : ACell), (.inr (.int, [.int 0, .int 0, .int 3, .int 0, .int 0]) : ACell), (.inr (.int, [.int 0, .int 3, .int 0, .int 2, .int 0]) : ACell), (.inr (.int, [.int 3, .int 2]) : ACell)]) := by
  refine e5 ?_
  refine s5_0 ?_
  refine s5_1 rfl ?_
  refine s5_2 ?_
  refine s5_3 rfl ?_
  refine s5_6 ?_
  refine s5_7 1 rfl (by decide) rfl ?_
  refine s5_8 rfl ?_
  refine s5_9 ?_
  refine s5_10 (fun h => absurd h (by decide)) (fun _ => ?_)
  refine s5_13 ?_
  refine s5_16 ?_
  refine s5_17 rfl ?_
  refine s5_20 ?_
  refine s5_21 3 rfl (by decide) rfl ?_
  refine s5_22 rfl ?_
  refine s5_23 ?_
  refine s5_9 ?_
  refine s5_10 (fun h => absurd h (by decide)) (fun _ => ?_)
  refine s5_13 ?_
  refine s5_16 ?_
  refine s5_17 rfl ?_
  refine s5_20 ?_
  refine s5_21 2 rfl (by decide) rfl ?_
  refine s5_22 rfl ?_
  refine s5_23 ?_
  refine s5_9 ?_
  refine s5_10 (fun _ => ?_) (fun h => absurd h (by decide))
  refine s5_26 ?_
  refine s5_27 8 2 (by decide) rfl rfl ?_
  refine s5_29 rfl ?_
  refine s5_30 ?_
  refine s5_31 rfl ?_
  refine s5_33 ?_
  refine s5_34 rfl ?_
  refine s5_37 ?_
  refine s5_38 1 rfl (by decide) rfl ?_
  refine s5_39 rfl ?_
  refine s5_41 ?_
  refine s5_43 (fun h => absurd h (by decide)) (fun _ => ?_)
  refine s5_46 ?_
  refine s5_47 ?_
  refine s5_49 ?_
  refine s5_51 0 rfl (by decide) rfl ?_
  refine s5_52 ?_
  refine s5_55 ?_
  refine s5_56 rfl ?_
  refine s5_59 ?_
  refine s5_61 3 rfl (by decide) rfl ?_
  refine s5_62 rfl ?_
  refine s5_64 ?_
  refine s5_41 ?_
  refine s5_43 (fun h => absurd h (by decide)) (fun _ => ?_)
  refine s5_46 ?_
  refine s5_47 ?_
  refine s5_49 ?_
  refine s5_51 1 rfl (by decide) rfl ?_
  refine s5_52 ?_
  refine s5_55 ?_
  refine s5_56 rfl ?_
  refine s5_59 ?_
  refine s5_61 2 rfl (by decide) rfl ?_
  refine s5_62 rfl ?_
  refine s5_64 ?_
  refine s5_41 ?_
  refine s5_43 (fun _ => ?_) (fun h => absurd h (by decide))
  refine s5_67 ?_
  exact s5_68 ⟨rfl, rfl⟩
theorem own_r107  : M5 ⟨0, 1, 1, 0⟩ [.ref 2, .int 2] [(.inr (.int, [.int 1, .int 3, .int 0]) : ACell), (.inr (.int, [.int 3, .int 2, .int 0]) : ACell), (.inl (0, [.ref 3, .ref 4, .ref 5, .ref 6, .ref 7]) : ACell), (.inr (.int, [.int 0, .int 3, .int 4, .int 0, .int 0, .int 0, .int 0, .int 0, .int 0, .int 0, .int 0, .int 0, .int 0, .int 0, .int 0, .int 0]) : ACell), (.inr (.int, [.int 0, .int 2, .int 4, .int 0, .int 0, .int 0, .int 0, .int 0, .int 0, .int 0, .int 0, .int 0, .int 0, .int 0, .int 0, .int 0]) : ACell), (.inr (.int, [.int 0, .int 0, .int 1, .int 1, .int 2]) : ACell), (.inr (.int, [.int 0, .int 0, .int 3, .int 0, .int 0]) : ACell), (.inr (.int, [.int 0, .int 3, .int 0, .int 2, .int 0]) : ACell), (.inr (.int, [.int 3, .int 2]) : ACell)] (Is (some (.ref 9)) [(.inr (.int, [.int 1, .int 3, .int 0]) : ACell), (.inr (.int, [.int 3, .int 2, .int 0]) : ACell), (.inl (0, [.ref 3, .ref 4, .ref 5, .ref 6, .ref 7]) : ACell), (.inr (.int, [.int 0, .int 3, .int 4, .int 0, .int 0, .int 0, .int 0, .int 0, .int 0, .int 0, .int 0, .int 0, .int 0, .int 0, .int 0, .int 0]) : ACell), (.inr (.int, [.int 0, .int 2, .int 4, .int 0, .int 0, .int 0, .int 0, .int 0, .int 0, .int 0, .int 0, .int 0, .int 0, .int 0, .int 0, .int 0]) : ACell), (.inr (.int, [.int 0, .int 0, .int 1, .int 1, .int 2]) : ACell), (.inr (.int, [.int 0, .int 0, .int 3, .int 0, .int 0]) : ACell), (.inr (.int, [.int 0, .int 3, .int 0, .int 2, .int 0]) : ACell), (.inr (.int, [.int 3, .int 2]) : ACell), (.inr (.int, [.int 4]) : ACell)]) := by
  refine e5 ?_
  refine s5_0 ?_
  refine s5_1 rfl ?_
  refine s5_2 ?_
  refine s5_3 rfl ?_
  refine s5_6 ?_
  refine s5_7 2 rfl (by decide) rfl ?_
  refine s5_8 rfl ?_
  refine s5_9 ?_
  refine s5_10 (fun h => absurd h (by decide)) (fun _ => ?_)
  refine s5_13 ?_
  refine s5_16 ?_
  refine s5_17 rfl ?_
  refine s5_20 ?_
  refine s5_21 4 rfl (by decide) rfl ?_
  refine s5_22 rfl ?_
  refine s5_23 ?_
  refine s5_9 ?_
  refine s5_10 (fun _ => ?_) (fun h => absurd h (by decide))
  refine s5_26 ?_
  refine s5_27 9 1 (by decide) rfl rfl ?_
  refine s5_29 rfl ?_
  refine s5_30 ?_
  refine s5_31 rfl ?_
  refine s5_33 ?_
  refine s5_34 rfl ?_
  refine s5_37 ?_
  refine s5_38 2 rfl (by decide) rfl ?_
  refine s5_39 rfl ?_
  refine s5_41 ?_
  refine s5_43 (fun h => absurd h (by decide)) (fun _ => ?_)
  refine s5_46 ?_
  refine s5_47 ?_
  refine s5_49 ?_
  refine s5_51 0 rfl (by decide) rfl ?_
  refine s5_52 ?_
  refine s5_55 ?_
  refine s5_56 rfl ?_
  refine s5_59 ?_
  refine s5_61 4 rfl (by decide) rfl ?_
  refine s5_62 rfl ?_
  refine s5_64 ?_
  refine s5_41 ?_
  refine s5_43 (fun _ => ?_) (fun h => absurd h (by decide))
  refine s5_67 ?_
  exact s5_68 ⟨rfl, rfl⟩
theorem own_r108  : M6 ⟨0, 0, 0, 0⟩ [.ref 8, .ref 1, .int 2] [(.inr (.int, [.int 1, .int 3, .int 0]) : ACell), (.inr (.int, [.int 3, .int 2, .int 0]) : ACell), (.inl (0, [.ref 3, .ref 4, .ref 5, .ref 6, .ref 7]) : ACell), (.inr (.int, [.int 0, .int 3, .int 4, .int 0, .int 0, .int 0, .int 0, .int 0, .int 0, .int 0, .int 0, .int 0, .int 0, .int 0, .int 0, .int 0]) : ACell), (.inr (.int, [.int 0, .int 2, .int 4, .int 0, .int 0, .int 0, .int 0, .int 0, .int 0, .int 0, .int 0, .int 0, .int 0, .int 0, .int 0, .int 0]) : ACell), (.inr (.int, [.int 0, .int 0, .int 1, .int 1, .int 2]) : ACell), (.inr (.int, [.int 0, .int 0, .int 3, .int 0, .int 0]) : ACell), (.inr (.int, [.int 0, .int 3, .int 0, .int 2, .int 0]) : ACell), (.inr (.int, [.int 3, .int 2]) : ACell), (.inr (.int, [.int 4]) : ACell)] (Is (some (.int 1)) [(.inr (.int, [.int 1, .int 3, .int 0]) : ACell), (.inr (.int, [.int 3, .int 2, .int 0]) : ACell), (.inl (0, [.ref 3, .ref 4, .ref 5, .ref 6, .ref 7]) : ACell), (.inr (.int, [.int 0, .int 3, .int 4, .int 0, .int 0, .int 0, .int 0, .int 0, .int 0, .int 0, .int 0, .int 0, .int 0, .int 0, .int 0, .int 0]) : ACell), (.inr (.int, [.int 0, .int 2, .int 4, .int 0, .int 0, .int 0, .int 0, .int 0, .int 0, .int 0, .int 0, .int 0, .int 0, .int 0, .int 0, .int 0]) : ACell), (.inr (.int, [.int 0, .int 0, .int 1, .int 1, .int 2]) : ACell), (.inr (.int, [.int 0, .int 0, .int 3, .int 0, .int 0]) : ACell), (.inr (.int, [.int 0, .int 3, .int 0, .int 2, .int 0]) : ACell), (.inr (.int, [.int 3, .int 2]) : ACell), (.inr (.int, [.int 4]) : ACell)]) := by
  refine e6 ?_
  refine s6_0 ?_
  refine s6_1k 2 rfl rfl ?_
  refine s6_2 ?_
  refine s6_3 (fun h => absurd h (by decide)) (fun _ => ?_)
  refine s6_6 ?_
  refine s6_7 ?_
  refine s6_8 (fun h => absurd h (by decide)) (fun _ => ?_)
  refine s6_11 ?_
  refine s6_12 ?_
  refine s6_13 0 rfl (by decide) rfl ?_
  refine s6_14 ?_
  refine s6_15 ?_
  refine s6_16 0 rfl (by decide) rfl ?_
  refine s6_17 (fun h => absurd h (by decide)) (fun _ => ?_)
  refine s6_20 ?_
  refine s6_21 ?_
  refine s6_22 (fun h => absurd h (by decide)) (fun _ => ?_)
  refine s6_25 ?_
  refine s6_26 ?_
  refine s6_27 1 rfl (by decide) rfl ?_
  refine s6_28 ?_
  refine s6_29 ?_
  refine s6_30 1 rfl (by decide) rfl ?_
  refine s6_31 (fun h => absurd h (by decide)) (fun _ => ?_)
  refine s6_34 ?_
  refine s6_35 ?_
  refine s6_36 (fun _ => ?_) (fun h => absurd h (by decide))
  refine s6_48 ?_
  refine s6_49 ?_
  exact s6_53 ⟨rfl, rfl⟩
theorem own_r109  : M1 ⟨1, 5, 47, 12⟩ [.ref 2, .int 4] [(.inr (.int, [.int 1, .int 3, .int 0]) : ACell), (.inr (.int, [.int 1, .int 2, .int 0]) : ACell), (.inl (0, [.null, .null, .null, .null, .null]) : ACell)] (Is none [(.inr (.int, [.int 1, .int 3, .int 0]) : ACell), (.inr (.int, [.int 1, .int 2, .int 0]) : ACell), (.inl (0, [.ref 3, .ref 4, .ref 5, .ref 6, .ref 7]) : ACell), (.inr (.int, [.int 0, .int 0, .int 0, .int 0, .int 0, .int 0, .int 0, .int 0, .int 0, .int 0, .int 0, .int 0, .int 0, .int 0, .int 0, .int 0]) : ACell), (.inr (.int, [.int 0, .int 0, .int 0, .int 0, .int 0, .int 0, .int 0, .int 0, .int 0, .int 0, .int 0, .int 0, .int 0, .int 0, .int 0, .int 0]) : ACell), (.inr (.int, [.int 0, .int 0, .int 0, .int 0, .int 0]) : ACell), (.inr (.int, [.int 0, .int 0, .int 0, .int 0, .int 0]) : ACell), (.inr (.int, [.int 0, .int 0, .int 0, .int 0, .int 0]) : ACell)]) := by
  refine e1 ?_
  refine s1_0 ?_
  refine s1_1 rfl ?_
  refine s1_4 ?_
  refine s1_5 ?_
  refine s1_7 3 16 (by decide) rfl rfl ?_
  refine s1_9 rfl ?_
  refine s1_12 ?_
  refine s1_13 ?_
  refine s1_15 4 16 (by decide) rfl rfl ?_
  refine s1_17 rfl ?_
  refine s1_20 ?_
  refine s1_21 ?_
  refine s1_22 ?_
  refine s1_23 ?_
  refine s1_24 5 5 (by decide) rfl rfl ?_
  refine s1_26 rfl ?_
  refine s1_29 ?_
  refine s1_30 ?_
  refine s1_31 ?_
  refine s1_32 ?_
  refine s1_33 6 5 (by decide) rfl rfl ?_
  refine s1_35 rfl ?_
  refine s1_38 ?_
  refine s1_39 ?_
  refine s1_40 ?_
  refine s1_41 ?_
  refine s1_42 7 5 (by decide) rfl rfl ?_
  refine s1_44 rfl ?_
  exact s1_47 ⟨rfl, rfl⟩
theorem own_r110  : M2 ⟨0, 0, 0, 0⟩ [.ref 2, .int 1, .int 1] [(.inr (.int, [.int 1, .int 3, .int 0]) : ACell), (.inr (.int, [.int 1, .int 2, .int 0]) : ACell), (.inl (0, [.ref 3, .ref 4, .ref 5, .ref 6, .ref 7]) : ACell), (.inr (.int, [.int 0, .int 0, .int 0, .int 0, .int 0, .int 0, .int 0, .int 0, .int 0, .int 0, .int 0, .int 0, .int 0, .int 0, .int 0, .int 0]) : ACell), (.inr (.int, [.int 0, .int 0, .int 0, .int 0, .int 0, .int 0, .int 0, .int 0, .int 0, .int 0, .int 0, .int 0, .int 0, .int 0, .int 0, .int 0]) : ACell), (.inr (.int, [.int 0, .int 0, .int 0, .int 0, .int 0]) : ACell), (.inr (.int, [.int 0, .int 0, .int 0, .int 0, .int 0]) : ACell), (.inr (.int, [.int 0, .int 0, .int 0, .int 0, .int 0]) : ACell)] (Is none [(.inr (.int, [.int 1, .int 3, .int 0]) : ACell), (.inr (.int, [.int 1, .int 2, .int 0]) : ACell), (.inl (0, [.ref 3, .ref 4, .ref 5, .ref 6, .ref 7]) : ACell), (.inr (.int, [.int 0, .int 1, .int 0, .int 0, .int 0, .int 0, .int 0, .int 0, .int 0, .int 0, .int 0, .int 0, .int 0, .int 0, .int 0, .int 0]) : ACell), (.inr (.int, [.int 0, .int 1, .int 0, .int 0, .int 0, .int 0, .int 0, .int 0, .int 0, .int 0, .int 0, .int 0, .int 0, .int 0, .int 0, .int 0]) : ACell), (.inr (.int, [.int 0, .int 1, .int 0, .int 0, .int 0]) : ACell), (.inr (.int, [.int 0, .int 0, .int 0, .int 0, .int 0]) : ACell), (.inr (.int, [.int 0, .int 0, .int 0, .int 0, .int 0]) : ACell)]) := by
  refine e2 ?_
  refine s2_0 ?_
  refine s2_1 ?_
  refine s2_2 rfl ?_
  refine s2_5k 16 rfl rfl ?_
  refine s2_6 (fun _ => ?_) (fun h => absurd h (by decide))
  refine s2_45 ?_
  refine s2_46 rfl ?_
  refine s2_49 ?_
  refine s2_50 ?_
  refine s2_51 1 rfl (by decide) rfl ?_
  refine s2_52 ?_
  refine s2_53 rfl ?_
  refine s2_56 ?_
  refine s2_57 ?_
  refine s2_58 rfl ?_
  refine s2_61 ?_
  refine s2_62 1 rfl (by decide) rfl ?_
  refine s2_63 1 rfl (by decide) rfl ?_
  refine s2_64 ?_
  refine s2_65 rfl ?_
  refine s2_68 ?_
  refine s2_69 ?_
  refine s2_70 1 rfl (by decide) rfl ?_
  refine s2_71 ?_
  refine s2_72 rfl ?_
  refine s2_75 ?_
  refine s2_76 1 rfl (by decide) rfl ?_
  refine s2_77 (fun h => absurd h (by decide)) (fun _ => ?_)
  refine s2_80 ?_
  refine s2_81 rfl ?_
  refine s2_84 ?_
  refine s2_85 ?_
  refine s2_86 1 rfl (by decide) rfl ?_
  refine s2_87 ?_
  refine s2_102 ?_
  refine s2_103 rfl ?_
  refine s2_106 ?_
  refine s2_107 ?_
  refine s2_108 1 rfl (by decide) rfl ?_
  exact s2_109 ⟨rfl, rfl⟩
theorem own_r111  : M2 ⟨0, 0, 0, 0⟩ [.ref 2, .int 2, .int 1] [(.inr (.int, [.int 1, .int 3, .int 0]) : ACell), (.inr (.int, [.int 1, .int 2, .int 0]) : ACell), (.inl (0, [.ref 3, .ref 4, .ref 5, .ref 6, .ref 7]) : ACell), (.inr (.int, [.int 0, .int 1, .int 0, .int 0, .int 0, .int 0, .int 0, .int 0, .int 0, .int 0, .int 0, .int 0, .int 0, .int 0, .int 0, .int 0]) : ACell), (.inr (.int, [.int 0, .int 1, .int 0, .int 0, .int 0, .int 0, .int 0, .int 0, .int 0, .int 0, .int 0, .int 0, .int 0, .int 0, .int 0, .int 0]) : ACell), (.inr (.int, [.int 0, .int 1, .int 0, .int 0, .int 0]) : ACell), (.inr (.int, [.int 0, .int 0, .int 0, .int 0, .int 0]) : ACell), (.inr (.int, [.int 0, .int 0, .int 0, .int 0, .int 0]) : ACell)] (Is none [(.inr (.int, [.int 1, .int 3, .int 0]) : ACell), (.inr (.int, [.int 1, .int 2, .int 0]) : ACell), (.inl (0, [.ref 3, .ref 4, .ref 5, .ref 6, .ref 7]) : ACell), (.inr (.int, [.int 0, .int 1, .int 0, .int 0, .int 0, .int 0, .int 0, .int 0, .int 0, .int 0, .int 0, .int 0, .int 0, .int 0, .int 0, .int 0]) : ACell), (.inr (.int, [.int 0, .int 2, .int 0, .int 0, .int 0, .int 0, .int 0, .int 0, .int 0, .int 0, .int 0, .int 0, .int 0, .int 0, .int 0, .int 0]) : ACell), (.inr (.int, [.int 0, .int 1, .int 1, .int 0, .int 0]) : ACell), (.inr (.int, [.int 0, .int 0, .int 1, .int 0, .int 0]) : ACell), (.inr (.int, [.int 0, .int 2, .int 0, .int 0, .int 0]) : ACell)]) := by
  refine e2 ?_
  refine s2_0 ?_
  refine s2_1 ?_
  refine s2_2 rfl ?_
  refine s2_5k 16 rfl rfl ?_
  refine s2_6 (fun _ => ?_) (fun h => absurd h (by decide))
  refine s2_45 ?_
  refine s2_46 rfl ?_
  refine s2_49 ?_
  refine s2_50 ?_
  refine s2_51 2 rfl (by decide) rfl ?_
  refine s2_52 ?_
  refine s2_53 rfl ?_
  refine s2_56 ?_
  refine s2_57 ?_
  refine s2_58 rfl ?_
  refine s2_61 ?_
  refine s2_62 1 rfl (by decide) rfl ?_
  refine s2_63 2 rfl (by decide) rfl ?_
  refine s2_64 ?_
  refine s2_65 rfl ?_
  refine s2_68 ?_
  refine s2_69 ?_
  refine s2_70 2 rfl (by decide) rfl ?_
  refine s2_71 ?_
  refine s2_72 rfl ?_
  refine s2_75 ?_
  refine s2_76 1 rfl (by decide) rfl ?_
  refine s2_77 (fun _ => ?_) (fun h => absurd h (by decide))
  refine s2_90 ?_
  refine s2_91 rfl ?_
  refine s2_94 ?_
  refine s2_95 rfl ?_
  refine s2_98 ?_
  refine s2_99 1 rfl (by decide) rfl ?_
  refine s2_100 ?_
  refine s2_101 1 rfl (by decide) rfl ?_
  refine s2_102 ?_
  refine s2_103 rfl ?_
  refine s2_106 ?_
  refine s2_107 ?_
  refine s2_108 1 rfl (by decide) rfl ?_
  exact s2_109 ⟨rfl, rfl⟩
theorem own_r112  : M2 ⟨0, 0, 0, 0⟩ [.ref 2, .int 3, .int 1] [(.inr (.int, [.int 1, .int 3, .int 0]) : ACell), (.inr (.int, [.int 1, .int 2, .int 0]) : ACell), (.inl (0, [.ref 3, .ref 4, .ref 5, .ref 6, .ref 7]) : ACell), (.inr (.int, [.int 0, .int 1, .int 0, .int 0, .int 0, .int 0, .int 0, .int 0, .int 0, .int 0, .int 0, .int 0, .int 0, .int 0, .int 0, .int 0]) : ACell), (.inr (.int, [.int 0, .int 2, .int 0, .int 0, .int 0, .int 0, .int 0, .int 0, .int 0, .int 0, .int 0, .int 0, .int 0, .int 0, .int 0, .int 0]) : ACell), (.inr (.int, [.int 0, .int 1, .int 1, .int 0, .int 0]) : ACell), (.inr (.int, [.int 0, .int 0, .int 1, .int 0, .int 0]) : ACell), (.inr (.int, [.int 0, .int 2, .int 0, .int 0, .int 0]) : ACell)] (Is none [(.inr (.int, [.int 1, .int 3, .int 0]) : ACell), (.inr (.int, [.int 1, .int 2, .int 0]) : ACell), (.inl (0, [.ref 3, .ref 4, .ref 5, .ref 6, .ref 7]) : ACell), (.inr (.int, [.int 0, .int 1, .int 0, .int 0, .int 0, .int 0, .int 0, .int 0, .int 0, .int 0, .int 0, .int 0, .int 0, .int 0, .int 0, .int 0]) : ACell), (.inr (.int, [.int 0, .int 3, .int 0, .int 0, .int 0, .int 0, .int 0, .int 0, .int 0, .int 0, .int 0, .int 0, .int 0, .int 0, .int 0, .int 0]) : ACell), (.inr (.int, [.int 0, .int 1, .int 1, .int 1, .int 0]) : ACell), (.inr (.int, [.int 0, .int 0, .int 1, .int 2, .int 0]) : ACell), (.inr (.int, [.int 0, .int 2, .int 3, .int 0, .int 0]) : ACell)]) := by
  refine e2 ?_
  refine s2_0 ?_
  refine s2_1 ?_
  refine s2_2 rfl ?_
  refine s2_5k 16 rfl rfl ?_
  refine s2_6 (fun _ => ?_) (fun h => absurd h (by decide))
  refine s2_45 ?_
  refine s2_46 rfl ?_
  refine s2_49 ?_
  refine s2_50 ?_
  refine s2_51 3 rfl (by decide) rfl ?_
  refine s2_52 ?_
  refine s2_53 rfl ?_
  refine s2_56 ?_
  refine s2_57 ?_
  refine s2_58 rfl ?_
  refine s2_61 ?_
  refine s2_62 1 rfl (by decide) rfl ?_
  refine s2_63 3 rfl (by decide) rfl ?_
  refine s2_64 ?_
  refine s2_65 rfl ?_
  refine s2_68 ?_
  refine s2_69 ?_
  refine s2_70 3 rfl (by decide) rfl ?_
  refine s2_71 ?_
  refine s2_72 rfl ?_
  refine s2_75 ?_
  refine s2_76 1 rfl (by decide) rfl ?_
  refine s2_77 (fun _ => ?_) (fun h => absurd h (by decide))
  refine s2_90 ?_
  refine s2_91 rfl ?_
  refine s2_94 ?_
  refine s2_95 rfl ?_
  refine s2_98 ?_
  refine s2_99 1 rfl (by decide) rfl ?_
  refine s2_100 ?_
  refine s2_101 2 rfl (by decide) rfl ?_
  refine s2_102 ?_
  refine s2_103 rfl ?_
  refine s2_106 ?_
  refine s2_107 ?_
  refine s2_108 1 rfl (by decide) rfl ?_
  exact s2_109 ⟨rfl, rfl⟩
theorem own_r113  : M2 ⟨0, 0, 0, 0⟩ [.ref 2, .int 4, .int 2] [(.inr (.int, [.int 1, .int 3, .int 0]) : ACell), (.inr (.int, [.int 1, .int 2, .int 0]) : ACell), (.inl (0, [.ref 3, .ref 4, .ref 5, .ref 6, .ref 7]) : ACell), (.inr (.int, [.int 0, .int 1, .int 0, .int 0, .int 0, .int 0, .int 0, .int 0, .int 0, .int 0, .int 0, .int 0, .int 0, .int 0, .int 0, .int 0]) : ACell), (.inr (.int, [.int 0, .int 3, .int 0, .int 0, .int 0, .int 0, .int 0, .int 0, .int 0, .int 0, .int 0, .int 0, .int 0, .int 0, .int 0, .int 0]) : ACell), (.inr (.int, [.int 0, .int 1, .int 1, .int 1, .int 0]) : ACell), (.inr (.int, [.int 0, .int 0, .int 1, .int 2, .int 0]) : ACell), (.inr (.int, [.int 0, .int 2, .int 3, .int 0, .int 0]) : ACell)] (Is none [(.inr (.int, [.int 1, .int 3, .int 0]) : ACell), (.inr (.int, [.int 1, .int 2, .int 0]) : ACell), (.inl (0, [.ref 3, .ref 4, .ref 5, .ref 6, .ref 7]) : ACell), (.inr (.int, [.int 0, .int 1, .int 4, .int 0, .int 0, .int 0, .int 0, .int 0, .int 0, .int 0, .int 0, .int 0, .int 0, .int 0, .int 0, .int 0]) : ACell), (.inr (.int, [.int 0, .int 3, .int 4, .int 0, .int 0, .int 0, .int 0, .int 0, .int 0, .int 0, .int 0, .int 0, .int 0, .int 0, .int 0, .int 0]) : ACell), (.inr (.int, [.int 0, .int 1, .int 1, .int 1, .int 2]) : ACell), (.inr (.int, [.int 0, .int 0, .int 1, .int 2, .int 0]) : ACell), (.inr (.int, [.int 0, .int 2, .int 3, .int 0, .int 0]) : ACell)]) := by
  refine e2 ?_
  refine s2_0 ?_
  refine s2_1 ?_
  refine s2_2 rfl ?_
  refine s2_5k 16 rfl rfl ?_
  refine s2_6 (fun _ => ?_) (fun h => absurd h (by decide))
  refine s2_45 ?_
  refine s2_46 rfl ?_
  refine s2_49 ?_
  refine s2_50 ?_
  refine s2_51 4 rfl (by decide) rfl ?_
  refine s2_52 ?_
  refine s2_53 rfl ?_
  refine s2_56 ?_
  refine s2_57 ?_
  refine s2_58 rfl ?_
  refine s2_61 ?_
  refine s2_62 2 rfl (by decide) rfl ?_
  refine s2_63 4 rfl (by decide) rfl ?_
  refine s2_64 ?_
  refine s2_65 rfl ?_
  refine s2_68 ?_
  refine s2_69 ?_
  refine s2_70 4 rfl (by decide) rfl ?_
  refine s2_71 ?_
  refine s2_72 rfl ?_
  refine s2_75 ?_
  refine s2_76 2 rfl (by decide) rfl ?_
  refine s2_77 (fun h => absurd h (by decide)) (fun _ => ?_)
  refine s2_80 ?_
  refine s2_81 rfl ?_
  refine s2_84 ?_
  refine s2_85 ?_
  refine s2_86 2 rfl (by decide) rfl ?_
  refine s2_87 ?_
  refine s2_102 ?_
  refine s2_103 rfl ?_
  refine s2_106 ?_
  refine s2_107 ?_
  refine s2_108 2 rfl (by decide) rfl ?_
  exact s2_109 ⟨rfl, rfl⟩
theorem own_r114  : M3 ⟨0, 0, 0, 0⟩ [.ref 2, .int 2] [(.inr (.int, [.int 1, .int 3, .int 0]) : ACell), (.inr (.int, [.int 1, .int 2, .int 0]) : ACell), (.inl (0, [.ref 3, .ref 4, .ref 5, .ref 6, .ref 7]) : ACell), (.inr (.int, [.int 0, .int 1, .int 4, .int 0, .int 0, .int 0, .int 0, .int 0, .int 0, .int 0, .int 0, .int 0, .int 0, .int 0, .int 0, .int 0]) : ACell), (.inr (.int, [.int 0, .int 3, .int 4, .int 0, .int 0, .int 0, .int 0, .int 0, .int 0, .int 0, .int 0, .int 0, .int 0, .int 0, .int 0, .int 0]) : ACell), (.inr (.int, [.int 0, .int 1, .int 1, .int 1, .int 2]) : ACell), (.inr (.int, [.int 0, .int 0, .int 1, .int 2, .int 0]) : ACell), (.inr (.int, [.int 0, .int 2, .int 3, .int 0, .int 0]) : ACell)] (Is none [(.inr (.int, [.int 1, .int 3, .int 0]) : ACell), (.inr (.int, [.int 1, .int 2, .int 0]) : ACell), (.inl (0, [.ref 3, .ref 4, .ref 5, .ref 6, .ref 7]) : ACell), (.inr (.int, [.int 0, .int 1, .int 4, .int 0, .int 0, .int 0, .int 0, .int 0, .int 0, .int 0, .int 0, .int 0, .int 0, .int 0, .int 0, .int 0]) : ACell), (.inr (.int, [.int 0, .int 3, .int 4, .int 0, .int 0, .int 0, .int 0, .int 0, .int 0, .int 0, .int 0, .int 0, .int 0, .int 0, .int 0, .int 0]) : ACell), (.inr (.int, [.int 0, .int 1, .int 0, .int 1, .int 2]) : ACell), (.inr (.int, [.int 0, .int 0, .int 1, .int 1, .int 0]) : ACell), (.inr (.int, [.int 0, .int 3, .int 3, .int 0, .int 0]) : ACell)]) := by
  refine e3 ?_
  refine s3_0 ?_
  refine s3_1 rfl ?_
  refine s3_4 ?_
  refine s3_5 2 rfl (by decide) rfl ?_
  refine s3_6 rfl ?_
  refine s3_7 ?_
  refine s3_8 rfl ?_
  refine s3_11 ?_
  refine s3_12 2 rfl (by decide) rfl ?_
  refine s3_13 (fun _ => ?_) (fun h => absurd h (by decide))
  refine s3_31 ?_
  refine s3_32 rfl ?_
  refine s3_35 ?_
  refine s3_36 rfl ?_
  refine s3_39 ?_
  refine s3_40 2 rfl (by decide) rfl ?_
  refine s3_41 ?_
  refine s3_42 rfl ?_
  refine s3_45 ?_
  refine s3_46 2 rfl (by decide) rfl ?_
  refine s3_47 1 rfl (by decide) rfl ?_
  refine s3_48 ?_
  refine s3_49 rfl ?_
  refine s3_52 ?_
  refine s3_53 2 rfl (by decide) rfl ?_
  refine s3_54 (fun _ => ?_) (fun h => absurd h (by decide))
  refine s3_72 ?_
  refine s3_73 rfl ?_
  refine s3_76 ?_
  refine s3_77 rfl ?_
  refine s3_80 ?_
  refine s3_81 2 rfl (by decide) rfl ?_
  refine s3_82 ?_
  refine s3_83 rfl ?_
  refine s3_86 ?_
  refine s3_87 2 rfl (by decide) rfl ?_
  refine s3_88 3 rfl (by decide) rfl ?_
  refine s3_89 ?_
  refine s3_90 rfl ?_
  refine s3_93 ?_
  refine s3_94 ?_
  refine s3_95 2 rfl (by decide) rfl ?_
  exact s3_96 ⟨rfl, rfl⟩
theorem own_r115  : M4 ⟨0, 0, 0, 0⟩ [.ref 2, .int 2] [(.inr (.int, [.int 1, .int 3, .int 0]) : ACell), (.inr (.int, [.int 1, .int 2, .int 0]) : ACell), (.inl (0, [.ref 3, .ref 4, .ref 5, .ref 6, .ref 7]) : ACell), (.inr (.int, [.int 0, .int 1, .int 4, .int 0, .int 0, .int 0, .int 0, .int 0, .int 0, .int 0, .int 0, .int 0, .int 0, .int 0, .int 0, .int 0]) : ACell), (.inr (.int, [.int 0, .int 3, .int 4, .int 0, .int 0, .int 0, .int 0, .int 0, .int 0, .int 0, .int 0, .int 0, .int 0, .int 0, .int 0, .int 0]) : ACell), (.inr (.int, [.int 0, .int 1, .int 0, .int 1, .int 2]) : ACell), (.inr (.int, [.int 0, .int 0, .int 1, .int 1, .int 0]) : ACell), (.inr (.int, [.int 0, .int 3, .int 3, .int 0, .int 0]) : ACell)] (Is (some (.int 0)) [(.inr (.int, [.int 1, .int 3, .int 0]) : ACell), (.inr (.int, [.int 1, .int 2, .int 0]) : ACell), (.inl (0, [.ref 3, .ref 4, .ref 5, .ref 6, .ref 7]) : ACell), (.inr (.int, [.int 0, .int 1, .int 4, .int 0, .int 0, .int 0, .int 0, .int 0, .int 0, .int 0, .int 0, .int 0, .int 0, .int 0, .int 0, .int 0]) : ACell), (.inr (.int, [.int 0, .int 3, .int 4, .int 0, .int 0, .int 0, .int 0, .int 0, .int 0, .int 0, .int 0, .int 0, .int 0, .int 0, .int 0, .int 0]) : ACell), (.inr (.int, [.int 0, .int 1, .int 0, .int 1, .int 2]) : ACell), (.inr (.int, [.int 0, .int 0, .int 1, .int 1, .int 0]) : ACell), (.inr (.int, [.int 0, .int 3, .int 3, .int 0, .int 0]) : ACell)]) := by
  refine e4 ?_
  refine s4_0 ?_
  refine s4_1 rfl ?_
  refine s4_4 ?_
  refine s4_5 2 rfl (by decide) rfl ?_
  exact s4_6 ⟨rfl, rfl⟩
theorem own_r116  : M3 ⟨0, 0, 0, 0⟩ [.ref 2, .int 3] [(.inr (.int, [.int 1, .int 3, .int 0]) : ACell), (.inr (.int, [.int 1, .int 2, .int 0]) : ACell), (.inl (0, [.ref 3, .ref 4, .ref 5, .ref 6, .ref 7]) : ACell), (.inr (.int, [.int 0, .int 1, .int 4, .int 0, .int 0, .int 0, .int 0, .int 0, .int 0, .int 0, .int 0, .int 0, .int 0, .int 0, .int 0, .int 0]) : ACell), (.inr (.int, [.int 0, .int 3, .int 4, .int 0, .int 0, .int 0, .int 0, .int 0, .int 0, .int 0, .int 0, .int 0, .int 0, .int 0, .int 0, .int 0]) : ACell), (.inr (.int, [.int 0, .int 1, .int 0, .int 1, .int 2]) : ACell), (.inr (.int, [.int 0, .int 0, .int 1, .int 1, .int 0]) : ACell), (.inr (.int, [.int 0, .int 3, .int 3, .int 0, .int 0]) : ACell)] (Is none [(.inr (.int, [.int 1, .int 3, .int 0]) : ACell), (.inr (.int, [.int 1, .int 2, .int 0]) : ACell), (.inl (0, [.ref 3, .ref 4, .ref 5, .ref 6, .ref 7]) : ACell), (.inr (.int, [.int 0, .int 1, .int 4, .int 0, .int 0, .int 0, .int 0, .int 0, .int 0, .int 0, .int 0, .int 0, .int 0, .int 0, .int 0, .int 0]) : ACell), (.inr (.int, [.int 0, .int 1, .int 4, .int 0, .int 0, .int 0, .int 0, .int 0, .int 0, .int 0, .int 0, .int 0, .int 0, .int 0, .int 0, .int 0]) : ACell), (.inr (.int, [.int 0, .int 1, .int 0, .int 0, .int 2]) : ACell), (.inr (.int, [.int 0, .int 0, .int 1, .int 1, .int 0]) : ACell), (.inr (.int, [.int 0, .int 0, .int 3, .int 0, .int 0]) : ACell)]) := by
  refine e3 ?_
  refine s3_0 ?_
  refine s3_1 rfl ?_
  refine s3_4 ?_
  refine s3_5 3 rfl (by decide) rfl ?_
  refine s3_6 rfl ?_
  refine s3_7 ?_
  refine s3_8 rfl ?_
  refine s3_11 ?_
  refine s3_12 3 rfl (by decide) rfl ?_
  refine s3_13 (fun _ => ?_) (fun h => absurd h (by decide))
  refine s3_31 ?_
  refine s3_32 rfl ?_
  refine s3_35 ?_
  refine s3_36 rfl ?_
  refine s3_39 ?_
  refine s3_40 3 rfl (by decide) rfl ?_
  refine s3_41 ?_
  refine s3_42 rfl ?_
  refine s3_45 ?_
  refine s3_46 3 rfl (by decide) rfl ?_
  refine s3_47 1 rfl (by decide) rfl ?_
  refine s3_48 ?_
  refine s3_49 rfl ?_
  refine s3_52 ?_
  refine s3_53 3 rfl (by decide) rfl ?_
  refine s3_54 (fun h => absurd h (by decide)) (fun _ => ?_)
  refine s3_57 ?_
  refine s3_58 rfl ?_
  refine s3_61 ?_
  refine s3_62 ?_
  refine s3_63 rfl ?_
  refine s3_66 ?_
  refine s3_67 3 rfl (by decide) rfl ?_
  refine s3_68 1 rfl (by decide) rfl ?_
  refine s3_69 ?_
  refine s3_89 ?_
  refine s3_90 rfl ?_
  refine s3_93 ?_
  refine s3_94 ?_
  refine s3_95 3 rfl (by decide) rfl ?_
  exact s3_96 ⟨rfl, rfl⟩
theorem own_r117  : M2 ⟨0, 0, 0, 0⟩ [.ref 2, .int 2, .int 1] [(.inr (.int, [.int 1, .int 3, .int 0]) : ACell), (.inr (.int, [.int 1, .int 2, .int 0]) : ACell), (.inl (0, [.ref 3, .ref 4, .ref 5, .ref 6, .ref 7]) : ACell), (.inr (.int, [.int 0, .int 1, .int 4, .int 0, .int 0, .int 0, .int 0, .int 0, .int 0, .int 0, .int 0, .int 0, .int 0, .int 0, .int 0, .int 0]) : ACell), (.inr (.int, [.int 0, .int 1, .int 4, .int 0, .int 0, .int 0, .int 0, .int 0, .int 0, .int 0, .int 0, .int 0, .int 0, .int 0, .int 0, .int 0]) : ACell), (.inr (.int, [.int 0, .int 1, .int 0, .int 0, .int 2]) : ACell), (.inr (.int, [.int 0, .int 0, .int 1, .int 1, .int 0]) : ACell), (.inr (.int, [.int 0, .int 0, .int 3, .int 0, .int 0]) : ACell)] (Is none [(.inr (.int, [.int 1, .int 3, .int 0]) : ACell), (.inr (.int, [.int 1, .int 2, .int 0]) : ACell), (.inl (0, [.ref 3, .ref 4, .ref 5, .ref 6, .ref 7]) : ACell), (.inr (.int, [.int 0, .int 1, .int 4, .int 0, .int 0, .int 0, .int 0, .int 0, .int 0, .int 0, .int 0, .int 0, .int 0, .int 0, .int 0, .int 0]) : ACell), (.inr (.int, [.int 0, .int 2, .int 4, .int 0, .int 0, .int 0, .int 0, .int 0, .int 0, .int 0, .int 0, .int 0, .int 0, .int 0, .int 0, .int 0]) : ACell), (.inr (.int, [.int 0, .int 1, .int 1, .int 0, .int 2]) : ACell), (.inr (.int, [.int 0, .int 0, .int 1, .int 1, .int 0]) : ACell), (.inr (.int, [.int 0, .int 2, .int 0, .int 0, .int 0]) : ACell)]) := by
  refine e2 ?_
  refine s2_0 ?_
  refine s2_1 ?_
  refine s2_2 rfl ?_
  refine s2_5k 16 rfl rfl ?_
  refine s2_6 (fun _ => ?_) (fun h => absurd h (by decide))
  refine s2_45 ?_
  refine s2_46 rfl ?_
  refine s2_49 ?_
  refine s2_50 ?_
  refine s2_51 2 rfl (by decide) rfl ?_
  refine s2_52 ?_
  refine s2_53 rfl ?_
  refine s2_56 ?_
  refine s2_57 ?_
  refine s2_58 rfl ?_
  refine s2_61 ?_
  refine s2_62 1 rfl (by decide) rfl ?_
  refine s2_63 2 rfl (by decide) rfl ?_
  refine s2_64 ?_
  refine s2_65 rfl ?_
  refine s2_68 ?_
  refine s2_69 ?_
  refine s2_70 2 rfl (by decide) rfl ?_
  refine s2_71 ?_
  refine s2_72 rfl ?_
  refine s2_75 ?_
  refine s2_76 1 rfl (by decide) rfl ?_
  refine s2_77 (fun _ => ?_) (fun h => absurd h (by decide))
  refine s2_90 ?_
  refine s2_91 rfl ?_
  refine s2_94 ?_
  refine s2_95 rfl ?_
  refine s2_98 ?_
  refine s2_99 1 rfl (by decide) rfl ?_
  refine s2_100 ?_
  refine s2_101 1 rfl (by decide) rfl ?_
  refine s2_102 ?_
  refine s2_103 rfl ?_
  refine s2_106 ?_
  refine s2_107 ?_
  refine s2_108 1 rfl (by decide) rfl ?_
  exact s2_109 ⟨rfl, rfl⟩
theorem own_r118  : M5 ⟨0, 1, 2, 0⟩ [.ref 2, .int 1] [(.inr (.int, [.int 1, .int 3, .int 0]) : ACell), (.inr (.int, [.int 1, .int 2, .int 0]) : ACell), (.inl (0, [.ref 3, .ref 4, .ref 5, .ref 6, .ref 7]) : ACell), (.inr (.int, [.int 0, .int 1, .int 4, .int 0, .int 0, .int 0, .int 0, .int 0, .int 0, .int 0, .int 0, .int 0, .int 0, .int 0, .int 0, .int 0]) : ACell), (.inr (.int, [.int 0, .int 2, .int 4, .int 0, .int 0, .int 0, .int 0, .int 0, .int 0, .int 0, .int 0, .int 0, .int 0, .int 0, .int 0, .int 0]) : ACell), (.inr (.int, [.int 0, .int 1, .int 1, .int 0, .int 2]) : ACell), (.inr (.int, [.int 0, .int 0, .int 1, .int 1, .int 0]) : ACell), (.inr (.int, [.int 0, .int 2, .int 0, .int 0, .int 0]) : ACell)] (Is (some (.ref 8)) [(.inr (.int, [.int 1, .int 3, .int 0]) : ACell), (.inr (.int, [.int 1, .int 2, .int 0]) : ACell), (.inl (0, [.ref 3, .ref 4, .ref 5, .ref 6, .ref 7]) : ACell), (.inr (.int, [.int 0, .int 1, .int 4, .int 0, .int 0, .int 0, .int 0, .int 0, .int 0, .int 0, .int 0, .int 0, .int 0, .int 0, .int 0, .int 0]) : ACell), (.inr (.int, [.int 0, .int 2, .int 4, .int 0, .int 0, .int 0, .int 0, .int 0, .int 0, .int 0, .int 0, .int 0, .int 0, .int 0, .int 0, .int 0]) : ACell), (.inr (.int, [.int 0, .int 1, .int 1, .int 0, .int 2]) : ACell), (.inr (.int, [.int 0, .int 0, .int 1, .int 1, .int 0]) : ACell), (.inr (.int, [.int 0, .int 2, .int 0, .int 0, .int 0]) : ACell), (.inr (.int, [.int 1, .int 2]) : ACell)]) := by
  refine e5 ?_
  refine s5_0 ?_
  refine s5_1 rfl ?_
  refine s5_2 ?_
  refine s5_3 rfl ?_
  refine s5_6 ?_
  refine s5_7 1 rfl (by decide) rfl ?_
  refine s5_8 rfl ?_
  refine s5_9 ?_
  refine s5_10 (fun h => absurd h (by decide)) (fun _ => ?_)
  refine s5_13 ?_
  refine s5_16 ?_
  refine s5_17 rfl ?_
  refine s5_20 ?_
  refine s5_21 1 rfl (by decide) rfl ?_
  refine s5_22 rfl ?_
  refine s5_23 ?_
  refine s5_9 ?_
  refine s5_10 (fun h => absurd h (by decide)) (fun _ => ?_)
  refine s5_13 ?_
  refine s5_16 ?_
  refine s5_17 rfl ?_
  refine s5_20 ?_
  refine s5_21 2 rfl (by decide) rfl ?_
  refine s5_22 rfl ?_
  refine s5_23 ?_
  refine s5_9 ?_
  refine s5_10 (fun _ => ?_) (fun h => absurd h (by decide))
  refine s5_26 ?_
  refine s5_27 8 2 (by decide) rfl rfl ?_
  refine s5_29 rfl ?_
  refine s5_30 ?_
  refine s5_31 rfl ?_
  refine s5_33 ?_
  refine s5_34 rfl ?_
  refine s5_37 ?_
  refine s5_38 1 rfl (by decide) rfl ?_
  refine s5_39 rfl ?_
  refine s5_41 ?_
  refine s5_43 (fun h => absurd h (by decide)) (fun _ => ?_)
  refine s5_46 ?_
  refine s5_47 ?_
  refine s5_49 ?_
  refine s5_51 0 rfl (by decide) rfl ?_
  refine s5_52 ?_
  refine s5_55 ?_
  refine s5_56 rfl ?_
  refine s5_59 ?_
  refine s5_61 1 rfl (by decide) rfl ?_
  refine s5_62 rfl ?_
  refine s5_64 ?_
  refine s5_41 ?_
  refine s5_43 (fun h => absurd h (by decide)) (fun _ => ?_)
  refine s5_46 ?_
  refine s5_47 ?_
  refine s5_49 ?_
  refine s5_51 1 rfl (by decide) rfl ?_
  refine s5_52 ?_
  refine s5_55 ?_
  refine s5_56 rfl ?_
  refine s5_59 ?_
  refine s5_61 2 rfl (by decide) rfl ?_
  refine s5_62 rfl ?_
  refine s5_64 ?_
  refine s5_41 ?_
  refine s5_43 (fun _ => ?_) (fun h => absurd h (by decide))
  refine s5_67 ?_
  exact s5_68 ⟨rfl, rfl⟩
theorem own_r119  : M5 ⟨0, 1, 1, 0⟩ [.ref 2, .int 2] [(.inr (.int, [.int 1, .int 3, .int 0]) : ACell), (.inr (.int, [.int 1, .int 2, .int 0]) : ACell), (.inl (0, [.ref 3, .ref 4, .ref 5, .ref 6, .ref 7]) : ACell), (.inr (.int, [.int 0, .int 1, .int 4, .int 0, .int 0, .int 0, .int 0, .int 0, .int 0, .int 0, .int 0, .int 0, .int 0, .int 0, .int 0, .int 0]) : ACell), (.inr (.int, [.int 0, .int 2, .int 4, .int 0, .int 0, .int 0, .int 0, .int 0, .int 0, .int 0, .int 0, .int 0, .int 0, .int 0, .int 0, .int 0]) : ACell), (.inr (.int, [.int 0, .int 1, .int 1, .int 0, .int 2]) : ACell), (.inr (.int, [.int 0, .int 0, .int 1, .int 1, .int 0]) : ACell), (.inr (.int, [.int 0, .int 2, .int 0, .int 0, .int 0]) : ACell), (.inr (.int, [.int 1, .int 2]) : ACell)] (Is (some (.ref 9)) [(.inr (.int, [.int 1, .int 3, .int 0]) : ACell), (.inr (.int, [.int 1, .int 2, .int 0]) : ACell), (.inl (0, [.ref 3, .ref 4, .ref 5, .ref 6, .ref 7]) : ACell), (.inr (.int, [.int 0, .int 1, .int 4, .int 0, .int 0, .int 0, .int 0, .int 0, .int 0, .int 0, .int 0, .int 0, .int 0, .int 0, .int 0, .int 0]) : ACell), (.inr (.int, [.int 0, .int 2, .int 4, .int 0, .int 0, .int 0, .int 0, .int 0, .int 0, .int 0, .int 0, .int 0, .int 0, .int 0, .int 0, .int 0]) : ACell), (.inr (.int, [.int 0, .int 1, .int 1, .int 0, .int 2]) : ACell), (.inr (.int, [.int 0, .int 0, .int 1, .int 1, .int 0]) : ACell), (.inr (.int, [.int 0, .int 2, .int 0, .int 0, .int 0]) : ACell), (.inr (.int, [.int 1, .int 2]) : ACell), (.inr (.int, [.int 4]) : ACell)]) := by
  refine e5 ?_
  refine s5_0 ?_
  refine s5_1 rfl ?_
  refine s5_2 ?_
  refine s5_3 rfl ?_
  refine s5_6 ?_
  refine s5_7 2 rfl (by decide) rfl ?_
  refine s5_8 rfl ?_
  refine s5_9 ?_
  refine s5_10 (fun h => absurd h (by decide)) (fun _ => ?_)
  refine s5_13 ?_
  refine s5_16 ?_
  refine s5_17 rfl ?_
  refine s5_20 ?_
  refine s5_21 4 rfl (by decide) rfl ?_
  refine s5_22 rfl ?_
  refine s5_23 ?_
  refine s5_9 ?_
  refine s5_10 (fun _ => ?_) (fun h => absurd h (by decide))
  refine s5_26 ?_
  refine s5_27 9 1 (by decide) rfl rfl ?_
  refine s5_29 rfl ?_
  refine s5_30 ?_
  refine s5_31 rfl ?_
  refine s5_33 ?_
  refine s5_34 rfl ?_
  refine s5_37 ?_
  refine s5_38 2 rfl (by decide) rfl ?_
  refine s5_39 rfl ?_
  refine s5_41 ?_
  refine s5_43 (fun h => absurd h (by decide)) (fun _ => ?_)
  refine s5_46 ?_
  refine s5_47 ?_
  refine s5_49 ?_
  refine s5_51 0 rfl (by decide) rfl ?_
  refine s5_52 ?_
  refine s5_55 ?_
  refine s5_56 rfl ?_
  refine s5_59 ?_
  refine s5_61 4 rfl (by decide) rfl ?_
  refine s5_62 rfl ?_
  refine s5_64 ?_
  refine s5_41 ?_
  refine s5_43 (fun _ => ?_) (fun h => absurd h (by decide))
  refine s5_67 ?_
  exact s5_68 ⟨rfl, rfl⟩
theorem own_r120  : M6 ⟨0, 0, 0, 0⟩ [.ref 8, .ref 1, .int 2] [(.inr (.int, [.int 1, .int 3, .int 0]) : ACell), (.inr (.int, [.int 1, .int 2, .int 0]) : ACell), (.inl (0, [.ref 3, .ref 4, .ref 5, .ref 6, .ref 7]) : ACell), (.inr (.int, [.int 0, .int 1, .int 4, .int 0, .int 0, .int 0, .int 0, .int 0, .int 0, .int 0, .int 0, .int 0, .int 0, .int 0, .int 0, .int 0]) : ACell), (.inr (.int, [.int 0, .int 2, .int 4, .int 0, .int 0, .int 0, .int 0, .int 0, .int 0, .int 0, .int 0, .int 0, .int 0, .int 0, .int 0, .int 0]) : ACell), (.inr (.int, [.int 0, .int 1, .int 1, .int 0, .int 2]) : ACell), (.inr (.int, [.int 0, .int 0, .int 1, .int 1, .int 0]) : ACell), (.inr (.int, [.int 0, .int 2, .int 0, .int 0, .int 0]) : ACell), (.inr (.int, [.int 1, .int 2]) : ACell), (.inr (.int, [.int 4]) : ACell)] (Is (some (.int 1)) [(.inr (.int, [.int 1, .int 3, .int 0]) : ACell), (.inr (.int, [.int 1, .int 2, .int 0]) : ACell), (.inl (0, [.ref 3, .ref 4, .ref 5, .ref 6, .ref 7]) : ACell), (.inr (.int, [.int 0, .int 1, .int 4, .int 0, .int 0, .int 0, .int 0, .int 0, .int 0, .int 0, .int 0, .int 0, .int 0, .int 0, .int 0, .int 0]) : ACell), (.inr (.int, [.int 0, .int 2, .int 4, .int 0, .int 0, .int 0, .int 0, .int 0, .int 0, .int 0, .int 0, .int 0, .int 0, .int 0, .int 0, .int 0]) : ACell), (.inr (.int, [.int 0, .int 1, .int 1, .int 0, .int 2]) : ACell), (.inr (.int, [.int 0, .int 0, .int 1, .int 1, .int 0]) : ACell), (.inr (.int, [.int 0, .int 2, .int 0, .int 0, .int 0]) : ACell), (.inr (.int, [.int 1, .int 2]) : ACell), (.inr (.int, [.int 4]) : ACell)]) := by
  refine e6 ?_
  refine s6_0 ?_
  refine s6_1k 2 rfl rfl ?_
  refine s6_2 ?_
  refine s6_3 (fun h => absurd h (by decide)) (fun _ => ?_)
  refine s6_6 ?_
  refine s6_7 ?_
  refine s6_8 (fun h => absurd h (by decide)) (fun _ => ?_)
  refine s6_11 ?_
  refine s6_12 ?_
  refine s6_13 0 rfl (by decide) rfl ?_
  refine s6_14 ?_
  refine s6_15 ?_
  refine s6_16 0 rfl (by decide) rfl ?_
  refine s6_17 (fun h => absurd h (by decide)) (fun _ => ?_)
  refine s6_20 ?_
  refine s6_21 ?_
  refine s6_22 (fun h => absurd h (by decide)) (fun _ => ?_)
  refine s6_25 ?_
  refine s6_26 ?_
  refine s6_27 1 rfl (by decide) rfl ?_
  refine s6_28 ?_
  refine s6_29 ?_
  refine s6_30 1 rfl (by decide) rfl ?_
  refine s6_31 (fun h => absurd h (by decide)) (fun _ => ?_)
  refine s6_34 ?_
  refine s6_35 ?_
  refine s6_36 (fun _ => ?_) (fun h => absurd h (by decide))
  refine s6_48 ?_
  refine s6_49 ?_
  exact s6_53 ⟨rfl, rfl⟩
theorem own_r121  : M1 ⟨1, 5, 47, 12⟩ [.ref 2, .int 4] [(.inr (.int, [.int 1, .int 2, .int 0]) : ACell), (.inr (.int, [.int 1, .int 2, .int 3]) : ACell), (.inl (0, [.null, .null, .null, .null, .null]) : ACell)] (Is none [(.inr (.int, [.int 1, .int 2, .int 0]) : ACell), (.inr (.int, [.int 1, .int 2, .int 3]) : ACell), (.inl (0, [.ref 3, .ref 4, .ref 5, .ref 6, .ref 7]) : ACell), (.inr (.int, [.int 0, .int 0, .int 0, .int 0, .int 0, .int 0, .int 0, .int 0, .int 0, .int 0, .int 0, .int 0, .int 0, .int 0, .int 0, .int 0]) : ACell), (.inr (.int, [.int 0, .int 0, .int 0, .int 0, .int 0, .int 0, .int 0, .int 0, .int 0, .int 0, .int 0, .int 0, .int 0, .int 0, .int 0, .int 0]) : ACell), (.inr (.int, [.int 0, .int 0, .int 0, .int 0, .int 0]) : ACell), (.inr (.int, [.int 0, .int 0, .int 0, .int 0, .int 0]) : ACell), (.inr (.int, [.int 0, .int 0, .int 0, .int 0, .int 0]) : ACell)]) := by
  refine e1 ?_
  refine s1_0 ?_
  refine s1_1 rfl ?_
  refine s1_4 ?_
  refine s1_5 ?_
  refine s1_7 3 16 (by decide) rfl rfl ?_
  refine s1_9 rfl ?_
  refine s1_12 ?_
  refine s1_13 ?_
  refine s1_15 4 16 (by decide) rfl rfl ?_
  refine s1_17 rfl ?_
  refine s1_20 ?_
  refine s1_21 ?_
  refine s1_22 ?_
  refine s1_23 ?_
  refine s1_24 5 5 (by decide) rfl rfl ?_
  refine s1_26 rfl ?_
  refine s1_29 ?_
  refine s1_30 ?_
  refine s1_31 ?_
  refine s1_32 ?_
  refine s1_33 6 5 (by decide) rfl rfl ?_
  refine s1_35 rfl ?_
  refine s1_38 ?_
  refine s1_39 ?_
  refine s1_40 ?_
  refine s1_41 ?_
  refine s1_42 7 5 (by decide) rfl rfl ?_
  refine s1_44 rfl ?_
  exact s1_47 ⟨rfl, rfl⟩
theorem own_r122  : M2 ⟨0, 0, 0, 0⟩ [.ref 2, .int 1, .int 1] [(.inr (.int, [.int 1, .int 2, .int 0]) : ACell), (.inr (.int, [.int 1, .int 2, .int 3]) : ACell), (.inl (0, [.ref 3, .ref 4, .ref 5, .ref 6, .ref 7]) : ACell), (.inr (.int, [.int 0, .int 0, .int 0, .int 0, .int 0, .int 0, .int 0, .int 0, .int 0, .int 0, .int 0, .int 0, .int 0, .int 0, .int 0, .int 0]) : ACell), (.inr (.int, [.int 0, .int 0, .int 0, .int 0, .int 0, .int 0, .int 0, .int 0, .int 0, .int 0, .int 0, .int 0, .int 0, .int 0, .int 0, .int 0]) : ACell), (.inr (.int, [.int 0, .int 0, .int 0, .int 0, .int 0]) : ACell), (.inr (.int, [.int 0, .int 0, .int 0, .int 0, .int 0]) : ACell), (.inr (.int, [.int 0, .int 0, .int 0, .int 0, .int 0]) : ACell)] (Is none [(.inr (.int, [.int 1, .int 2, .int 0]) : ACell), (.inr (.int, [.int 1, .int 2, .int 3]) : ACell), (.inl (0, [.ref 3, .ref 4, .ref 5, .ref 6, .ref 7]) : ACell), (.inr (.int, [.int 0, .int 1, .int 0, .int 0, .int 0, .int 0, .int 0, .int 0, .int 0, .int 0, .int 0, .int 0, .int 0, .int 0, .int 0, .int 0]) : ACell), (.inr (.int, [.int 0, .int 1, .int 0, .int 0, .int 0, .int 0, .int 0, .int 0, .int 0, .int 0, .int 0, .int 0, .int 0, .int 0, .int 0, .int 0]) : ACell), (.inr (.int, [.int 0, .int 1, .int 0, .int 0, .int 0]) : ACell), (.inr (.int, [.int 0, .int 0, .int 0, .int 0, .int 0]) : ACell), (.inr (.int, [.int 0, .int 0, .int 0, .int 0, .int 0]) : ACell)]) := by
  refine e2 ?_
  refine s2_0 ?_
  refine s2_1 ?_
  refine s2_2 rfl ?_
  refine s2_5k 16 rfl rfl ?_
  refine s2_6 (fun _ => ?_) (fun h => absurd h (by decide))
  refine s2_45 ?_
  refine s2_46 rfl ?_
  refine s2_49 ?_
  refine s2_50 ?_
  refine s2_51 1 rfl (by decide) rfl ?_
  refine s2_52 ?_
  refine s2_53 rfl ?_
  refine s2_56 ?_
  refine s2_57 ?_
  refine s2_58 rfl ?_
  refine s2_61 ?_
  refine s2_62 1 rfl (by decide) rfl ?_
  refine s2_63 1 rfl (by decide) rfl ?_
  refine s2_64 ?_
  refine s2_65 rfl ?_
  refine s2_68 ?_
  refine s2_69 ?_
  refine s2_70 1 rfl (by decide) rfl ?_
  refine s2_71 ?_
  refine s2_72 rfl ?_
  refine s2_75 ?_
  refine s2_76 1 rfl (by decide) rfl ?_
  refine s2_77 (fun h => absurd h (by decide)) (fun _ => ?_)
  refine s2_80 ?_
  refine s2_81 rfl ?_
  refine s2_84 ?_
  refine s2_85 ?_
  refine s2_86 1 rfl (by decide) rfl ?_
  refine s2_87 ?_
  refine s2_102 ?_
  refine s2_103 rfl ?_
  refine s2_106 ?_
  refine s2_107 ?_
  refine s2_108 1 rfl (by decide) rfl ?_
  exact s2_109 ⟨rfl, rfl⟩
theorem own_r123  : M2 ⟨0, 0, 0, 0⟩ [.ref 2, .int 2, .int 1] [(.inr (.int, [.int 1, .int 2, .int 0]) : ACell), (.inr (.int, [.int 1, .int 2, .int 3]) : ACell), (.inl (0, [.ref 3, .ref 4, .ref 5, .ref 6, .ref 7]) : ACell), (.inr (.int, [.int 0, .int 1, .int 0, .int 0, .int 0, .int 0, .int 0, .int 0, .int 0, .int 0, .int 0, .int 0, .int 0, .int 0, .int 0, .int 0]) : ACell), (.inr (.int, [.int 0, .int 1, .int 0, .int 0, .int 0, .int 0, .int 0, .int 0, .int 0, .int 0, .int 0, .int 0, .int 0, .int 0, .int 0, .int 0]) : ACell), (.inr (.int, [.int 0, .int 1, .int 0, .int 0, .int 0]) : ACell), (.inr (.int, [.int 0, .int 0, .int 0, .int 0, .int 0]) : ACell), (.inr (.int, [.int 0, .int 0, .int 0, .int 0, .int 0]) : ACell)] (Is none [(.inr (.int, [.int 1, .int 2, .int 0]) : ACell), (.inr (.int, [.int 1, .int 2, .int 3]) : ACell), (.inl (0, [.ref 3, .ref 4, .ref 5, .ref 6, .ref 7]) : ACell), (.inr (.int, [.int 0, .int 1, .int 0, .int 0, .int 0, .int 0, .int 0, .int 0, .int 0, .int 0, .int 0, .int 0, .int 0, .int 0, .int 0, .int 0]) : ACell), (.inr (.int, [.int 0, .int 2, .int 0, .int 0, .int 0, .int 0, .int 0, .int 0, .int 0, .int 0, .int 0, .int 0, .int 0, .int 0, .int 0, .int 0]) : ACell), (.inr (.int, [.int 0, .int 1, .int 1, .int 0, .int 0]) : ACell), (.inr (.int, [.int 0, .int 0, .int 1, .int 0, .int 0]) : ACell), (.inr (.int, [.int 0, .int 2, .int 0, .int 0, .int 0]) : ACell)]) := by
  refine e2 ?_
  refine s2_0 ?_
  refine s2_1 ?_
  refine s2_2 rfl ?_
  refine s2_5k 16 rfl rfl ?_
  refine s2_6 (fun _ => ?_) (fun h => absurd h (by decide))
  refine s2_45 ?_
  refine s2_46 rfl ?_
  refine s2_49 ?_
  refine s2_50 ?_
  refine s2_51 2 rfl (by decide) rfl ?_
  refine s2_52 ?_
  refine s2_53 rfl ?_
  refine s2_56 ?_
  refine s2_57 ?_
  refine s2_58 rfl ?_
  refine s2_61 ?_
  refine s2_62 1 rfl (by decide) rfl ?_
  refine s2_63 2 rfl (by decide) rfl ?_
  refine s2_64 ?_
  refine s2_65 rfl ?_
  refine s2_68 ?_
  refine s2_69 ?_
  refine s2_70 2 rfl (by decide) rfl ?_
  refine s2_71 ?_
  refine s2_72 rfl ?_
  refine s2_75 ?_
  refine s2_76 1 rfl (by decide) rfl ?_
  refine s2_77 (fun _ => ?_) (fun h => absurd h (by decide))
  refine s2_90 ?_
  refine s2_91 rfl ?_
  refine s2_94 ?_
  refine s2_95 rfl ?_
  refine s2_98 ?_
  refine s2_99 1 rfl (by decide) rfl ?_
  refine s2_100 ?_
  refine s2_101 1 rfl (by decide) rfl ?_
  refine s2_102 ?_
  refine s2_103 rfl ?_
  refine s2_106 ?_
  refine s2_107 ?_
  refine s2_108 1 rfl (by decide) rfl ?_
  exact s2_109 ⟨rfl, rfl⟩
theorem own_r124  : M2 ⟨0, 0, 0, 0⟩ [.ref 2, .int 3, .int 1] [(.inr (.int, [.int 1, .int 2, .int 0]) : ACell), (.inr (.int, [.int 1, .int 2, .int 3]) : ACell), (.inl (0, [.ref 3, .ref 4, .ref 5, .ref 6, .ref 7]) : ACell), (.inr (.int, [.int 0, .int 1, .int 0, .int 0, .int 0, .int 0, .int 0, .int 0, .int 0, .int 0, .int 0, .int 0, .int 0, .int 0, .int 0, .int 0]) : ACell), (.inr (.int, [.int 0, .int 2, .int 0, .int 0, .int 0, .int 0, .int 0, .int 0, .int 0, .int 0, .int 0, .int 0, .int 0, .int 0, .int 0, .int 0]) : ACell), (.inr (.int, [.int 0, .int 1, .int 1, .int 0, .int 0]) : ACell), (.inr (.int, [.int 0, .int 0, .int 1, .int 0, .int 0]) : ACell), (.inr (.int, [.int 0, .int 2, .int 0, .int 0, .int 0]) : ACell)] (Is none [(.inr (.int, [.int 1, .int 2, .int 0]) : ACell), (.inr (.int, [.int 1, .int 2, .int 3]) : ACell), (.inl (0, [.ref 3, .ref 4, .ref 5, .ref 6, .ref 7]) : ACell), (.inr (.int, [.int 0, .int 1, .int 0, .int 0, .int 0, .int 0, .int 0, .int 0, .int 0, .int 0, .int 0, .int 0, .int 0, .int 0, .int 0, .int 0]) : ACell), (.inr (.int, [.int 0, .int 3, .int 0, .int 0, .int 0, .int 0, .int 0, .int 0, .int 0, .int 0, .int 0, .int 0, .int 0, .int 0, .int 0, .int 0]) : ACell), (.inr (.int, [.int 0, .int 1, .int 1, .int 1, .int 0]) : ACell), (.inr (.int, [.int 0, .int 0, .int 1, .int 2, .int 0]) : ACell), (.inr (.int, [.int 0, .int 2, .int 3, .int 0, .int 0]) : ACell)]) := by
  refine e2 ?_
  refine s2_0 ?_
  refine s2_1 ?_
  refine s2_2 rfl ?_
  refine s2_5k 16 rfl rfl ?_
  refine s2_6 (fun _ => ?_) (fun h => absurd h (by decide))
  refine s2_45 ?_
  refine s2_46 rfl ?_
  refine s2_49 ?_
  refine s2_50 ?_
  refine s2_51 3 rfl (by decide) rfl ?_
  refine s2_52 ?_
  refine s2_53 rfl ?_
  refine s2_56 ?_
  refine s2_57 ?_
  refine s2_58 rfl ?_
  refine s2_61 ?_
  refine s2_62 1 rfl (by decide) rfl ?_
  refine s2_63 3 rfl (by decide) rfl ?_
  refine s2_64 ?_
  refine s2_65 rfl ?_
  refine s2_68 ?_
  refine s2_69 ?_
  refine s2_70 3 rfl (by decide) rfl ?_
  refine s2_71 ?_
  refine s2_72 rfl ?_
  refine s2_75 ?_
  refine s2_76 1 rfl (by decide) rfl ?_
  refine s2_77 (fun _ => ?_) (fun h => absurd h (by decide))
  refine s2_90 ?_
  refine s2_91 rfl ?_
  refine s2_94 ?_
  refine s2_95 rfl ?_
  refine s2_98 ?_
  refine s2_99 1 rfl (by decide) rfl ?_
  refine s2_100 ?_
  refine s2_101 2 rfl (by decide) rfl ?_
  refine s2_102 ?_
  refine s2_103 rfl ?_
  refine s2_106 ?_
  refine s2_107 ?_
  refine s2_108 1 rfl (by decide) rfl ?_
  exact s2_109 ⟨rfl, rfl⟩
theorem own_r125  : M2 ⟨0, 0, 0, 0⟩ [.ref 2, .int 4, .int 2] [(.inr (.int, [.int 1, .int 2, .int 0]) : ACell), (.inr (.int, [.int 1, .int 2, .int 3]) : ACell), (.inl (0, [.ref 3, .ref 4, .ref 5, .ref 6, .ref 7]) : ACell), (.inr (.int, [.int 0, .int 1, .int 0, .int 0, .int 0, .int 0, .int 0, .int 0, .int 0, .int 0, .int 0, .int 0, .int 0, .int 0, .int 0, .int 0]) : ACell), (.inr (.int, [.int 0, .int 3, .int 0, .int 0, .int 0, .int 0, .int 0, .int 0, .int 0, .int 0, .int 0, .int 0, .int 0, .int 0, .int 0, .int 0]) : ACell), (.inr (.int, [.int 0, .int 1, .int 1, .int 1, .int 0]) : ACell), (.inr (.int, [.int 0, .int 0, .int 1, .int 2, .int 0]) : ACell), (.inr (.int, [.int 0, .int 2, .int 3, .int 0, .int 0]) : ACell)] (Is none [(.inr (.int, [.int 1, .int 2, .int 0]) : ACell), (.inr (.int, [.int 1, .int 2, .int 3]) : ACell), (.inl (0, [.ref 3, .ref 4, .ref 5, .ref 6, .ref 7]) : ACell), (.inr (.int, [.int 0, .int 1, .int 4, .int 0, .int 0, .int 0, .int 0, .int 0, .int 0, .int 0, .int 0, .int 0, .int 0, .int 0, .int 0, .int 0]) : ACell), (.inr (.int, [.int 0, .int 3, .int 4, .int 0, .int 0, .int 0, .int 0, .int 0, .int 0, .int 0, .int 0, .int 0, .int 0, .int 0, .int 0, .int 0]) : ACell), (.inr (.int, [.int 0, .int 1, .int 1, .int 1, .int 2]) : ACell), (.inr (.int, [.int 0, .int 0, .int 1, .int 2, .int 0]) : ACell), (.inr (.int, [.int 0, .int 2, .int 3, .int 0, .int 0]) : ACell)]) := by
  refine e2 ?_
  refine s2_0 ?_
  refine s2_1 ?_
  refine s2_2 rfl ?_
  refine s2_5k 16 rfl rfl ?_
  refine s2_6 (fun _ => ?_) (fun h => absurd h (by decide))
  refine s2_45 ?_
  refine s2_46 rfl ?_
  refine s2_49 ?_
  refine s2_50 ?_
  refine s2_51 4 rfl (by decide) rfl ?_
  refine s2_52 ?_
  refine s2_53 rfl ?_
  refine s2_56 ?_
  refine s2_57 ?_
  refine s2_58 rfl ?_
  refine s2_61 ?_
  refine s2_62 2 rfl (by decide) rfl ?_
  refine s2_63 4 rfl (by decide) rfl ?_
  refine s2_64 ?_
  refine s2_65 rfl ?_
  refine s2_68 ?_
  refine s2_69 ?_
  refine s2_70 4 rfl (by decide) rfl ?_
  refine s2_71 ?_
  refine s2_72 rfl ?_
  refine s2_75 ?_
  refine s2_76 2 rfl (by decide) rfl ?_
  refine s2_77 (fun h => absurd h (by decide)) (fun _ => ?_)
  refine s2_80 ?_
  refine s2_81 rfl ?_
  refine s2_84 ?_
  refine s2_85 ?_
  refine s2_86 2 rfl (by decide) rfl ?_
  refine s2_87 ?_
  refine s2_102 ?_
  refine s2_103 rfl ?_
  refine s2_106 ?_
  refine s2_107 ?_
  refine s2_108 2 rfl (by decide) rfl ?_
  exact s2_109 ⟨rfl, rfl⟩
theorem own_r126  : M3 ⟨0, 0, 0, 0⟩ [.ref 2, .int 3] [(.inr (.int, [.int 1, .int 2, .int 0]) : ACell), (.inr (.int, [.int 1, .int 2, .int 3]) : ACell), (.inl (0, [.ref 3, .ref 4, .ref 5, .ref 6, .ref 7]) : ACell), (.inr (.int, [.int 0, .int 1, .int 4, .int 0, .int 0, .int 0, .int 0, .int 0, .int 0, .int 0, .int 0, .int 0, .int 0, .int 0, .int 0, .int 0]) : ACell), (.inr (.int, [.int 0, .int 3, .int 4, .int 0, .int 0, .int 0, .int 0, .int 0, .int 0, .int 0, .int 0, .int 0, .int 0, .int 0, .int 0, .int 0]) : ACell), (.inr (.int, [.int 0, .int 1, .int 1, .int 1, .int 2]) : ACell), (.inr (.int, [.int 0, .int 0, .int 1, .int 2, .int 0]) : ACell), (.inr (.int, [.int 0, .int 2, .int 3, .int 0, .int 0]) : ACell)] (Is none [(.inr (.int, [.int 1, .int 2, .int 0]) : ACell), (.inr (.int, [.int 1, .int 2, .int 3]) : ACell), (.inl (0, [.ref 3, .ref 4, .ref 5, .ref 6, .ref 7]) : ACell), (.inr (.int, [.int 0, .int 1, .int 4, .int 0, .int 0, .int 0, .int 0, .int 0, .int 0, .int 0, .int 0, .int 0, .int 0, .int 0, .int 0, .int 0]) : ACell), (.inr (.int, [.int 0, .int 2, .int 4, .int 0, .int 0, .int 0, .int 0, .int 0, .int 0, .int 0, .int 0, .int 0, .int 0, .int 0, .int 0, .int 0]) : ACell), (.inr (.int, [.int 0, .int 1, .int 1, .int 0, .int 2]) : ACell), (.inr (.int, [.int 0, .int 0, .int 1, .int 2, .int 0]) : ACell), (.inr (.int, [.int 0, .int 2, .int 0, .int 0, .int 0]) : ACell)]) := by
  refine e3 ?_
  refine s3_0 ?_
  refine s3_1 rfl ?_
  refine s3_4 ?_
  refine s3_5 3 rfl (by decide) rfl ?_
  refine s3_6 rfl ?_
  refine s3_7 ?_
  refine s3_8 rfl ?_
  refine s3_11 ?_
  refine s3_12 3 rfl (by decide) rfl ?_
  refine s3_13 (fun _ => ?_) (fun h => absurd h (by decide))
  refine s3_31 ?_
  refine s3_32 rfl ?_
  refine s3_35 ?_
  refine s3_36 rfl ?_
  refine s3_39 ?_
  refine s3_40 3 rfl (by decide) rfl ?_
  refine s3_41 ?_
  refine s3_42 rfl ?_
  refine s3_45 ?_
  refine s3_46 3 rfl (by decide) rfl ?_
  refine s3_47 2 rfl (by decide) rfl ?_
  refine s3_48 ?_
  refine s3_49 rfl ?_
  refine s3_52 ?_
  refine s3_53 3 rfl (by decide) rfl ?_
  refine s3_54 (fun h => absurd h (by decide)) (fun _ => ?_)
  refine s3_57 ?_
  refine s3_58 rfl ?_
  refine s3_61 ?_
  refine s3_62 ?_
  refine s3_63 rfl ?_
  refine s3_66 ?_
  refine s3_67 3 rfl (by decide) rfl ?_
  refine s3_68 1 rfl (by decide) rfl ?_
  refine s3_69 ?_
  refine s3_89 ?_
  refine s3_90 rfl ?_
  refine s3_93 ?_
  refine s3_94 ?_
  refine s3_95 3 rfl (by decide) rfl ?_
  exact s3_96 ⟨rfl, rfl⟩
theorem own_r127  : M4 ⟨0, 0, 0, 0⟩ [.ref 2, .int 3] [(.inr (.int, [.int 1, .int 2, .int 0]) : ACell), (.inr (.int, [.int 1, .int 2, .int 3]) : ACell), (.inl (0, [.ref 3, .ref 4, .ref 5, .ref 6, .ref 7]) : ACell), (.inr (.int, [.int 0, .int 1, .int 4, .int 0, .int 0, .int 0, .int 0, .int 0, .int 0, .int 0, .int 0, .int 0, .int 0, .int 0, .int 0, .int 0]) : ACell), (.inr (.int, [.int 0, .int 2, .int 4, .int 0, .int 0, .int 0, .int 0, .int 0, .int 0, .int 0, .int 0, .int 0, .int 0, .int 0, .int 0, .int 0]) : ACell), (.inr (.int, [.int 0, .int 1, .int 1, .int 0, .int 2]) : ACell), (.inr (.int, [.int 0, .int 0, .int 1, .int 2, .int 0]) : ACell), (.inr (.int, [.int 0, .int 2, .int 0, .int 0, .int 0]) : ACell)] (Is (some (.int 0)) [(.inr (.int, [.int 1, .int 2, .int 0]) : ACell), (.inr (.int, [.int 1, .int 2, .int 3]) : ACell), (.inl (0, [.ref 3, .ref 4, .ref 5, .ref 6, .ref 7]) : ACell), (.inr (.int, [.int 0, .int 1, .int 4, .int 0, .int 0, .int 0, .int 0, .int 0, .int 0, .int 0, .int 0, .int 0, .int 0, .int 0, .int 0, .int 0]) : ACell), (.inr (.int, [.int 0, .int 2, .int 4, .int 0, .int 0, .int 0, .int 0, .int 0, .int 0, .int 0, .int 0, .int 0, .int 0, .int 0, .int 0, .int 0]) : ACell), (.inr (.int, [.int 0, .int 1, .int 1, .int 0, .int 2]) : ACell), (.inr (.int, [.int 0, .int 0, .int 1, .int 2, .int 0]) : ACell), (.inr (.int, [.int 0, .int 2, .int 0, .int 0, .int 0]) : ACell)]) := by
  refine e4 ?_
  refine s4_0 ?_
  refine s4_1 rfl ?_
  refine s4_4 ?_
  refine s4_5 3 rfl (by decide) rfl ?_
  exact s4_6 ⟨rfl, rfl⟩
theorem own_r128  : M2 ⟨0, 0, 0, 0⟩ [.ref 2, .int 3, .int 1] [(.inr (.int, [.int 1, .int 2, .int 0]) : ACell), (.inr (.int, [.int 1, .int 2, .int 3]) : ACell), (.inl (0, [.ref 3, .ref 4, .ref 5, .ref 6, .ref 7]) : ACell), (.inr (.int, [.int 0, .int 1, .int 4, .int 0, .int 0, .int 0, .int 0, .int 0, .int 0, .int 0, .int 0, .int 0, .int 0, .int 0, .int 0, .int 0]) : ACell), (.inr (.int, [.int 0, .int 2, .int 4, .int 0, .int 0, .int 0, .int 0, .int 0, .int 0, .int 0, .int 0, .int 0, .int 0, .int 0, .int 0, .int 0]) : ACell), (.inr (.int, [.int 0, .int 1, .int 1, .int 0, .int 2]) : ACell), (.inr (.int, [.int 0, .int 0, .int 1, .int 2, .int 0]) : ACell), (.inr (.int, [.int 0, .int 2, .int 0, .int 0, .int 0]) : ACell)] (Is none [(.inr (.int, [.int 1, .int 2, .int 0]) : ACell), (.inr (.int, [.int 1, .int 2, .int 3]) : ACell), (.inl (0, [.ref 3, .ref 4, .ref 5, .ref 6, .ref 7]) : ACell), (.inr (.int, [.int 0, .int 1, .int 4, .int 0, .int 0, .int 0, .int 0, .int 0, .int 0, .int 0, .int 0, .int 0, .int 0, .int 0, .int 0, .int 0]) : ACell), (.inr (.int, [.int 0, .int 3, .int 4, .int 0, .int 0, .int 0, .int 0, .int 0, .int 0, .int 0, .int 0, .int 0, .int 0, .int 0, .int 0, .int 0]) : ACell), (.inr (.int, [.int 0, .int 1, .int 1, .int 1, .int 2]) : ACell), (.inr (.int, [.int 0, .int 0, .int 1, .int 2, .int 0]) : ACell), (.inr (.int, [.int 0, .int 2, .int 3, .int 0, .int 0]) : ACell)]) := by
  refine e2 ?_
  refine s2_0 ?_
  refine s2_1 ?_
  refine s2_2 rfl ?_
  refine s2_5k 16 rfl rfl ?_
  refine s2_6 (fun _ => ?_) (fun h => absurd h (by decide))
  refine s2_45 ?_
  refine s2_46 rfl ?_
  refine s2_49 ?_
  refine s2_50 ?_
  refine s2_51 3 rfl (by decide) rfl ?_
  refine s2_52 ?_
  refine s2_53 rfl ?_
  refine s2_56 ?_
  refine s2_57 ?_
  refine s2_58 rfl ?_
  refine s2_61 ?_
  refine s2_62 1 rfl (by decide) rfl ?_
  refine s2_63 3 rfl (by decide) rfl ?_
  refine s2_64 ?_
  refine s2_65 rfl ?_
  refine s2_68 ?_
  refine s2_69 ?_
  refine s2_70 3 rfl (by decide) rfl ?_
  refine s2_71 ?_
  refine s2_72 rfl ?_
  refine s2_75 ?_
  refine s2_76 1 rfl (by decide) rfl ?_
  refine s2_77 (fun _ => ?_) (fun h => absurd h (by decide))
  refine s2_90 ?_
  refine s2_91 rfl ?_
  refine s2_94 ?_
  refine s2_95 rfl ?_
  refine s2_98 ?_
  refine s2_99 1 rfl (by decide) rfl ?_
  refine s2_100 ?_
  refine s2_101 2 rfl (by decide) rfl ?_
  refine s2_102 ?_
  refine s2_103 rfl ?_
  refine s2_106 ?_
  refine s2_107 ?_
  refine s2_108 1 rfl (by decide) rfl ?_
  exact s2_109 ⟨rfl, rfl⟩
theorem own_r129  : M5 ⟨0, 1, 3, 0⟩ [.ref 2, .int 1] [(.inr (.int, [.int 1, .int 2, .int 0]) : ACell), (.inr (.int, [.int 1, .int 2, .int 3]) : ACell), (.inl (0, [.ref 3, .ref 4, .ref 5, .ref 6, .ref 7]) : ACell), (.inr (.int, [.int 0, .int 1, .int 4, .int 0, .int 0, .int 0, .int 0, .int 0, .int 0, .int 0, .int 0, .int 0, .int 0, .int 0, .int 0, .int 0]) : ACell), (.inr (.int, [.int 0, .int 3, .int 4, .int 0, .int 0, .int 0, .int 0, .int 0, .int 0, .int 0, .int 0, .int 0, .int 0, .int 0, .int 0, .int 0]) : ACell), (.inr (.int, [.int 0, .int 1, .int 1, .int 1, .int 2]) : ACell), (.inr (.int, [.int 0, .int 0, .int 1, .int 2, .int 0]) : ACell), (.inr (.int, [.int 0, .int 2, .int 3, .int 0, .int 0]) : ACell)] (Is (some (.ref 8)) [(.inr (.int, [.int 1, .int 2, .int 0]) : ACell), (.inr (.int, [.int 1, .int 2, .int 3]) : ACell), (.inl (0, [.ref 3, .ref 4, .ref 5, .ref 6, .ref 7]) : ACell), (.inr (.int, [.int 0, .int 1, .int 4, .int 0, .int 0, .int 0, .int 0, .int 0, .int 0, .int 0, .int 0, .int 0, .int 0, .int 0, .int 0, .int 0]) : ACell), (.inr (.int, [.int 0, .int 3, .int 4, .int 0, .int 0, .int 0, .int 0, .int 0, .int 0, .int 0, .int 0, .int 0, .int 0, .int 0, .int 0, .int 0]) : ACell), (.inr (.int, [.int 0, .int 1, .int 1, .int 1, .int 2]) : ACell), (.inr (.int, [.int 0, .int 0, .int 1, .int 2, .int 0]) : ACell), (.inr (.int, [.int 0, .int 2, .int 3, .int 0, .int 0]) : ACell), (.inr (.int, [.int 1, .int 2, .int 3]) : ACell)]) := by
  refine e5 ?_
  refine s5_0 ?_
  refine s5_1 rfl ?_
  refine s5_2 ?_
  refine s5_3 rfl ?_
  refine s5_6 ?_
  refine s5_7 1 rfl (by decide) rfl ?_
  refine s5_8 rfl ?_
  refine s5_9 ?_
  refine s5_10 (fun h => absurd h (by decide)) (fun _ => ?_)
  refine s5_13 ?_
  refine s5_16 ?_
  refine s5_17 rfl ?_
  refine s5_20 ?_
  refine s5_21 1 rfl (by decide) rfl ?_
  refine s5_22 rfl ?_
  refine s5_23 ?_
  refine s5_9 ?_
  refine s5_10 (fun h => absurd h (by decide)) (fun _ => ?_)
  refine s5_13 ?_
  refine s5_16 ?_
  refine s5_17 rfl ?_
  refine s5_20 ?_
  refine s5_21 2 rfl (by decide) rfl ?_
  refine s5_22 rfl ?_
  refine s5_23 ?_
  refine s5_9 ?_
  refine s5_10 (fun h => absurd h (by decide)) (fun _ => ?_)
  refine s5_13 ?_
  refine s5_16 ?_
  refine s5_17 rfl ?_
  refine s5_20 ?_
  refine s5_21 3 rfl (by decide) rfl ?_
  refine s5_22 rfl ?_
  refine s5_23 ?_
  refine s5_9 ?_
  refine s5_10 (fun _ => ?_) (fun h => absurd h (by decide))
  refine s5_26 ?_
  refine s5_27 8 3 (by decide) rfl rfl ?_
  refine s5_29 rfl ?_
  refine s5_30 ?_
  refine s5_31 rfl ?_
  refine s5_33 ?_
  refine s5_34 rfl ?_
  refine s5_37 ?_
  refine s5_38 1 rfl (by decide) rfl ?_
  refine s5_39 rfl ?_
  refine s5_41 ?_
  refine s5_43 (fun h => absurd h (by decide)) (fun _ => ?_)
  refine s5_46 ?_
  refine s5_47 ?_
  refine s5_49 ?_
  refine s5_51 0 rfl (by decide) rfl ?_
  refine s5_52 ?_
  refine s5_55 ?_
  refine s5_56 rfl ?_
  refine s5_59 ?_
  refine s5_61 1 rfl (by decide) rfl ?_
  refine s5_62 rfl ?_
  refine s5_64 ?_
  refine s5_41 ?_
  refine s5_43 (fun h => absurd h (by decide)) (fun _ => ?_)
  refine s5_46 ?_
  refine s5_47 ?_
  refine s5_49 ?_
  refine s5_51 1 rfl (by decide) rfl ?_
  refine s5_52 ?_
  refine s5_55 ?_
  refine s5_56 rfl ?_
  refine s5_59 ?_
  refine s5_61 2 rfl (by decide) rfl ?_
  refine s5_62 rfl ?_
  refine s5_64 ?_
  refine s5_41 ?_
  refine s5_43 (fun h => absurd h (by decide)) (fun _ => ?_)
  refine s5_46 ?_
  refine s5_47 ?_
  refine s5_49 ?_
  refine s5_51 2 rfl (by decide) rfl ?_
  refine s5_52 ?_
  refine s5_55 ?_
  refine s5_56 rfl ?_
  refine s5_59 ?_
  refine s5_61 3 rfl (by decide) rfl ?_
  refine s5_62 rfl ?_
  refine s5_64 ?_
  refine s5_41 ?_
  refine s5_43 (fun _ => ?_) (fun h => absurd h (by decide))
  refine s5_67 ?_
  exact s5_68 ⟨rfl, rfl⟩
theorem own_r130  : M5 ⟨0, 1, 1, 0⟩ [.ref 2, .int 2] [(.inr (.int, [.int 1, .int 2, .int 0]) : ACell), (.inr (.int, [.int 1, .int 2, .int 3]) : ACell), (.inl (0, [.ref 3, .ref 4, .ref 5, .ref 6, .ref 7]) : ACell), (.inr (.int, [.int 0, .int 1, .int 4, .int 0, .int 0, .int 0, .int 0, .int 0, .int 0, .int 0, .int 0, .int 0, .int 0, .int 0, .int 0, .int 0]) : ACell), (.inr (.int, [.int 0, .int 3, .int 4, .int 0, .int 0, .int 0, .int 0, .int 0, .int 0, .int 0, .int 0, .int 0, .int 0, .int 0, .int 0, .int 0]) : ACell), (.inr (.int, [.int 0, .int 1, .int 1, .int 1, .int 2]) : ACell), (.inr (.int, [.int 0, .int 0, .int 1, .int 2, .int 0]) : ACell), (.inr (.int, [.int 0, .int 2, .int 3, .int 0, .int 0]) : ACell), (.inr (.int, [.int 1, .int 2, .int 3]) : ACell)] (Is (some (.ref 9)) [(.inr (.int, [.int 1, .int 2, .int 0]) : ACell), (.inr (.int, [.int 1, .int 2, .int 3]) : ACell), (.inl (0, [.ref 3, .ref 4, .ref 5, .ref 6, .ref 7]) : ACell), (.inr (.int, [.int 0, .int 1, .int 4, .int 0, .int 0, .int 0, .int 0, .int 0, .int 0, .int 0, .int 0, .int 0, .int 0, .int 0, .int 0, .int 0]) : ACell), (.inr (.int, [.int 0, .int 3, .int 4, .int 0, .int 0, .int 0, .int 0, .int 0, .int 0, .int 0, .int 0, .int 0, .int 0, .int 0, .int 0, .int 0]) : ACell), (.inr (.int, [.int 0, .int 1, .int 1, .int 1, .int 2]) : ACell), (.inr (.int, [.int 0, .int 0, .int 1, .int 2, .int 0]) : ACell), (.inr (.int, [.int 0, .int 2, .int 3, .int 0, .int 0]) : ACell), (.inr (.int, [.int 1, .int 2, .int 3]) : ACell), (.inr (.int, [.int 4]) : ACell)]) := by
  refine e5 ?_
  refine s5_0 ?_
  refine s5_1 rfl ?_
  refine s5_2 ?_
  refine s5_3 rfl ?_
  refine s5_6 ?_
  refine s5_7 2 rfl (by decide) rfl ?_
  refine s5_8 rfl ?_
  refine s5_9 ?_
  refine s5_10 (fun h => absurd h (by decide)) (fun _ => ?_)
  refine s5_13 ?_
  refine s5_16 ?_
  refine s5_17 rfl ?_
  refine s5_20 ?_
  refine s5_21 4 rfl (by decide) rfl ?_
  refine s5_22 rfl ?_
  refine s5_23 ?_
  refine s5_9 ?_
  refine s5_10 (fun _ => ?_) (fun h => absurd h (by decide))
  refine s5_26 ?_
  refine s5_27 9 1 (by decide) rfl rfl ?_
  refine s5_29 rfl ?_
  refine s5_30 ?_
  refine s5_31 rfl ?_
  refine s5_33 ?_
  refine s5_34 rfl ?_
  refine s5_37 ?_
  refine s5_38 2 rfl (by decide) rfl ?_
  refine s5_39 rfl ?_
  refine s5_41 ?_
  refine s5_43 (fun h => absurd h (by decide)) (fun _ => ?_)
  refine s5_46 ?_
  refine s5_47 ?_
  refine s5_49 ?_
  refine s5_51 0 rfl (by decide) rfl ?_
  refine s5_52 ?_
  refine s5_55 ?_
  refine s5_56 rfl ?_
  refine s5_59 ?_
  refine s5_61 4 rfl (by decide) rfl ?_
  refine s5_62 rfl ?_
  refine s5_64 ?_
  refine s5_41 ?_
  refine s5_43 (fun _ => ?_) (fun h => absurd h (by decide))
  refine s5_67 ?_
  exact s5_68 ⟨rfl, rfl⟩
theorem own_r131  : M6 ⟨0, 0, 0, 0⟩ [.ref 8, .ref 1, .int 3] [(.inr (.int, [.int 1, .int 2, .int 0]) : ACell), (.inr (.int, [.int 1, .int 2, .int 3]) : ACell), (.inl (0, [.ref 3, .ref 4, .ref 5, .ref 6, .ref 7]) : ACell), (.inr (.int, [.int 0, .int 1, .int 4, .int 0, .int 0, .int 0, .int 0, .int 0, .int 0, .int 0, .int 0, .int 0, .int 0, .int 0, .int 0, .int 0]) : ACell), (.inr (.int, [.int 0, .int 3, .int 4, .int 0, .int 0, .int 0, .int 0, .int 0, .int 0, .int 0, .int 0, .int 0, .int 0, .int 0, .int 0, .int 0]) : ACell), (.inr (.int, [.int 0, .int 1, .int 1, .int 1, .int 2]) : ACell), (.inr (.int, [.int 0, .int 0, .int 1, .int 2, .int 0]) : ACell), (.inr (.int, [.int 0, .int 2, .int 3, .int 0, .int 0]) : ACell), (.inr (.int, [.int 1, .int 2, .int 3]) : ACell), (.inr (.int, [.int 4]) : ACell)] (Is (some (.int 1)) [(.inr (.int, [.int 1, .int 2, .int 0]) : ACell), (.inr (.int, [.int 1, .int 2, .int 3]) : ACell), (.inl (0, [.ref 3, .ref 4, .ref 5, .ref 6, .ref 7]) : ACell), (.inr (.int, [.int 0, .int 1, .int 4, .int 0, .int 0, .int 0, .int 0, .int 0, .int 0, .int 0, .int 0, .int 0, .int 0, .int 0, .int 0, .int 0]) : ACell), (.inr (.int, [.int 0, .int 3, .int 4, .int 0, .int 0, .int 0, .int 0, .int 0, .int 0, .int 0, .int 0, .int 0, .int 0, .int 0, .int 0, .int 0]) : ACell), (.inr (.int, [.int 0, .int 1, .int 1, .int 1, .int 2]) : ACell), (.inr (.int, [.int 0, .int 0, .int 1, .int 2, .int 0]) : ACell), (.inr (.int, [.int 0, .int 2, .int 3, .int 0, .int 0]) : ACell), (.inr (.int, [.int 1, .int 2, .int 3]) : ACell), (.inr (.int, [.int 4]) : ACell)]) := by
  refine e6 ?_
  refine s6_0 ?_
  refine s6_1k 3 rfl rfl ?_
  refine s6_2 ?_
  refine s6_3 (fun h => absurd h (by decide)) (fun _ => ?_)
  refine s6_6 ?_
  refine s6_7 ?_
  refine s6_8 (fun h => absurd h (by decide)) (fun _ => ?_)
  refine s6_11 ?_
  refine s6_12 ?_
  refine s6_13 0 rfl (by decide) rfl ?_
  refine s6_14 ?_
  refine s6_15 ?_
  refine s6_16 0 rfl (by decide) rfl ?_
  refine s6_17 (fun h => absurd h (by decide)) (fun _ => ?_)
  refine s6_20 ?_
  refine s6_21 ?_
  refine s6_22 (fun h => absurd h (by decide)) (fun _ => ?_)
  refine s6_25 ?_
  refine s6_26 ?_
  refine s6_27 1 rfl (by decide) rfl ?_
  refine s6_28 ?_
  refine s6_29 ?_
  refine s6_30 1 rfl (by decide) rfl ?_
  refine s6_31 (fun h => absurd h (by decide)) (fun _ => ?_)
  refine s6_34 ?_
  refine s6_35 ?_
  refine s6_36 (fun h => absurd h (by decide)) (fun _ => ?_)
  refine s6_39 ?_
  refine s6_40 ?_
  refine s6_41 2 rfl (by decide) rfl ?_
  refine s6_42 ?_
  refine s6_43 ?_
  refine s6_44 2 rfl (by decide) rfl ?_
  refine s6_45 (fun h => absurd h (by decide)) (fun _ => ?_)
  refine s6_48 ?_
  refine s6_49 ?_
  exact s6_53 ⟨rfl, rfl⟩
theorem own_r132  : M1 ⟨1, 5, 47, 12⟩ [.ref 2, .int 4] [(.inr (.int, [.int 1, .int 2, .int 0]) : ACell), (.inr (.int, [.int 2, .int 3, .int 0]) : ACell), (.inl (0, [.null, .null, .null, .null, .null]) : ACell)] (Is none [(.inr (.int, [.int 1, .int 2, .int 0]) : ACell), (.inr (.int, [.int 2, .int 3, .int 0]) : ACell), (.inl (0, [.ref 3, .ref 4, .ref 5, .ref 6, .ref 7]) : ACell), (.inr (.int, [.int 0, .int 0, .int 0, .int 0, .int 0, .int 0, .int 0, .int 0, .int 0, .int 0, .int 0, .int 0, .int 0, .int 0, .int 0, .int 0]) : ACell), (.inr (.int, [.int 0, .int 0, .int 0, .int 0, .int 0, .int 0, .int 0, .int 0, .int 0, .int 0, .int 0, .int 0, .int 0, .int 0, .int 0, .int 0]) : ACell), (.inr (.int, [.int 0, .int 0, .int 0, .int 0, .int 0]) : ACell), (.inr (.int, [.int 0, .int 0, .int 0, .int 0, .int 0]) : ACell), (.inr (.int, [.int 0, .int 0, .int 0, .int 0, .int 0]) : ACell)]) := by
  refine e1 ?_
  refine s1_0 ?_
  refine s1_1 rfl ?_
  refine s1_4 ?_
  refine s1_5 ?_
  refine s1_7 3 16 (by decide) rfl rfl ?_
  refine s1_9 rfl ?_
  refine s1_12 ?_
  refine s1_13 ?_
  refine s1_15 4 16 (by decide) rfl rfl ?_
  refine s1_17 rfl ?_
  refine s1_20 ?_
  refine s1_21 ?_
  refine s1_22 ?_
  refine s1_23 ?_
  refine s1_24 5 5 (by decide) rfl rfl ?_
  refine s1_26 rfl ?_
  refine s1_29 ?_
  refine s1_30 ?_
  refine s1_31 ?_
  refine s1_32 ?_
  refine s1_33 6 5 (by decide) rfl rfl ?_
  refine s1_35 rfl ?_
  refine s1_38 ?_
  refine s1_39 ?_
  refine s1_40 ?_
  refine s1_41 ?_
  refine s1_42 7 5 (by decide) rfl rfl ?_
  refine s1_44 rfl ?_
  exact s1_47 ⟨rfl, rfl⟩
theorem own_r133  : M2 ⟨0, 0, 0, 0⟩ [.ref 2, .int 1, .int 1] [(.inr (.int, [.int 1, .int 2, .int 0]) : ACell), (.inr (.int, [.int 2, .int 3, .int 0]) : ACell), (.inl (0, [.ref 3, .ref 4, .ref 5, .ref 6, .ref 7]) : ACell), (.inr (.int, [.int 0, .int 0, .int 0, .int 0, .int 0, .int 0, .int 0, .int 0, .int 0, .int 0, .int 0, .int 0, .int 0, .int 0, .int 0, .int 0]) : ACell), (.inr (.int, [.int 0, .int 0, .int 0, .int 0, .int 0, .int 0, .int 0, .int 0, .int 0, .int 0, .int 0, .int 0, .int 0, .int 0, .int 0, .int 0]) : ACell), (.inr (.int, [.int 0, .int 0, .int 0, .int 0, .int 0]) : ACell), (.inr (.int, [.int 0, .int 0, .int 0, .int 0, .int 0]) : ACell), (.inr (.int, [.int 0, .int 0, .int 0, .int 0, .int 0]) : ACell)] (Is none [(.inr (.int, [.int 1, .int 2, .int 0]) : ACell), (.inr (.int, [.int 2, .int 3, .int 0]) : ACell), (.inl (0, [.ref 3, .ref 4, .ref 5, .ref 6, .ref 7]) : ACell), (.inr (.int, [.int 0, .int 1, .int 0, .int 0, .int 0, .int 0, .int 0, .int 0, .int 0, .int 0, .int 0, .int 0, .int 0, .int 0, .int 0, .int 0]) : ACell), (.inr (.int, [.int 0, .int 1, .int 0, .int 0, .int 0, .int 0, .int 0, .int 0, .int 0, .int 0, .int 0, .int 0, .int 0, .int 0, .int 0, .int 0]) : ACell), (.inr (.int, [.int 0, .int 1, .int 0, .int 0, .int 0]) : ACell), (.inr (.int, [.int 0, .int 0, .int 0, .int 0, .int 0]) : ACell), (.inr (.int, [.int 0, .int 0, .int 0, .int 0, .int 0]) : ACell)]) := by
  refine e2 ?_
  refine s2_0 ?_
  refine s2_1 ?_
  refine s2_2 rfl ?_
  refine s2_5k 16 rfl rfl ?_
  refine s2_6 (fun _ => ?_) (fun h => absurd h (by decide))
  refine s2_45 ?_
  refine s2_46 rfl ?_
  refine s2_49 ?_
  refine s2_50 ?_
  refine s2_51 1 rfl (by decide) rfl ?_
  refine s2_52 ?_
  refine s2_53 rfl ?_
  refine s2_56 ?_
  refine s2_57 ?_
  refine s2_58 rfl ?_
  refine s2_61 ?_
  refine s2_62 1 rfl (by decide) rfl ?_
  refine s2_63 1 rfl (by decide) rfl ?_
  refine s2_64 ?_
  refine s2_65 rfl ?_
  refine s2_68 ?_
  refine s2_69 ?_
  refine s2_70 1 rfl (by decide) rfl ?_
  refine s2_71 ?_
  refine s2_72 rfl ?_
  refine s2_75 ?_
  refine s2_76 1 rfl (by decide) rfl ?_
  refine s2_77 (fun h => absurd h (by decide)) (fun _ => ?_)
  refine s2_80 ?_
  refine s2_81 rfl ?_
  refine s2_84 ?_
  refine s2_85 ?_
  refine s2_86 1 rfl (by decide) rfl ?_
  refine s2_87 ?_
  refine s2_102 ?_
  refine s2_103 rfl ?_
  refine s2_106 ?_
  refine s2_107 ?_
  refine s2_108 1 rfl (by decide) rfl ?_
  exact s2_109 ⟨rfl, rfl⟩
theorem own_r134  : M2 ⟨0, 0, 0, 0⟩ [.ref 2, .int 2, .int 1] [(.inr (.int, [.int 1, .int 2, .int 0]) : ACell), (.inr (.int, [.int 2, .int 3, .int 0]) : ACell), (.inl (0, [.ref 3, .ref 4, .ref 5, .ref 6, .ref 7]) : ACell), (.inr (.int, [.int 0, .int 1, .int 0, .int 0, .int 0, .int 0, .int 0, .int 0, .int 0, .int 0, .int 0, .int 0, .int 0, .int 0, .int 0, .int 0]) : ACell), (.inr (.int, [.int 0, .int 1, .int 0, .int 0, .int 0, .int 0, .int 0, .int 0, .int 0, .int 0, .int 0, .int 0, .int 0, .int 0, .int 0, .int 0]) : ACell), (.inr (.int, [.int 0, .int 1, .int 0, .int 0, .int 0]) : ACell), (.inr (.int, [.int 0, .int 0, .int 0, .int 0, .int 0]) : ACell), (.inr (.int, [.int 0, .int 0, .int 0, .int 0, .int 0]) : ACell)] (Is none [(.inr (.int, [.int 1, .int 2, .int 0]) : ACell), (.inr (.int, [.int 2, .int 3, .int 0]) : ACell), (.inl (0, [.ref 3, .ref 4, .ref 5, .ref 6, .ref 7]) : ACell), (.inr (.int, [.int 0, .int 1, .int 0, .int 0, .int 0, .int 0, .int 0, .int 0, .int 0, .int 0, .int 0, .int 0, .int 0, .int 0, .int 0, .int 0]) : ACell), (.inr (.int, [.int 0, .int 2, .int 0, .int 0, .int 0, .int 0, .int 0, .int 0, .int 0, .int 0, .int 0, .int 0, .int 0, .int 0, .int 0, .int 0]) : ACell), (.inr (.int, [.int 0, .int 1, .int 1, .int 0, .int 0]) : ACell), (.inr (.int, [.int 0, .int 0, .int 1, .int 0, .int 0]) : ACell), (.inr (.int, [.int 0, .int 2, .int 0, .int 0, .int 0]) : ACell)]) := by
  refine e2 ?_
  refine s2_0 ?_
  refine s2_1 ?_
  refine s2_2 rfl ?_
  refine s2_5k 16 rfl rfl ?_
  refine s2_6 (fun _ => ?_) (fun h => absurd h (by decide))
  refine s2_45 ?_
  refine s2_46 rfl ?_
  refine s2_49 ?_
  refine s2_50 ?_
  refine s2_51 2 rfl (by decide) rfl ?_
  refine s2_52 ?_
  refine s2_53 rfl ?_
  refine s2_56 ?_
  refine s2_57 ?_
  refine s2_58 rfl ?_
  refine s2_61 ?_
  refine s2_62 1 rfl (by decide) rfl ?_
  refine s2_63 2 rfl (by decide) rfl ?_
  refine s2_64 ?_
  refine s2_65 rfl ?_
  refine s2_68 ?_
  refine s2_69 ?_
  refine s2_70 2 rfl (by decide) rfl ?_
  refine s2_71 ?_
  refine s2_72 rfl ?_
  refine s2_75 ?_
  refine s2_76 1 rfl (by decide) rfl ?_
  refine s2_77 (fun _ => ?_) (fun h => absurd h (by decide))
  refine s2_90 ?_
  refine s2_91 rfl ?_
  refine s2_94 ?_
  refine s2_95 rfl ?_
  refine s2_98 ?_
  refine s2_99 1 rfl (by decide) rfl ?_
  refine s2_100 ?_
  refine s2_101 1 rfl (by decide) rfl ?_
  refine s2_102 ?_
  refine s2_103 rfl ?_
  refine s2_106 ?_
  refine s2_107 ?_
  refine s2_108 1 rfl (by decide) rfl ?_
  exact s2_109 ⟨rfl, rfl⟩
theorem own_r135  : M2 ⟨0, 0, 0, 0⟩ [.ref 2, .int 3, .int 1] [(.inr (.int, [.int 1, .int 2, .int 0]) : ACell), (.inr (.int, [.int 2, .int 3, .int 0]) : ACell), (.inl (0, [.ref 3, .ref 4, .ref 5, .ref 6, .ref 7]) : ACell), (.inr (.int, [.int 0, .int 1, .int 0, .int 0, .int 0, .int 0, .int 0, .int 0, .int 0, .int 0, .int 0, .int 0, .int 0, .int 0, .int 0, .int 0]) : ACell), (.inr (.int, [.int 0, .int 2, .int 0, .int 0, .int 0, .int 0, .int 0, .int 0, .int 0, .int 0, .int 0, .int 0, .int 0, .int 0, .int 0, .int 0]) : ACell), (.inr (.int, [.int 0, .int 1, .int 1, .int 0, .int 0]) : ACell), (.inr (.int, [.int 0, .int 0, .int 1, .int 0, .int 0]) : ACell), (.inr (.int, [.int 0, .int 2, .int 0, .int 0, .int 0]) : ACell)] (Is none [(.inr (.int, [.int 1, .int 2, .int 0]) : ACell), (.inr (.int, [.int 2, .int 3, .int 0]) : ACell), (.inl (0, [.ref 3, .ref 4, .ref 5, .ref 6, .ref 7]) : ACell), (.inr (.int, [.int 0, .int 1, .int 0, .int 0, .int 0, .int 0, .int 0, .int 0, .int 0, .int 0, .int 0, .int 0, .int 0, .int 0, .int 0, .int 0]) : ACell), (.inr (.int, [.int 0, .int 3, .int 0, .int 0, .int 0, .int 0, .int 0, .int 0, .int 0, .int 0, .int 0, .int 0, .int 0, .int 0, .int 0, .int 0]) : ACell), (.inr (.int, [.int 0, .int 1, .int 1, .int 1, .int 0]) : ACell), (.inr (.int, [.int 0, .int 0, .int 1, .int 2, .int 0]) : ACell), (.inr (.int, [.int 0, .int 2, .int 3, .int 0, .int 0]) : ACell)]) := by
  refine e2 ?_
  refine s2_0 ?_
  refine s2_1 ?_
  refine s2_2 rfl ?_
  refine s2_5k 16 rfl rfl ?_
  refine s2_6 (fun _ => ?_) (fun h => absurd h (by decide))
  refine s2_45 ?_
  refine s2_46 rfl ?_
  refine s2_49 ?_
  refine s2_50 ?_
  refine s2_51 3 rfl (by decide) rfl ?_
  refine s2_52 ?_
  refine s2_53 rfl ?_
  refine s2_56 ?_
  refine s2_57 ?_
  refine s2_58 rfl ?_
  refine s2_61 ?_
  refine s2_62 1 rfl (by decide) rfl ?_
  refine s2_63 3 rfl (by decide) rfl ?_
  refine s2_64 ?_
  refine s2_65 rfl ?_
  refine s2_68 ?_
  refine s2_69 ?_
  refine s2_70 3 rfl (by decide) rfl ?_
  refine s2_71 ?_
  refine s2_72 rfl ?_
  refine s2_75 ?_
  refine s2_76 1 rfl (by decide) rfl ?_
  refine s2_77 (fun _ => ?_) (fun h => absurd h (by decide))
  refine s2_90 ?_
  refine s2_91 rfl ?_
  refine s2_94 ?_
  refine s2_95 rfl ?_
  refine s2_98 ?_
  refine s2_99 1 rfl (by decide) rfl ?_
  refine s2_100 ?_
  refine s2_101 2 rfl (by decide) rfl ?_
  refine s2_102 ?_
  refine s2_103 rfl ?_
  refine s2_106 ?_
  refine s2_107 ?_
  refine s2_108 1 rfl (by decide) rfl ?_
  exact s2_109 ⟨rfl, rfl⟩
theorem own_r136  : M2 ⟨0, 0, 0, 0⟩ [.ref 2, .int 4, .int 2] [(.inr (.int, [.int 1, .int 2, .int 0]) : ACell), (.inr (.int, [.int 2, .int 3, .int 0]) : ACell), (.inl (0, [.ref 3, .ref 4, .ref 5, .ref 6, .ref 7]) : ACell), (.inr (.int, [.int 0, .int 1, .int 0, .int 0, .int 0, .int 0, .int 0, .int 0, .int 0, .int 0, .int 0, .int 0, .int 0, .int 0, .int 0, .int 0]) : ACell), (.inr (.int, [.int 0, .int 3, .int 0, .int 0, .int 0, .int 0, .int 0, .int 0, .int 0, .int 0, .int 0, .int 0, .int 0, .int 0, .int 0, .int 0]) : ACell), (.inr (.int, [.int 0, .int 1, .int 1, .int 1, .int 0]) : ACell), (.inr (.int, [.int 0, .int 0, .int 1, .int 2, .int 0]) : ACell), (.inr (.int, [.int 0, .int 2, .int 3, .int 0, .int 0]) : ACell)] (Is none [(.inr (.int, [.int 1, .int 2, .int 0]) : ACell), (.inr (.int, [.int 2, .int 3, .int 0]) : ACell), (.inl (0, [.ref 3, .ref 4, .ref 5, .ref 6, .ref 7]) : ACell), (.inr (.int, [.int 0, .int 1, .int 4, .int 0, .int 0, .int 0, .int 0, .int 0, .int 0, .int 0, .int 0, .int 0, .int 0, .int 0, .int 0, .int 0]) : ACell), (.inr (.int, [.int 0, .int 3, .int 4, .int 0, .int 0, .int 0, .int 0, .int 0, .int 0, .int 0, .int 0, .int 0, .int 0, .int 0, .int 0, .int 0]) : ACell), (.inr (.int, [.int 0, .int 1, .int 1, .int 1, .int 2]) : ACell), (.inr (.int, [.int 0, .int 0, .int 1, .int 2, .int 0]) : ACell), (.inr (.int, [.int 0, .int 2, .int 3, .int 0, .int 0]) : ACell)]) := by
  refine e2 ?_
  refine s2_0 ?_
  refine s2_1 ?_
  refine s2_2 rfl ?_
  refine s2_5k 16 rfl rfl ?_
  refine s2_6 (fun _ => ?_) (fun h => absurd h (by decide))
  refine s2_45 ?_
  refine s2_46 rfl ?_
  refine s2_49 ?_
  refine s2_50 ?_
  refine s2_51 4 rfl (by decide) rfl ?_
  refine s2_52 ?_
  refine s2_53 rfl ?_
  refine s2_56 ?_
  refine s2_57 ?_
  refine s2_58 rfl ?_
  refine s2_61 ?_
  refine s2_62 2 rfl (by decide) rfl ?_
  refine s2_63 4 rfl (by decide) rfl ?_
  refine s2_64 ?_
  refine s2_65 rfl ?_
  refine s2_68 ?_
  refine s2_69 ?_
  refine s2_70 4 rfl (by decide) rfl ?_
  refine s2_71 ?_
  refine s2_72 rfl ?_
  refine s2_75 ?_
  refine s2_76 2 rfl (by decide) rfl ?_
  refine s2_77 (fun h => absurd h (by decide)) (fun _ => ?_)
  refine s2_80 ?_
  refine s2_81 rfl ?_
  refine s2_84 ?_
  refine s2_85 ?_
  refine s2_86 2 rfl (by decide) rfl ?_
  refine s2_87 ?_
  refine s2_102 ?_
  refine s2_103 rfl ?_
  refine s2_106 ?_
  refine s2_107 ?_
  refine s2_108 2 rfl (by decide) rfl ?_
  exact s2_109 ⟨rfl, rfl⟩
theorem own_r137  : M3 ⟨0, 0, 0, 0⟩ [.ref 2, .int 3] [(.inr (.int, [.int 1, .int 2, .int 0]) : ACell), (.inr (.int, [.int 2, .int 3, .int 0]) : ACell), (.inl (0, [.ref 3, .ref 4, .ref 5, .ref 6, .ref 7]) : ACell), (.inr (.int, [.int 0, .int 1, .int 4, .int 0, .int 0, .int 0, .int 0, .int 0, .int 0, .int 0, .int 0, .int 0, .int 0, .int 0, .int 0, .int 0]) : ACell), (.inr (.int, [.int 0, .int 3, .int 4, .int 0, .int 0, .int 0, .int 0, .int 0, .int 0, .int 0, .int 0, .int 0, .int 0, .int 0, .int 0, .int 0]) : ACell), (.inr (.int, [.int 0, .int 1, .int 1, .int 1, .int 2]) : ACell), (.inr (.int, [.int 0, .int 0, .int 1, .int 2, .int 0]) : ACell), (.inr (.int, [.int 0, .int 2, .int 3, .int 0, .int 0]) : ACell)] (Is none [(.inr (.int, [.int 1, .int 2, .int 0]) : ACell), (.inr (.int, [.int 2, .int 3, .int 0]) : ACell), (.inl (0, [.ref 3, .ref 4, .ref 5, .ref 6, .ref 7]) : ACell), (.inr (.int, [.int 0, .int 1, .int 4, .int 0, .int 0, .int 0, .int 0, .int 0, .int 0, .int 0, .int 0, .int 0, .int 0, .int 0, .int 0, .int 0]) : ACell), (.inr (.int, [.int 0, .int 2, .int 4, .int 0, .int 0, .int 0, .int 0, .int 0, .int 0, .int 0, .int 0, .int 0, .int 0, .int 0, .int 0, .int 0]) : ACell), (.inr (.int, [.int 0, .int 1, .int 1, .int 0, .int 2]) : ACell), (.inr (.int, [.int 0, .int 0, .int 1, .int 2, .int 0]) : ACell), (.inr (.int, [.int 0, .int 2, .int 0, .int 0, .int 0]) : ACell)]) := by
  refine e3 ?_
  refine s3_0 ?_
  refine s3_1 rfl ?_
  refine s3_4 ?_
  refine s3_5 3 rfl (by decide) rfl ?_
  refine s3_6 rfl ?_
  refine s3_7 ?_
  refine s3_8 rfl ?_
  refine s3_11 ?_
  refine s3_12 3 rfl (by decide) rfl ?_
  refine s3_13 (fun _ => ?_) (fun h => absurd h (by decide))
  refine s3_31 ?_
  refine s3_32 rfl ?_
  refine s3_35 ?_
  refine s3_36 rfl ?_
  refine s3_39 ?_
  refine s3_40 3 rfl (by decide) rfl ?_
  refine s3_41 ?_
  refine s3_42 rfl ?_
  refine s3_45 ?_
  refine s3_46 3 rfl (by decide) rfl ?_
  refine s3_47 2 rfl (by decide) rfl ?_
  refine s3_48 ?_
  refine s3_49 rfl ?_
  refine s3_52 ?_
  refine s3_53 3 rfl (by decide) rfl ?_
  refine s3_54 (fun h => absurd h (by decide)) (fun _ => ?_)
  refine s3_57 ?_
  refine s3_58 rfl ?_
  refine s3_61 ?_
  refine s3_62 ?_
  refine s3_63 rfl ?_
  refine s3_66 ?_
  refine s3_67 3 rfl (by decide) rfl ?_
  refine s3_68 1 rfl (by decide) rfl ?_
  refine s3_69 ?_
  refine s3_89 ?_
  refine s3_90 rfl ?_
  refine s3_93 ?_
  refine s3_94 ?_
  refine s3_95 3 rfl (by decide) rfl ?_
  exact s3_96 ⟨rfl, rfl⟩
theorem own_r138  : M4 ⟨0, 0, 0, 0⟩ [.ref 2, .int 3] [(.inr (.int, [.int 1, .int 2, .int 0]) : ACell), (.inr (.int, [.int 2, .int 3, .int 0]) : ACell), (.inl (0, [.ref 3, .ref 4, .ref 5, .ref 6, .ref 7]) : ACell), (.inr (.int, [.int 0, .int 1, .int 4, .int 0, .int 0, .int 0, .int 0, .int 0, .int 0, .int 0, .int 0, .int 0, .int 0, .int 0, .int 0, .int 0]) : ACell), (.inr (.int, [.int 0, .int 2, .int 4, .int 0, .int 0, .int 0, .int 0, .int 0, .int 0, .int 0, .int 0, .int 0, .int 0, .int 0, .int 0, .int 0]) : ACell), (.inr (.int, [.int 0, .int 1, .int 1, .int 0, .int 2]) : ACell), (.inr (.int, [.int 0, .int 0, .int 1, .int 2, .int 0]) : ACell), (.inr (.int, [.int 0, .int 2, .int 0, .int 0, .int 0]) : ACell)] (Is (some (.int 0)) [(.inr (.int, [.int 1, .int 2, .int 0]) : ACell), (.inr (.int, [.int 2, .int 3, .int 0]) : ACell), (.inl (0, [.ref 3, .ref 4, .ref 5, .ref 6, .ref 7]) : ACell), (.inr (.int, [.int 0, .int 1, .int 4, .int 0, .int 0, .int 0, .int 0, .int 0, .int 0, .int 0, .int 0, .int 0, .int 0, .int 0, .int 0, .int 0]) : ACell), (.inr (.int, [.int 0, .int 2, .int 4, .int 0, .int 0, .int 0, .int 0, .int 0, .int 0, .int 0, .int 0, .int 0, .int 0, .int 0, .int 0, .int 0]) : ACell), (.inr (.int, [.int 0, .int 1, .int 1, .int 0, .int 2]) : ACell), (.inr (.int, [.int 0, .int 0, .int 1, .int 2, .int 0]) : ACell), (.inr (.int, [.int 0, .int 2, .int 0, .int 0, .int 0]) : ACell)]) := by
  refine e4 ?_
  refine s4_0 ?_
  refine s4_1 rfl ?_
  refine s4_4 ?_
  refine s4_5 3 rfl (by decide) rfl ?_
  exact s4_6 ⟨rfl, rfl⟩
theorem own_r139  : M3 ⟨0, 0, 0, 0⟩ [.ref 2, .int 1] [(.inr (.int, [.int 1, .int 2, .int 0]) : ACell), (.inr (.int, [.int 2, .int 3, .int 0]) : ACell), (.inl (0, [.ref 3, .ref 4, .ref 5, .ref 6, .ref 7]) : ACell), (.inr (.int, [.int 0, .int 1, .int 4, .int 0, .int 0, .int 0, .int 0, .int 0, .int 0, .int 0, .int 0, .int 0, .int 0, .int 0, .int 0, .int 0]) : ACell), (.inr (.int, [.int 0, .int 2, .int 4, .int 0, .int 0, .int 0, .int 0, .int 0, .int 0, .int 0, .int 0, .int 0, .int 0, .int 0, .int 0, .int 0]) : ACell), (.inr (.int, [.int 0, .int 1, .int 1, .int 0, .int 2]) : ACell), (.inr (.int, [.int 0, .int 0, .int 1, .int 2, .int 0]) : ACell), (.inr (.int, [.int 0, .int 2, .int 0, .int 0, .int 0]) : ACell)] (Is none [(.inr (.int, [.int 1, .int 2, .int 0]) : ACell), (.inr (.int, [.int 2, .int 3, .int 0]) : ACell), (.inl (0, [.ref 3, .ref 4, .ref 5, .ref 6, .ref 7]) : ACell), (.inr (.int, [.int 0, .int 2, .int 4, .int 0, .int 0, .int 0, .int 0, .int 0, .int 0, .int 0, .int 0, .int 0, .int 0, .int 0, .int 0, .int 0]) : ACell), (.inr (.int, [.int 0, .int 2, .int 4, .int 0, .int 0, .int 0, .int 0, .int 0, .int 0, .int 0, .int 0, .int 0, .int 0, .int 0, .int 0, .int 0]) : ACell), (.inr (.int, [.int 0, .int 0, .int 1, .int 0, .int 2]) : ACell), (.inr (.int, [.int 0, .int 0, .int 0, .int 2, .int 0]) : ACell), (.inr (.int, [.int 0, .int 2, .int 0, .int 0, .int 0]) : ACell)]) := by
  refine e3 ?_
  refine s3_0 ?_
  refine s3_1 rfl ?_
  refine s3_4 ?_
  refine s3_5 1 rfl (by decide) rfl ?_
  refine s3_6 rfl ?_
  refine s3_7 ?_
  refine s3_8 rfl ?_
  refine s3_11 ?_
  refine s3_12 1 rfl (by decide) rfl ?_
  refine s3_13 (fun h => absurd h (by decide)) (fun _ => ?_)
  refine s3_16 ?_
  refine s3_17 rfl ?_
  refine s3_20 ?_
  refine s3_21 ?_
  refine s3_22 rfl ?_
  refine s3_25 ?_
  refine s3_26 1 rfl (by decide) rfl ?_
  refine s3_27 1 rfl (by decide) rfl ?_
  refine s3_28 ?_
  refine s3_48 ?_
  refine s3_49 rfl ?_
  refine s3_52 ?_
  refine s3_53 1 rfl (by decide) rfl ?_
  refine s3_54 (fun _ => ?_) (fun h => absurd h (by decide))
  refine s3_72 ?_
  refine s3_73 rfl ?_
  refine s3_76 ?_
  refine s3_77 rfl ?_
  refine s3_80 ?_
  refine s3_81 1 rfl (by decide) rfl ?_
  refine s3_82 ?_
  refine s3_83 rfl ?_
  refine s3_86 ?_
  refine s3_87 1 rfl (by decide) rfl ?_
  refine s3_88 2 rfl (by decide) rfl ?_
  refine s3_89 ?_
  refine s3_90 rfl ?_
  refine s3_93 ?_
  refine s3_94 ?_
  refine s3_95 1 rfl (by decide) rfl ?_
  exact s3_96 ⟨rfl, rfl⟩
theorem own_r140  : M2 ⟨0, 0, 0, 0⟩ [.ref 2, .int 3, .int 1] [(.inr (.int, [.int 1, .int 2, .int 0]) : ACell), (.inr (.int, [.int 2, .int 3, .int 0]) : ACell), (.inl (0, [.ref 3, .ref 4, .ref 5, .ref 6, .ref 7]) : ACell), (.inr (.int, [.int 0, .int 2, .int 4, .int 0, .int 0, .int 0, .int 0, .int 0, .int 0, .int 0, .int 0, .int 0, .int 0, .int 0, .int 0, .int 0]) : ACell), (.inr (.int, [.int 0, .int 2, .int 4, .int 0, .int 0, .int 0, .int 0, .int 0, .int 0, .int 0, .int 0, .int 0, .int 0, .int 0, .int 0, .int 0]) : ACell), (.inr (.int, [.int 0, .int 0, .int 1, .int 0, .int 2]) : ACell), (.inr (.int, [.int 0, .int 0, .int 0, .int 2, .int 0]) : ACell), (.inr (.int, [.int 0, .int 2, .int 0, .int 0, .int 0]) : ACell)] (Is none [(.inr (.int, [.int 1, .int 2, .int 0]) : ACell), (.inr (.int, [.int 2, .int 3, .int 0]) : ACell), (.inl (0, [.ref 3, .ref 4, .ref 5, .ref 6, .ref 7]) : ACell), (.inr (.int, [.int 0, .int 2, .int 4, .int 0, .int 0, .int 0, .int 0, .int 0, .int 0, .int 0, .int 0, .int 0, .int 0, .int 0, .int 0, .int 0]) : ACell), (.inr (.int, [.int 0, .int 3, .int 4, .int 0, .int 0, .int 0, .int 0, .int 0, .int 0, .int 0, .int 0, .int 0, .int 0, .int 0, .int 0, .int 0]) : ACell), (.inr (.int, [.int 0, .int 0, .int 1, .int 1, .int 2]) : ACell), (.inr (.int, [.int 0, .int 0, .int 0, .int 2, .int 0]) : ACell), (.inr (.int, [.int 0, .int 2, .int 3, .int 0, .int 0]) : ACell)]) := by
  refine e2 ?_
  refine s2_0 ?_
  refine s2_1 ?_
  refine s2_2 rfl ?_
  refine s2_5k 16 rfl rfl ?_
  refine s2_6 (fun _ => ?_) (fun h => absurd h (by decide))
  refine s2_45 ?_
  refine s2_46 rfl ?_
  refine s2_49 ?_
  refine s2_50 ?_
  refine s2_51 3 rfl (by decide) rfl ?_
  refine s2_52 ?_
  refine s2_53 rfl ?_
  refine s2_56 ?_
  refine s2_57 ?_
  refine s2_58 rfl ?_
  refine s2_61 ?_
  refine s2_62 1 rfl (by decide) rfl ?_
  refine s2_63 3 rfl (by decide) rfl ?_
  refine s2_64 ?_
  refine s2_65 rfl ?_
  refine s2_68 ?_
  refine s2_69 ?_
  refine s2_70 3 rfl (by decide) rfl ?_
  refine s2_71 ?_
  refine s2_72 rfl ?_
  refine s2_75 ?_
  refine s2_76 1 rfl (by decide) rfl ?_
  refine s2_77 (fun _ => ?_) (fun h => absurd h (by decide))
  refine s2_90 ?_
  refine s2_91 rfl ?_
  refine s2_94 ?_
  refine s2_95 rfl ?_
  refine s2_98 ?_
  refine s2_99 1 rfl (by decide) rfl ?_
  refine s2_100 ?_
  refine s2_101 2 rfl (by decide) rfl ?_
  refine s2_102 ?_
  refine s2_103 rfl ?_
  refine s2_106 ?_
  refine s2_107 ?_
  refine s2_108 1 rfl (by decide) rfl ?_
  exact s2_109 ⟨rfl, rfl⟩
theorem own_r141  : M5 ⟨0, 1, 2, 0⟩ [.ref 2, .int 1] [(.inr (.int, [.int 1, .int 2, .int 0]) : ACell), (.inr (.int, [.int 2, .int 3, .int 0]) : ACell), (.inl (0, [.ref 3, .ref 4, .ref 5, .ref 6, .ref 7]) : ACell), (.inr (.int, [.int 0, .int 2, .int 4, .int 0, .int 0, .int 0, .int 0, .int 0, .int 0, .int 0, .int 0, .int 0, .int 0, .int 0, .int 0, .int 0]) : ACell), (.inr (.int, [.int 0, .int 3, .int 4, .int 0, .int 0, .int 0, .int 0, .int 0, .int 0, .int 0, .int 0, .int 0, .int 0, .int 0, .int 0, .int 0]) : ACell), (.inr (.int, [.int 0, .int 0, .int 1, .int 1, .int 2]) : ACell), (.inr (.int, [.int 0, .int 0, .int 0, .int 2, .int 0]) : ACell), (.inr (.int, [.int 0, .int 2, .int 3, .int 0, .int 0]) : ACell)] (Is (some (.ref 8)) [(.inr (.int, [.int 1, .int 2, .int 0]) : ACell), (.inr (.int, [.int 2, .int 3, .int 0]) : ACell), (.inl (0, [.ref 3, .ref 4, .ref 5, .ref 6, .ref 7]) : ACell), (.inr (.int, [.int 0, .int 2, .int 4, .int 0, .int 0, .int 0, .int 0, .int 0, .int 0, .int 0, .int 0, .int 0, .int 0, .int 0, .int 0, .int 0]) : ACell), (.inr (.int, [.int 0, .int 3, .int 4, .int 0, .int 0, .int 0, .int 0, .int 0, .int 0, .int 0, .int 0, .int 0, .int 0, .int 0, .int 0, .int 0]) : ACell), (.inr (.int, [.int 0, .int 0, .int 1, .int 1, .int 2]) : ACell), (.inr (.int, [.int 0, .int 0, .int 0, .int 2, .int 0]) : ACell), (.inr (.int, [.int 0, .int 2, .int 3, .int 0, .int 0]) : ACell), (.inr (.int, [.int 2, .int 3]) : ACell)]) := by
  refine e5 ?_
  refine s5_0 ?_
  refine s5_1 rfl ?_
  refine s5_2 ?_
  refine s5_3 rfl ?_
  refine s5_6 ?_
  refine s5_7 1 rfl (by decide) rfl ?_
  refine s5_8 rfl ?_
  refine s5_9 ?_
  refine s5_10 (fun h => absurd h (by decide)) (fun _ => ?_)
  refine s5_13 ?_
  refine s5_16 ?_
  refine s5_17 rfl ?_
  refine s5_20 ?_
  refine s5_21 2 rfl (by decide) rfl ?_
  refine s5_22 rfl ?_
  refine s5_23 ?_
  refine s5_9 ?_
  refine s5_10 (fun h => absurd h (by decide)) (fun _ => ?_)
  refine s5_13 ?_
  refine s5_16 ?_
  refine s5_17 rfl ?_
  refine s5_20 ?_
  refine s5_21 3 rfl (by decide) rfl ?_
  refine s5_22 rfl ?_
  refine s5_23 ?_
  refine s5_9 ?_
  refine s5_10 (fun _ => ?_) (fun h => absurd h (by decide))
  refine s5_26 ?_
  refine s5_27 8 2 (by decide) rfl rfl ?_
  refine s5_29 rfl ?_
  refine s5_30 ?_
  refine s5_31 rfl ?_
  refine s5_33 ?_
  refine s5_34 rfl ?_
  refine s5_37 ?_
  refine s5_38 1 rfl (by decide) rfl ?_
  refine s5_39 rfl ?_
  refine s5_41 ?_
  refine s5_43 (fun h => absurd h (by decide)) (fun _ => ?_)
  refine s5_46 ?_
  refine s5_47 ?_
  refine s5_49 ?_
  refine s5_51 0 rfl (by decide) rfl ?_
  refine s5_52 ?_
  refine s5_55 ?_
  refine s5_56 rfl ?_
  refine s5_59 ?_
  refine s5_61 2 rfl (by decide) rfl ?_
  refine s5_62 rfl ?_
  refine s5_64 ?_
  refine s5_41 ?_
  refine s5_43 (fun h => absurd h (by decide)) (fun _ => ?_)
  refine s5_46 ?_
  refine s5_47 ?_
  refine s5_49 ?_
  refine s5_51 1 rfl (by decide) rfl ?_
  refine s5_52 ?_
  refine s5_55 ?_
  refine s5_56 rfl ?_
  refine s5_59 ?_
  refine s5_61 3 rfl (by decide) rfl ?_
  refine s5_62 rfl ?_
  refine s5_64 ?_
  refine s5_41 ?_
  refine s5_43 (fun _ => ?_) (fun h => absurd h (by decide))
  refine s5_67 ?_
  exact s5_68 ⟨rfl, rfl⟩
theorem own_r142  : M5 ⟨0, 1, 1, 0⟩ [.ref 2, .int 2] [(.inr (.int, [.int 1, .int 2, .int 0]) : ACell), (.inr (.int, [.int 2, .int 3, .int 0]) : ACell), (.inl (0, [.ref 3, .ref 4, .ref 5, .ref 6, .ref 7]) : ACell), (.inr (.int, [.int 0, .int 2, .int 4, .int 0, .int 0, .int 0, .int 0, .int 0, .int 0, .int 0, .int 0, .int 0, .int 0, .int 0, .int 0, .int 0]) : ACell), (.inr (.int, [.int 0, .int 3, .int 4, .int 0, .int 0, .int 0, .int 0, .int 0, .int 0, .int 0, .int 0, .int 0, .int 0, .int 0, .int 0, .int 0]) : ACell), (.inr (.int, [.int 0, .int 0, .int 1, .int 1, .int 2]) : ACell), (.inr (.int, [.int 0, .int 0, .int 0, .int 2, .int 0]) : ACell), (.inr (.int, [.int 0, .int 2, .int 3, .int 0, .int 0]) : ACell), (.inr (.int, [.int 2, .int 3]) : ACell)] (Is (some (.ref 9)) [(.inr (.int, [.int 1, .int 2, .int 0]) : ACell), (.inr (.int, [.int 2, .int 3, .int 0]) : ACell), (.inl (0, [.ref 3, .ref 4, .ref 5, .ref 6, .ref 7]) : ACell), (.inr (.int, [.int 0, .int 2, .int 4, .int 0, .int 0, .int 0, .int 0, .int 0, .int 0, .int 0, .int 0, .int 0, .int 0, .int 0, .int 0, .int 0]) : ACell), (.inr (.int, [.int 0, .int 3, .int 4, .int 0, .int 0, .int 0, .int 0, .int 0, .int 0, .int 0, .int 0, .int 0, .int 0, .int 0, .int 0, .int 0]) : ACell), (.inr (.int, [.int 0, .int 0, .int 1, .int 1, .int 2]) : ACell), (.inr (.int, [.int 0, .int 0, .int 0, .int 2, .int 0]) : ACell), (.inr (.int, [.int 0, .int 2, .int 3, .int 0, .int 0]) : ACell), (.inr (.int, [.int 2, .int 3]) : ACell), (.inr (.int, [.int 4]) : ACell)]) := by
  refine e5 ?_
  refine s5_0 ?_
  refine s5_1 rfl ?_
  refine s5_2 ?_
  refine s5_3 rfl ?_
  refine s5_6 ?_
  refine s5_7 2 rfl (by decide) rfl ?_
  refine s5_8 rfl ?_
  refine s5_9 ?_
  refine s5_10 (fun h => absurd h (by decide)) (fun _ => ?_)
  refine s5_13 ?_
  refine s5_16 ?_
  refine s5_17 rfl ?_
  refine s5_20 ?_
  refine s5_21 4 rfl (by decide) rfl ?_
  refine s5_22 rfl ?_
  refine s5_23 ?_
  refine s5_9 ?_
  refine s5_10 (fun _ => ?_) (fun h => absurd h (by decide))
  refine s5_26 ?_
  refine s5_27 9 1 (by decide) rfl rfl ?_
  refine s5_29 rfl ?_
  refine s5_30 ?_
  refine s5_31 rfl ?_
  refine s5_33 ?_
  refine s5_34 rfl ?_
  refine s5_37 ?_
  refine s5_38 2 rfl (by decide) rfl ?_
  refine s5_39 rfl ?_
  refine s5_41 ?_
  refine s5_43 (fun h => absurd h (by decide)) (fun _ => ?_)
  refine s5_46 ?_
  refine s5_47 ?_
  refine s5_49 ?_
  refine s5_51 0 rfl (by decide) rfl ?_
  refine s5_52 ?_
  refine s5_55 ?_
  refine s5_56 rfl ?_
  refine s5_59 ?_
  refine s5_61 4 rfl (by decide) rfl ?_
  refine s5_62 rfl ?_
  refine s5_64 ?_
  refine s5_41 ?_
  refine s5_43 (fun _ => ?_) (fun h => absurd h (by decide))
  refine s5_67 ?_
  exact s5_68 ⟨rfl, rfl⟩
theorem own_r143  : M6 ⟨0, 0, 0, 0⟩ [.ref 8, .ref 1, .int 2] [(.inr (.int, [.int 1, .int 2, .int 0]) : ACell), (.inr (.int, [.int 2, .int 3, .int 0]) : ACell), (.inl (0, [.ref 3, .ref 4, .ref 5, .ref 6, .ref 7]) : ACell), (.inr (.int, [.int 0, .int 2, .int 4, .int 0, .int 0, .int 0, .int 0, .int 0, .int 0, .int 0, .int 0, .int 0, .int 0, .int 0, .int 0, .int 0]) : ACell), (.inr (.int, [.int 0, .int 3, .int 4, .int 0, .int 0, .int 0, .int 0, .int 0, .int 0, .int 0, .int 0, .int 0, .int 0, .int 0, .int 0, .int 0]) : ACell), (.inr (.int, [.int 0, .int 0, .int 1, .int 1, .int 2]) : ACell), (.inr (.int, [.int 0, .int 0, .int 0, .int 2, .int 0]) : ACell), (.inr (.int, [.int 0, .int 2, .int 3, .int 0, .int 0]) : ACell), (.inr (.int, [.int 2, .int 3]) : ACell), (.inr (.int, [.int 4]) : ACell)] (Is (some (.int 1)) [(.inr (.int, [.int 1, .int 2, .int 0]) : ACell), (.inr (.int, [.int 2, .int 3, .int 0]) : ACell), (.inl (0, [.ref 3, .ref 4, .ref 5, .ref 6, .ref 7]) : ACell), (.inr (.int, [.int 0, .int 2, .int 4, .int 0, .int 0, .int 0, .int 0, .int 0, .int 0, .int 0, .int 0, .int 0, .int 0, .int 0, .int 0, .int 0]) : ACell), (.inr (.int, [.int 0, .int 3, .int 4, .int 0, .int 0, .int 0, .int 0, .int 0, .int 0, .int 0, .int 0, .int 0, .int 0, .int 0, .int 0, .int 0]) : ACell), (.inr (.int, [.int 0, .int 0, .int 1, .int 1, .int 2]) : ACell), (.inr (.int, [.int 0, .int 0, .int 0, .int 2, .int 0]) : ACell), (.inr (.int, [.int 0, .int 2, .int 3, .int 0, .int 0]) : ACell), (.inr (.int, [.int 2, .int 3]) : ACell), (.inr (.int, [.int 4]) : ACell)]) := by
  refine e6 ?_
  refine s6_0 ?_
  refine s6_1k 2 rfl rfl ?_
  refine s6_2 ?_
  refine s6_3 (fun h => absurd h (by decide)) (fun _ => ?_)
  refine s6_6 ?_
  refine s6_7 ?_
  refine s6_8 (fun h => absurd h (by decide)) (fun _ => ?_)
  refine s6_11 ?_
  refine s6_12 ?_
  refine s6_13 0 rfl (by decide) rfl ?_
  refine s6_14 ?_
  refine s6_15 ?_
  refine s6_16 0 rfl (by decide) rfl ?_
  refine s6_17 (fun h => absurd h (by decide)) (fun _ => ?_)
  refine s6_20 ?_
  refine s6_21 ?_
  refine s6_22 (fun h => absurd h (by decide)) (fun _ => ?_)
  refine s6_25 ?_
  refine s6_26 ?_
  refine s6_27 1 rfl (by decide) rfl ?_
  refine s6_28 ?_
  refine s6_29 ?_
  refine s6_30 1 rfl (by decide) rfl ?_
  refine s6_31 (fun h => absurd h (by decide)) (fun _ => ?_)
  refine s6_34 ?_
  refine s6_35 ?_
  refine s6_36 (fun _ => ?_) (fun h => absurd h (by decide))
  refine s6_48 ?_
  refine s6_49 ?_
  exact s6_53 ⟨rfl, rfl⟩
theorem own_r144  : M1 ⟨1, 5, 47, 12⟩ [.ref 2, .int 4] [(.inr (.int, [.int 1, .int 2, .int 0]) : ACell), (.inr (.int, [.int 1, .int 3, .int 0]) : ACell), (.inl (0, [.null, .null, .null, .null, .null]) : ACell)] (Is none [(.inr (.int, [.int 1, .int 2, .int 0]) : ACell), (.inr (.int, [.int 1, .int 3, .int 0]) : ACell), (.inl (0, [.ref 3, .ref 4, .ref 5, .ref 6, .ref 7]) : ACell), (.inr (.int, [.int 0, .int 0, .int 0, .int 0, .int 0, .int 0, .int 0, .int 0, .int 0, .int 0, .int 0, .int 0, .int 0, .int 0, .int 0, .int 0]) : ACell), (.inr (.int, [.int 0, .int 0, .int 0, .int 0, .int 0, .int 0, .int 0, .int 0, .int 0, .int 0, .int 0, .int 0, .int 0, .int 0, .int 0, .int 0]) : ACell), (.inr (.int, [.int 0, .int 0, .int 0, .int 0, .int 0]) : ACell), (.inr (.int, [.int 0, .int 0, .int 0, .int 0, .int 0]) : ACell), (.inr (.int, [.int 0, .int 0, .int 0, .int 0, .int 0]) : ACell)]) := by
  refine e1 ?_
  refine s1_0 ?_
  refine s1_1 rfl ?_
  refine s1_4 ?_
  refine s1_5 ?_
  refine s1_7 3 16 (by decide) rfl rfl ?_
  refine s1_9 rfl ?_
  refine s1_12 ?_
  refine s1_13 ?_
  refine s1_15 4 16 (by decide) rfl rfl ?_
  refine s1_17 rfl ?_
  refine s1_20 ?_
  refine s1_21 ?_
  refine s1_22 ?_
  refine s1_23 ?_
  refine s1_24 5 5 (by decide) rfl rfl ?_
  refine s1_26 rfl ?_
  refine s1_29 ?_
  refine s1_30 ?_
  refine s1_31 ?_
  refine s1_32 ?_
  refine s1_33 6 5 (by decide) rfl rfl ?_
  refine s1_35 rfl ?_
  refine s1_38 ?_
  refine s1_39 ?_
  refine s1_40 ?_
  refine s1_41 ?_
  refine s1_42 7 5 (by decide) rfl rfl ?_
  refine s1_44 rfl ?_
  exact s1_47 ⟨rfl, rfl⟩
theorem own_r145  : M2 ⟨0, 0, 0, 0⟩ [.ref 2, .int 1, .int 1] [(.inr (.int, [.int 1, .int 2, .int 0]) : ACell), (.inr (.int, [.int 1, .int 3, .int 0]) : ACell), (.inl (0, [.ref 3, .ref 4, .ref 5, .ref 6, .ref 7]) : ACell), (.inr (.int, [.int 0, .int 0, .int 0, .int 0, .int 0, .int 0, .int 0, .int 0, .int 0, .int 0, .int 0, .int 0, .int 0, .int 0, .int 0, .int 0]) : ACell), (.inr (.int, [.int 0, .int 0, .int 0, .int 0, .int 0, .int 0, .int 0, .int 0, .int 0, .int 0, .int 0, .int 0, .int 0, .int 0, .int 0, .int 0]) : ACell), (.inr (.int, [.int 0, .int 0, .int 0, .int 0, .int 0]) : ACell), (.inr (.int, [.int 0, .int 0, .int 0, .int 0, .int 0]) : ACell), (.inr (.int, [.int 0, .int 0, .int 0, .int 0, .int 0]) : ACell)] (Is none [(.inr (.int, [.int 1, .int 2, .int 0]) : ACell), (.inr (.int, [.int 1, .int 3, .int 0]) : ACell), (.inl (0, [.ref 3, .ref 4, .ref 5, .ref 6, .ref 7]) : ACell), (.inr (.int, [.int 0, .int 1, .int 0, .int 0, .int 0, .int 0, .int 0, .int 0, .int 0, .int 0, .int 0, .int 0, .int 0, .int 0, .int 0, .int 0]) : ACell), (.inr (.int, [.int 0, .int 1, .int 0, .int 0, .int 0, .int 0, .int 0, .int 0, .int 0, .int 0, .int 0, .int 0, .int 0, .int 0, .int 0, .int 0]) : ACell), (.inr (.int, [.int 0, .int 1, .int 0, .int 0, .int 0]) : ACell), (.inr (.int, [.int 0, .int 0, .int 0, .int 0, .int 0]) : ACell), (.inr (.int, [.int 0, .int 0, .int 0, .int 0, .int 0]) : ACell)]) := by
  refine e2 ?_
  refine s2_0 ?_
  refine s2_1 ?_
  refine s2_2 rfl ?_
  refine s2_5k 16 rfl rfl ?_
  refine s2_6 (fun _ => ?_) (fun h => absurd h (by decide))
  refine s2_45 ?_
  refine s2_46 rfl ?_
  refine s2_49 ?_
  refine s2_50 ?_
  refine s2_51 1 rfl (by decide) rfl ?_
  refine s2_52 ?_
  refine s2_53 rfl ?_
  refine s2_56 ?_
  refine s2_57 ?_
  refine s2_58 rfl ?_
  refine s2_61 ?_
  refine s2_62 1 rfl (by decide) rfl ?_
  refine s2_63 1 rfl (by decide) rfl ?_
  refine s2_64 ?_
  refine s2_65 rfl ?_
  refine s2_68 ?_
  refine s2_69 ?_
  refine s2_70 1 rfl (by decide) rfl ?_
  refine s2_71 ?_
  refine s2_72 rfl ?_
  refine s2_75 ?_
  refine s2_76 1 rfl (by decide) rfl ?_
  refine s2_77 (fun h => absurd h (by decide)) (fun _ => ?_)
  refine s2_80 ?_
  refine s2_81 rfl ?_
  refine s2_84 ?_
  refine s2_85 ?_
  refine s2_86 1 rfl (by decide) rfl ?_
  refine s2_87 ?_
  refine s2_102 ?_
  refine s2_103 rfl ?_
  refine s2_106 ?_
  refine s2_107 ?_
  refine s2_108 1 rfl (by decide) rfl ?_
  exact s2_109 ⟨rfl, rfl⟩
theorem own_r146  : M2 ⟨0, 0, 0, 0⟩ [.ref 2, .int 2, .int 1] [(.inr (.int, [.int 1, .int 2, .int 0]) : ACell), (.inr (.int, [.int 1, .int 3, .int 0]) : ACell), (.inl (0, [.ref 3, .ref 4, .ref 5, .ref 6, .ref 7]) : ACell), (.inr (.int, [.int 0, .int 1, .int 0, .int 0, .int 0, .int 0, .int 0, .int 0, .int 0, .int 0, .int 0, .int 0, .int 0, .int 0, .int 0, .int 0]) : ACell), (.inr (.int, [.int 0, .int 1, .int 0, .int 0, .int 0, .int 0, .int 0, .int 0, .int 0, .int 0, .int 0, .int 0, .int 0, .int 0, .int 0, .int 0]) : ACell), (.inr (.int, [.int 0, .int 1, .int 0, .int 0, .int 0]) : ACell), (.inr (.int, [.int 0, .int 0, .int 0, .int 0, .int 0]) : ACell), (.inr (.int, [.int 0, .int 0, .int 0, .int 0, .int 0]) : ACell)] (Is none [(.inr (.int, [.int 1, .int 2, .int 0]) : ACell), (.inr (.int, [.int 1, .int 3, .int 0]) : ACell), (.inl (0, [.ref 3, .ref 4, .ref 5, .ref 6, .ref 7]) : ACell), (.inr (.int, [.int 0, .int 1, .int 0, .int 0, .int 0, .int 0, .int 0, .int 0, .int 0, .int 0, .int 0, .int 0, .int 0, .int 0, .int 0, .int 0]) : ACell), (.inr (.int, [.int 0, .int 2, .int 0, .int 0, .int 0, .int 0, .int 0, .int 0, .int 0, .int 0, .int 0, .int 0, .int 0, .int 0, .int 0, .int 0]) : ACell), (.inr (.int, [.int 0, .int 1, .int 1, .int 0, .int 0]) : ACell), (.inr (.int, [.int 0, .int 0, .int 1, .int 0, .int 0]) : ACell), (.inr (.int, [.int 0, .int 2, .int 0, .int 0, .int 0]) : ACell)]) := by
  refine e2 ?_
  refine s2_0 ?_
  refine s2_1 ?_
  refine s2_2 rfl ?_
  refine s2_5k 16 rfl rfl ?_
  refine s2_6 (fun _ => ?_) (fun h => absurd h (by decide))
  refine s2_45 ?_
  refine s2_46 rfl ?_
  refine s2_49 ?_
  refine s2_50 ?_
  refine s2_51 2 rfl (by decide) rfl ?_
  refine s2_52 ?_
  refine s2_53 rfl ?_
  refine s2_56 ?_
  refine s2_57 ?_
  refine s2_58 rfl ?_
  refine s2_61 ?_
  refine s2_62 1 rfl (by decide) rfl ?_
  refine s2_63 2 rfl (by decide) rfl ?_
  refine s2_64 ?_
  refine s2_65 rfl ?_
  refine s2_68 ?_
  refine s2_69 ?_
  refine s2_70 2 rfl (by decide) rfl ?_
  refine s2_71 ?_
  refine s2_72 rfl ?_
  refine s2_75 ?_
  refine s2_76 1 rfl (by decide) rfl ?_
  refine s2_77 (fun _ => ?_) (fun h => absurd h (by decide))
  refine s2_90 ?_
  refine s2_91 rfl ?_
  refine s2_94 ?_
  refine s2_95 rfl ?_
  refine s2_98 ?_
  refine s2_99 1 rfl (by decide) rfl ?_
  refine s2_100 ?_
  refine s2_101 1 rfl (by decide) rfl ?_
  refine s2_102 ?_
  refine s2_103 rfl ?_
  refine s2_106 ?_
  refine s2_107 ?_
  refine s2_108 1 rfl (by decide) rfl ?_
  exact s2_109 ⟨rfl, rfl⟩
theorem own_r147  : M2 ⟨0, 0, 0, 0⟩ [.ref 2, .int 3, .int 1] [(.inr (.int, [.int 1, .int 2, .int 0]) : ACell), (.inr (.int, [.int 1, .int 3, .int 0]) : ACell), (.inl (0, [.ref 3, .ref 4, .ref 5, .ref 6, .ref 7]) : ACell), (.inr (.int, [.int 0, .int 1, .int 0, .int 0, .int 0, .int 0, .int 0, .int 0, .int 0, .int 0, .int 0, .int 0, .int 0, .int 0, .int 0, .int 0]) : ACell), (.inr (.int, [.int 0, .int 2, .int 0, .int 0, .int 0, .int 0, .int 0, .int 0, .int 0, .int 0, .int 0, .int 0, .int 0, .int 0, .int 0, .int 0]) : ACell), (.inr (.int, [.int 0, .int 1, .int 1, .int 0, .int 0]) : ACell), (.inr (.int, [.int 0, .int 0, .int 1, .int 0, .int 0]) : ACell), (.inr (.int, [.int 0, .int 2, .int 0, .int 0, .int 0]) : ACell)] (Is none [(.inr (.int, [.int 1, .int 2, .int 0]) : ACell), (.inr (.int, [.int 1, .int 3, .int 0]) : ACell), (.inl (0, [.ref 3, .ref 4, .ref 5, .ref 6, .ref 7]) : ACell), (.inr (.int, [.int 0, .int 1, .int 0, .int 0, .int 0, .int 0, .int 0, .int 0, .int 0, .int 0, .int 0, .int 0, .int 0, .int 0, .int 0, .int 0]) : ACell), (.inr (.int, [.int 0, .int 3, .int 0, .int 0, .int 0, .int 0, .int 0, .int 0, .int 0, .int 0, .int 0, .int 0, .int 0, .int 0, .int 0, .int 0]) : ACell), (.inr (.int, [.int 0, .int 1, .int 1, .int 1, .int 0]) : ACell), (.inr (.int, [.int 0, .int 0, .int 1, .int 2, .int 0]) : ACell), (.inr (.int, [.int 0, .int 2, .int 3, .int 0, .int 0]) : ACell)]) := by
  refine e2 ?_
  refine s2_0 ?_
  refine s2_1 ?_
  refine s2_2 rfl ?_
  refine s2_5k 16 rfl rfl ?_
  refine s2_6 (fun _ => ?_) (fun h => absurd h (by decide))
  refine s2_45 ?_
  refine s2_46 rfl ?_
  refine s2_49 ?_
  refine s2_50 ?_
  refine s2_51 3 rfl (by decide) rfl ?_
  refine s2_52 ?_
  refine s2_53 rfl ?_
  refine s2_56 ?_
  refine s2_57 ?_
  refine s2_58 rfl ?_
  refine s2_61 ?_
  refine s2_62 1 rfl (by decide) rfl ?_
  refine s2_63 3 rfl (by decide) rfl ?_
  refine s2_64 ?_
  refine s2_65 rfl ?_
  refine s2_68 ?_
  refine s2_69 ?_
  refine s2_70 3 rfl (by decide) rfl ?_
  refine s2_71 ?_
  refine s2_72 rfl ?_
  refine s2_75 ?_
  refine s2_76 1 rfl (by decide) rfl ?_
  refine s2_77 (fun _ => ?_) (fun h => absurd h (by decide))
  refine s2_90 ?_
  refine s2_91 rfl ?_
  refine s2_94 ?_
  refine s2_95 rfl ?_
  refine s2_98 ?_
  refine s2_99 1 rfl (by decide) rfl ?_
  refine s2_100 ?_
  refine s2_101 2 rfl (by decide) rfl ?_
  refine s2_102 ?_
  refine s2_103 rfl ?_
  refine s2_106 ?_
  refine s2_107 ?_
  refine s2_108 1 rfl (by decide) rfl ?_
  exact s2_109 ⟨rfl, rfl⟩
theorem own_r148  : M2 ⟨0, 0, 0, 0⟩ [.ref 2, .int 4, .int 2] [(.inr (.int, [.int 1, .int 2, .int 0]) : ACell), (.inr (.int, [.int 1, .int 3, .int 0]) : ACell), (.inl (0, [.ref 3, .ref 4, .ref 5, .ref 6, .ref 7]) : ACell), (.inr (.int, [.int 0, .int 1, .int 0, .int 0, .int 0, .int 0, .int 0, .int 0, .int 0, .int 0, .int 0, .int 0, .int 0, .int 0, .int 0, .int 0]) : ACell), (.inr (.int, [.int 0, .int 3, .int 0, .int 0, .int 0, .int 0, .int 0, .int 0, .int 0, .int 0, .int 0, .int 0, .int 0, .int 0, .int 0, .int 0]) : ACell), (.inr (.int, [.int 0, .int 1, .int 1, .int 1, .int 0]) : ACell), (.inr (.int, [.int 0, .int 0, .int 1, .int 2, .int 0]) : ACell), (.inr (.int, [.int 0, .int 2, .int 3, .int 0, .int 0]) : ACell)] (Is none [(.inr (.int, [.int 1, .int 2, .int 0]) : ACell), (.inr (.int, [.int 1, .int 3, .int 0]) : ACell), (.inl (0, [.ref 3, .ref 4, .ref 5, .ref 6, .ref 7]) : ACell), (.inr (.int, [.int 0, .int 1, .int 4, .int 0, .int 0, .int 0, .int 0, .int 0, .int 0, .int 0, .int 0, .int 0, .int 0, .int 0, .int 0, .int 0]) : ACell), (.inr (.int, [.int 0, .int 3, .int 4, .int 0, .int 0, .int 0, .int 0, .int 0, .int 0, .int 0, .int 0, .int 0, .int 0, .int 0, .int 0, .int 0]) : ACell), (.inr (.int, [.int 0, .int 1, .int 1, .int 1, .int 2]) : ACell), (.inr (.int, [.int 0, .int 0, .int 1, .int 2, .int 0]) : ACell), (.inr (.int, [.int 0, .int 2, .int 3, .int 0, .int 0]) : ACell)]) := by
  refine e2 ?_
  refine s2_0 ?_
  refine s2_1 ?_
  refine s2_2 rfl ?_
  refine s2_5k 16 rfl rfl ?_
  refine s2_6 (fun _ => ?_) (fun h => absurd h (by decide))
  refine s2_45 ?_
  refine s2_46 rfl ?_
  refine s2_49 ?_
  refine s2_50 ?_
  refine s2_51 4 rfl (by decide) rfl ?_
  refine s2_52 ?_
  refine s2_53 rfl ?_
  refine s2_56 ?_
  refine s2_57 ?_
  refine s2_58 rfl ?_
  refine s2_61 ?_
  refine s2_62 2 rfl (by decide) rfl ?_
  refine s2_63 4 rfl (by decide) rfl ?_
  refine s2_64 ?_
  refine s2_65 rfl ?_
  refine s2_68 ?_
  refine s2_69 ?_
  refine s2_70 4 rfl (by decide) rfl ?_
  refine s2_71 ?_
  refine s2_72 rfl ?_
  refine s2_75 ?_
  refine s2_76 2 rfl (by decide) rfl ?_
  refine s2_77 (fun h => absurd h (by decide)) (fun _ => ?_)
  refine s2_80 ?_
  refine s2_81 rfl ?_
  refine s2_84 ?_
  refine s2_85 ?_
  refine s2_86 2 rfl (by decide) rfl ?_
  refine s2_87 ?_
  refine s2_102 ?_
  refine s2_103 rfl ?_
  refine s2_106 ?_
  refine s2_107 ?_
  refine s2_108 2 rfl (by decide) rfl ?_
  exact s2_109 ⟨rfl, rfl⟩
theorem own_r149  : M3 ⟨0, 0, 0, 0⟩ [.ref 2, .int 3] [(.inr (.int, [.int 1, .int 2, .int 0]) : ACell), (.inr (.int, [.int 1, .int 3, .int 0]) : ACell), (.inl (0, [.ref 3, .ref 4, .ref 5, .ref 6, .ref 7]) : ACell), (.inr (.int, [.int 0, .int 1, .int 4, .int 0, .int 0, .int 0, .int 0, .int 0, .int 0, .int 0, .int 0, .int 0, .int 0, .int 0, .int 0, .int 0]) : ACell), (.inr (.int, [.int 0, .int 3, .int 4, .int 0, .int 0, .int 0, .int 0, .int 0, .int 0, .int 0, .int 0, .int 0, .int 0, .int 0, .int 0, .int 0]) : ACell), (.inr (.int, [.int 0, .int 1, .int 1, .int 1, .int 2]) : ACell), (.inr (.int, [.int 0, .int 0, .int 1, .int 2, .int 0]) : ACell), (.inr (.int, [.int 0, .int 2, .int 3, .int 0, .int 0]) : ACell)] (Is none [(.inr (.int, [.int 1, .int 2, .int 0]) : ACell), (.inr (.int, [.int 1, .int 3, .int 0]) : ACell), (.inl (0, [.ref 3, .ref 4, .ref 5, .ref 6, .ref 7]) : ACell), (.inr (.int, [.int 0, .int 1, .int 4, .int 0, .int 0, .int 0, .int 0, .int 0, .int 0, .int 0, .int 0, .int 0, .int 0, .int 0, .int 0, .int 0]) : ACell), (.inr (.int, [.int 0, .int 2, .int 4, .int 0, .int 0, .int 0, .int 0, .int 0, .int 0, .int 0, .int 0, .int 0, .int 0, .int 0, .int 0, .int 0]) : ACell), (.inr (.int, [.int 0, .int 1, .int 1, .int 0, .int 2]) : ACell), (.inr (.int, [.int 0, .int 0, .int 1, .int 2, .int 0]) : ACell), (.inr (.int, [.int 0, .int 2, .int 0, .int 0, .int 0]) : ACell)]) := by
  refine e3 ?_
  refine s3_0 ?_
  refine s3_1 rfl ?_
  refine s3_4 ?_
  refine s3_5 3 rfl (by decide) rfl ?_
  refine s3_6 rfl ?_
  refine s3_7 ?_
  refine s3_8 rfl ?_
  refine s3_11 ?_
  refine s3_12 3 rfl (by decide) rfl ?_
  refine s3_13 (fun _ => ?_) (fun h => absurd h (by decide))
  refine s3_31 ?_
  refine s3_32 rfl ?_
  refine s3_35 ?_
  refine s3_36 rfl ?_
  refine s3_39 ?_
  refine s3_40 3 rfl (by decide) rfl ?_
  refine s3_41 ?_
  refine s3_42 rfl ?_
  refine s3_45 ?_
  refine s3_46 3 rfl (by decide) rfl ?_
  refine s3_47 2 rfl (by decide) rfl ?_
  refine s3_48 ?_
  refine s3_49 rfl ?_
  refine s3_52 ?_
  refine s3_53 3 rfl (by decide) rfl ?_
  refine s3_54 (fun h => absurd h (by decide)) (fun _ => ?_)
  refine s3_57 ?_
  refine s3_58 rfl ?_
  refine s3_61 ?_
  refine s3_62 ?_
  refine s3_63 rfl ?_
  refine s3_66 ?_
  refine s3_67 3 rfl (by decide) rfl ?_
  refine s3_68 1 rfl (by decide) rfl ?_
  refine s3_69 ?_
  refine s3_89 ?_
  refine s3_90 rfl ?_
  refine s3_93 ?_
  refine s3_94 ?_
  refine s3_95 3 rfl (by decide) rfl ?_
  exact s3_96 ⟨rfl, rfl⟩
theorem own_r150  : M4 ⟨0, 0, 0, 0⟩ [.ref 2, .int 3] [(.inr (.int, [.int 1, .int 2, .int 0]) : ACell), (.inr (.int, [.int 1, .int 3, .int 0]) : ACell), (.inl (0, [.ref 3, .ref 4, .ref 5, .ref 6, .ref 7]) : ACell), (.inr (.int, [.int 0, .int 1, .int 4, .int 0, .int 0, .int 0, .int 0, .int 0, .int 0, .int 0, .int 0, .int 0, .int 0, .int 0, .int 0, .int 0]) : ACell), (.inr (.int, [.int 0, .int 2, .int 4, .int 0, .int 0, .int 0, .int 0, .int 0, .int 0, .int 0, .int 0, .int 0, .int 0, .int 0, .int 0, .int 0]) : ACell), (.inr (.int, [.int 0, .int 1, .int 1, .int 0, .int 2]) : ACell), (.inr (.int, [.int 0, .int 0, .int 1, .int 2, .int 0]) : ACell), (.inr (.int, [.int 0, .int 2, .int 0, .int 0, .int 0]) : ACell)] (Is (some (.int 0)) [(.inr (.int, [.int 1, .int 2, .int 0]) : ACell), (.inr (.int, [.int 1, .int 3, .int 0]) : ACell), (.inl (0, [.ref 3, .ref 4, .ref 5, .ref 6, .ref 7]) : ACell), (.inr (.int, [.int 0, .int 1, .int 4, .int 0, .int 0, .int 0, .int 0, .int 0, .int 0, .int 0, .int 0, .int 0, .int 0, .int 0, .int 0, .int 0]) : ACell), (.inr (.int, [.int 0, .int 2, .int 4, .int 0, .int 0, .int 0, .int 0, .int 0, .int 0, .int 0, .int 0, .int 0, .int 0, .int 0, .int 0, .int 0]) : ACell), (.inr (.int, [.int 0, .int 1, .int 1, .int 0, .int 2]) : ACell), (.inr (.int, [.int 0, .int 0, .int 1, .int 2, .int 0]) : ACell), (.inr (.int, [.int 0, .int 2, .int 0, .int 0, .int 0]) : ACell)]) := by
  refine e4 ?_
  refine s4_0 ?_
  refine s4_1 rfl ?_
  refine s4_4 ?_
  refine s4_5 3 rfl (by decide) rfl ?_
  exact s4_6 ⟨rfl, rfl⟩
theorem own_r151  : M3 ⟨0, 0, 0, 0⟩ [.ref 2, .int 2] [(.inr (.int, [.int 1, .int 2, .int 0]) : ACell), (.inr (.int, [.int 1, .int 3, .int 0]) : ACell), (.inl (0, [.ref 3, .ref 4, .ref 5, .ref 6, .ref 7]) : ACell), (.inr (.int, [.int 0, .int 1, .int 4, .int 0, .int 0, .int 0, .int 0, .int 0, .int 0, .int 0, .int 0, .int 0, .int 0, .int 0, .int 0, .int 0]) : ACell), (.inr (.int, [.int 0, .int 2, .int 4, .int 0, .int 0, .int 0, .int 0, .int 0, .int 0, .int 0, .int 0, .int 0, .int 0, .int 0, .int 0, .int 0]) : ACell), (.inr (.int, [.int 0, .int 1, .int 1, .int 0, .int 2]) : ACell), (.inr (.int, [.int 0, .int 0, .int 1, .int 2, .int 0]) : ACell), (.inr (.int, [.int 0, .int 2, .int 0, .int 0, .int 0]) : ACell)] (Is none [(.inr (.int, [.int 1, .int 2, .int 0]) : ACell), (.inr (.int, [.int 1, .int 3, .int 0]) : ACell), (.inl (0, [.ref 3, .ref 4, .ref 5, .ref 6, .ref 7]) : ACell), (.inr (.int, [.int 0, .int 1, .int 4, .int 0, .int 0, .int 0, .int 0, .int 0, .int 0, .int 0, .int 0, .int 0, .int 0, .int 0, .int 0, .int 0]) : ACell), (.inr (.int, [.int 0, .int 1, .int 4, .int 0, .int 0, .int 0, .int 0, .int 0, .int 0, .int 0, .int 0, .int 0, .int 0, .int 0, .int 0, .int 0]) : ACell), (.inr (.int, [.int 0, .int 1, .int 0, .int 0, .int 2]) : ACell), (.inr (.int, [.int 0, .int 0, .int 1, .int 2, .int 0]) : ACell), (.inr (.int, [.int 0, .int 0, .int 0, .int 0, .int 0]) : ACell)]) := by
  refine e3 ?_
  refine s3_0 ?_
  refine s3_1 rfl ?_
  refine s3_4 ?_
  refine s3_5 2 rfl (by decide) rfl ?_
  refine s3_6 rfl ?_
  refine s3_7 ?_
  refine s3_8 rfl ?_
  refine s3_11 ?_
  refine s3_12 2 rfl (by decide) rfl ?_
  refine s3_13 (fun _ => ?_) (fun h => absurd h (by decide))
  refine s3_31 ?_
  refine s3_32 rfl ?_
  refine s3_35 ?_
  refine s3_36 rfl ?_
  refine s3_39 ?_
  refine s3_40 2 rfl (by decide) rfl ?_
  refine s3_41 ?_
  refine s3_42 rfl ?_
  refine s3_45 ?_
  refine s3_46 2 rfl (by decide) rfl ?_
  refine s3_47 1 rfl (by decide) rfl ?_
  refine s3_48 ?_
  refine s3_49 rfl ?_
  refine s3_52 ?_
  refine s3_53 2 rfl (by decide) rfl ?_
  refine s3_54 (fun h => absurd h (by decide)) (fun _ => ?_)
  refine s3_57 ?_
  refine s3_58 rfl ?_
  refine s3_61 ?_
  refine s3_62 ?_
  refine s3_63 rfl ?_
  refine s3_66 ?_
  refine s3_67 2 rfl (by decide) rfl ?_
  refine s3_68 1 rfl (by decide) rfl ?_
  refine s3_69 ?_
  refine s3_89 ?_
  refine s3_90 rfl ?_
  refine s3_93 ?_
  refine s3_94 ?_
  refine s3_95 2 rfl (by decide) rfl ?_
  exact s3_96 ⟨rfl, rfl⟩
theorem own_r152  : M2 ⟨0, 0, 0, 0⟩ [.ref 2, .int 3, .int 1] [(.inr (.int, [.int 1, .int 2, .int 0]) : ACell), (.inr (.int, [.int 1, .int 3, .int 0]) : ACell), (.inl (0, [.ref 3, .ref 4, .ref 5, .ref 6, .ref 7]) : ACell), (.inr (.int, [.int 0, .int 1, .int 4, .int 0, .int 0, .int 0, .int 0, .int 0, .int 0, .int 0, .int 0, .int 0, .int 0, .int 0, .int 0, .int 0]) : ACell), (.inr (.int, [.int 0, .int 1, .int 4, .int 0, .int 0, .int 0, .int 0, .int 0, .int 0, .int 0, .int 0, .int 0, .int 0, .int 0, .int 0, .int 0]) : ACell), (.inr (.int, [.int 0, .int 1, .int 0, .int 0, .int 2]) : ACell), (.inr (.int, [.int 0, .int 0, .int 1, .int 2, .int 0]) : ACell), (.inr (.int, [.int 0, .int 0, .int 0, .int 0, .int 0]) : ACell)] (Is none [(.inr (.int, [.int 1, .int 2, .int 0]) : ACell), (.inr (.int, [.int 1, .int 3, .int 0]) : ACell), (.inl (0, [.ref 3, .ref 4, .ref 5, .ref 6, .ref 7]) : ACell), (.inr (.int, [.int 0, .int 1, .int 4, .int 0, .int 0, .int 0, .int 0, .int 0, .int 0, .int 0, .int 0, .int 0, .int 0, .int 0, .int 0, .int 0]) : ACell), (.inr (.int, [.int 0, .int 3, .int 4, .int 0, .int 0, .int 0, .int 0, .int 0, .int 0, .int 0, .int 0, .int 0, .int 0, .int 0, .int 0, .int 0]) : ACell), (.inr (.int, [.int 0, .int 1, .int 0, .int 1, .int 2]) : ACell), (.inr (.int, [.int 0, .int 0, .int 1, .int 1, .int 0]) : ACell), (.inr (.int, [.int 0, .int 3, .int 0, .int 0, .int 0]) : ACell)]) := by
  refine e2 ?_
  refine s2_0 ?_
  refine s2_1 ?_
  refine s2_2 rfl ?_
  refine s2_5k 16 rfl rfl ?_
  refine s2_6 (fun _ => ?_) (fun h => absurd h (by decide))
  refine s2_45 ?_
  refine s2_46 rfl ?_
  refine s2_49 ?_
  refine s2_50 ?_
  refine s2_51 3 rfl (by decide) rfl ?_
  refine s2_52 ?_
  refine s2_53 rfl ?_
  refine s2_56 ?_
  refine s2_57 ?_
  refine s2_58 rfl ?_
  refine s2_61 ?_
  refine s2_62 1 rfl (by decide) rfl ?_
  refine s2_63 3 rfl (by decide) rfl ?_
  refine s2_64 ?_
  refine s2_65 rfl ?_
  refine s2_68 ?_
  refine s2_69 ?_
  refine s2_70 3 rfl (by decide) rfl ?_
  refine s2_71 ?_
  refine s2_72 rfl ?_
  refine s2_75 ?_
  refine s2_76 1 rfl (by decide) rfl ?_
  refine s2_77 (fun _ => ?_) (fun h => absurd h (by decide))
  refine s2_90 ?_
  refine s2_91 rfl ?_
  refine s2_94 ?_
  refine s2_95 rfl ?_
  refine s2_98 ?_
  refine s2_99 1 rfl (by decide) rfl ?_
  refine s2_100 ?_
  refine s2_101 1 rfl (by decide) rfl ?_
  refine s2_102 ?_
  refine s2_103 rfl ?_
  refine s2_106 ?_
  refine s2_107 ?_
  refine s2_108 1 rfl (by decide) rfl ?_
  exact s2_109 ⟨rfl, rfl⟩
theorem own_r153  : M5 ⟨0, 1, 2, 0⟩ [.ref 2, .int 1] [(.inr (.int, [.int 1, .int 2, .int 0]) : ACell), (.inr (.int, [.int 1, .int 3, .int 0]) : ACell), (.inl (0, [.ref 3, .ref 4, .ref 5, .ref 6, .ref 7]) : ACell), (.inr (.int, [.int 0, .int 1, .int 4, .int 0, .int 0, .int 0, .int 0, .int 0, .int 0, .int 0, .int 0, .int 0, .int 0, .int 0, .int 0, .int 0]) : ACell), (.inr (.int, [.int 0, .int 3, .int 4, .int 0, .int 0, .int 0, .int 0, .int 0, .int 0, .int 0, .int 0, .int 0, .int 0, .int 0, .int 0, .int 0]) : ACell), (.inr (.int, [.int 0, .int 1, .int 0, .int 1, .int 2]) : ACell), (.inr (.int, [.int 0, .int 0, .int 1, .int 1, .int 0]) : ACell), (.inr (.int, [.int 0, .int 3, .int 0, .int 0, .int 0]) : ACell)] (Is (some (.ref 8)) [(.inr (.int, [.int 1, .int 2, .int 0]) : ACell), (.inr (.int, [.int 1, .int 3, .int 0]) : ACell), (.inl (0, [.ref 3, .ref 4, .ref 5, .ref 6, .ref 7]) : ACell), (.inr (.int, [.int 0, .int 1, .int 4, .int 0, .int 0, .int 0, .int 0, .int 0, .int 0, .int 0, .int 0, .int 0, .int 0, .int 0, .int 0, .int 0]) : ACell), (.inr (.int, [.int 0, .int 3, .int 4, .int 0, .int 0, .int 0, .int 0, .int 0, .int 0, .int 0, .int 0, .int 0, .int 0, .int 0, .int 0, .int 0]) : ACell), (.inr (.int, [.int 0, .int 1, .int 0, .int 1, .int 2]) : ACell), (.inr (.int, [.int 0, .int 0, .int 1, .int 1, .int 0]) : ACell), (.inr (.int, [.int 0, .int 3, .int 0, .int 0, .int 0]) : ACell), (.inr (.int, [.int 1, .int 3]) : ACell)]) := by
  refine e5 ?_
  refine s5_0 ?_
  refine s5_1 rfl ?_
  refine s5_2 ?_
  refine s5_3 rfl ?_
  refine s5_6 ?_
  refine s5_7 1 rfl (by decide) rfl ?_
  refine s5_8 rfl ?_
  refine s5_9 ?_
  refine s5_10 (fun h => absurd h (by decide)) (fun _ => ?_)
  refine s5_13 ?_
  refine s5_16 ?_
  refine s5_17 rfl ?_
  refine s5_20 ?_
  refine s5_21 1 rfl (by decide) rfl ?_
  refine s5_22 rfl ?_
  refine s5_23 ?_
  refine s5_9 ?_
  refine s5_10 (fun h => absurd h (by decide)) (fun _ => ?_)
  refine s5_13 ?_
  refine s5_16 ?_
  refine s5_17 rfl ?_
  refine s5_20 ?_
  refine s5_21 3 rfl (by decide) rfl ?_
  refine s5_22 rfl ?_
  refine s5_23 ?_
  refine s5_9 ?_
  refine s5_10 (fun _ => ?_) (fun h => absurd h (by decide))
  refine s5_26 ?_
  refine s5_27 8 2 (by decide) rfl rfl ?_
  refine s5_29 rfl ?_
  refine s5_30 ?_
  refine s5_31 rfl ?_
  refine s5_33 ?_
  refine s5_34 rfl ?_
  refine s5_37 ?_
  refine s5_38 1 rfl (by decide) rfl ?_
  refine s5_39 rfl ?_
  refine s5_41 ?_
  refine s5_43 (fun h => absurd h (by decide)) (fun _ => ?_)
  refine s5_46 ?_
  refine s5_47 ?_
  refine s5_49 ?_
  refine s5_51 0 rfl (by decide) rfl ?_
  refine s5_52 ?_
  refine s5_55 ?_
  refine s5_56 rfl ?_
  refine s5_59 ?_
  refine s5_61 1 rfl (by decide) rfl ?_
  refine s5_62 rfl ?_
  refine s5_64 ?_
  refine s5_41 ?_
  refine s5_43 (fun h => absurd h (by decide)) (fun _ => ?_)
  refine s5_46 ?_
  refine s5_47 ?_
  refine s5_49 ?_
  refine s5_51 1 rfl (by decide) rfl ?_
  refine s5_52 ?_
  refine s5_55 ?_
  refine s5_56 rfl ?_
  refine s5_59 ?_
  refine s5_61 3 rfl (by decide) rfl ?_
  refine s5_62 rfl ?_
  refine s5_64 ?_
  refine s5_41 ?_
  refine s5_43 (fun _ => ?_) (fun h => absurd h (by decide))
  refine s5_67 ?_
  exact s5_68 ⟨rfl, rfl⟩
theorem own_r154  : M5 ⟨0, 1, 1, 0⟩ [.ref 2, .int 2] [(.inr (.int, [.int 1, .int 2, .int 0]) : ACell), (.inr (.int, [.int 1, .int 3, .int 0]) : ACell), (.inl (0, [.ref 3, .ref 4, .ref 5, .ref 6, .ref 7]) : ACell), (.inr (.int, [.int 0, .int 1, .int 4, .int 0, .int 0, .int 0, .int 0, .int 0, .int 0, .int 0, .int 0, .int 0, .int 0, .int 0, .int 0, .int 0]) : ACell), (.inr (.int, [.int 0, .int 3, .int 4, .int 0, .int 0, .int 0, .int 0, .int 0, .int 0, .int 0, .int 0, .int 0, .int 0, .int 0, .int 0, .int 0]) : ACell), (.inr (.int, [.int 0, .int 1, .int 0, .int 1, .int 2]) : ACell), (.inr (.int, [.int 0, .int 0, .int 1, .int 1, .int 0]) : ACell), (.inr (.int, [.int 0, .int 3, .int 0, .int 0, .int 0]) : ACell), (.inr (.int, [.int 1, .int 3]) : ACell)] (Is (some (.ref 9)) [(.inr (.int, [.int 1, .int 2, .int 0]) : ACell), (.inr (.int, [.int 1, .int 3, .int 0]) : ACell), (.inl (0, [.ref 3, .ref 4, .ref 5, .ref 6, .ref 7]) : ACell), (.inr (.int, [.int 0, .int 1, .int 4, .int 0, .int 0, .int 0, .int 0, .int 0, .int 0, .int 0, .int 0, .int 0, .int 0, .int 0, .int 0, .int 0]) : ACell), (.inr (.int, [.int 0, .int 3, .int 4, .int 0, .int 0, .int 0, .int 0, .int 0, .int 0, .int 0, .int 0, .int 0, .int 0, .int 0, .int 0, .int 0]) : ACell), (.inr (.int, [.int 0, .int 1, .int 0, .int 1, .int 2]) : ACell), (.inr (.int, [.int 0, .int 0, .int 1, .int 1, .int 0]) : ACell), (.inr (.int, [.int 0, .int 3, .int 0, .int 0, .int 0]) : ACell), (.inr (.int, [.int 1, .int 3]) : ACell), (.inr (.int, [.int 4]) : ACell)]) := by
  refine e5 ?_
  refine s5_0 ?_
  refine s5_1 rfl ?_
  refine s5_2 ?_
  refine s5_3 rfl ?_
  refine s5_6 ?_
  refine s5_7 2 rfl (by decide) rfl ?_
  refine s5_8 rfl ?_
  refine s5_9 ?_
  refine s5_10 (fun h => absurd h (by decide)) (fun _ => ?_)
  refine s5_13 ?_
  refine s5_16 ?_
  refine s5_17 rfl ?_
  refine s5_20 ?_
  refine s5_21 4 rfl (by decide) rfl ?_
  refine s5_22 rfl ?_
  refine s5_23 ?_
  refine s5_9 ?_
  refine s5_10 (fun _ => ?_) (fun h => absurd h (by decide))
  refine s5_26 ?_
  refine s5_27 9 1 (by decide) rfl rfl ?_
  refine s5_29 rfl ?_
  refine s5_30 ?_
  refine s5_31 rfl ?_
  refine s5_33 ?_
  refine s5_34 rfl ?_
  refine s5_37 ?_
  refine s5_38 2 rfl (by decide) rfl ?_
  refine s5_39 rfl ?_
  refine s5_41 ?_
  refine s5_43 (fun h => absurd h (by decide)) (fun _ => ?_)
  refine s5_46 ?_
  refine s5_47 ?_
  refine s5_49 ?_
  refine s5_51 0 rfl (by decide) rfl ?_
  refine s5_52 ?_
  refine s5_55 ?_
  refine s5_56 rfl ?_
  refine s5_59 ?_
  refine s5_61 4 rfl (by decide) rfl ?_
  refine s5_62 rfl ?_
  refine s5_64 ?_
  refine s5_41 ?_
  refine s5_43 (fun _ => ?_) (fun h => absurd h (by decide))
  refine s5_67 ?_
  exact s5_68 ⟨rfl, rfl⟩
theorem own_r155  : M6 ⟨0, 0, 0, 0⟩ [.ref 8, .ref 1, .int 2] [(.inr (.int, [.int 1, .int 2, .int 0]) : ACell), (.inr (.int, [.int 1, .int 3, .int 0]) : ACell), (.inl (0, [.ref 3, .ref 4, .ref 5, .ref 6, .ref 7]) : ACell), (.inr (.int, [.int 0, .int 1, .int 4, .int 0, .int 0, .int 0, .int 0, .int 0, .int 0, .int 0, .int 0, .int 0, .int 0, .int 0, .int 0, .int 0]) : ACell), (.inr (.int, [.int 0, .int 3, .int 4, .int 0, .int 0, .int 0, .int 0, .int 0, .int 0, .int 0, .int 0, .int 0, .int 0, .int 0, .int 0, .int 0]) : ACell), (.inr (.int, [.int 0, .int 1, .int 0, .int 1, .int 2]) : ACell), (.inr (.int, [.int 0, .int 0, .int 1, .int 1, .int 0]) : ACell), (.inr (.int, [.int 0, .int 3, .int 0, .int 0, .int 0]) : ACell), (.inr (.int, [.int 1, .int 3]) : ACell), (.inr (.int, [.int 4]) : ACell)] (Is (some (.int 1)) [(.inr (.int, [.int 1, .int 2, .int 0]) : ACell), (.inr (.int, [.int 1, .int 3, .int 0]) : ACell), (.inl (0, [.ref 3, .ref 4, .ref 5, .ref 6, .ref 7]) : ACell), (.inr (.int, [.int 0, .int 1, .int 4, .int 0, .int 0, .int 0, .int 0, .int 0, .int 0, .int 0, .int 0, .int 0, .int 0, .int 0, .int 0, .int 0]) : ACell), (.inr (.int, [.int 0, .int 3, .int 4, .int 0, .int 0, .int 0, .int 0, .int 0, .int 0, .int 0, .int 0, .int 0, .int 0, .int 0, .int 0, .int 0]) : ACell), (.inr (.int, [.int 0, .int 1, .int 0, .int 1, .int 2]) : ACell), (.inr (.int, [.int 0, .int 0, .int 1, .int 1, .int 0]) : ACell), (.inr (.int, [.int 0, .int 3, .int 0, .int 0, .int 0]) : ACell), (.inr (.int, [.int 1, .int 3]) : ACell), (.inr (.int, [.int 4]) : ACell)]) := by
  refine e6 ?_
  refine s6_0 ?_
  refine s6_1k 2 rfl rfl ?_
  refine s6_2 ?_
  refine s6_3 (fun h => absurd h (by decide)) (fun _ => ?_)
  refine s6_6 ?_
  refine s6_7 ?_
  refine s6_8 (fun h => absurd h (by decide)) (fun _ => ?_)
  refine s6_11 ?_
  refine s6_12 ?_
  refine s6_13 0 rfl (by decide) rfl ?_
  refine s6_14 ?_
  refine s6_15 ?_
  refine s6_16 0 rfl (by decide) rfl ?_
  refine s6_17 (fun h => absurd h (by decide)) (fun _ => ?_)
  refine s6_20 ?_
  refine s6_21 ?_
  refine s6_22 (fun h => absurd h (by decide)) (fun _ => ?_)
  refine s6_25 ?_
  refine s6_26 ?_
  refine s6_27 1 rfl (by decide) rfl ?_
  refine s6_28 ?_
  refine s6_29 ?_
  refine s6_30 1 rfl (by decide) rfl ?_
  refine s6_31 (fun h => absurd h (by decide)) (fun _ => ?_)
  refine s6_34 ?_
  refine s6_35 ?_
  refine s6_36 (fun _ => ?_) (fun h => absurd h (by decide))
  refine s6_48 ?_
  refine s6_49 ?_
  exact s6_53 ⟨rfl, rfl⟩
set_option maxHeartbeats 4000000 in
theorem own_c1100 (a b c d : Int32) : W0 ⟨5, 31, 189, 112⟩ 126 [.val (.int a), .val (.int b), .val (.int c), .val (.int d), .val (.int 1), .val (.int 1), .val (.ref 0), .val (.int 0), .val (.int 0), .val (.int 0), .unset, .unset, .unset, .unset, .unset, .unset] [] [(.inr (.int, [.int 0, .int 0, .int 0]) : ACell)] (fun r _ => r = some (.int 1)) := by
  refine s0_126 ?_
  refine s0_127 1 3 (by decide) rfl rfl ?_
  refine s0_129 rfl ?_
  refine s0_131 ?_
  refine s0_132 rfl ?_
  refine s0_134 ?_
  refine s0_136 ?_
  refine s0_137 (fun _ => ?_) (fun h => absurd h (by decide))
  refine s0_155 ?_
  refine s0_157 ?_
  refine s0_158 (fun _ => ?_) (fun h => absurd h (by decide))
  refine s0_182 ?_
  refine s0_184 ?_
  refine s0_185 (fun _ => ?_) (fun h => absurd h (by decide))
  refine s0_209 ?_
  refine s0_211 ?_
  refine s0_213 ?_
  refine s0_215 0 rfl (by decide) rfl ?_
  refine s0_216 ?_
  refine s0_219 2 rfl rfl ?_
  refine s0_222 rfl ?_
  refine s0_223 ?_
  refine s0_224 (own_r0) rfl ?_
  refine s0_227 rfl ?_
  refine s0_229 ?_
  refine s0_231 ?_
  refine s0_232 ?_
  refine s0_233 rfl (own_r1) rfl ?_
  refine s0_236 ?_
  refine s0_238 ?_
  refine s0_239 (fun _ => ?_) (fun h => absurd h (by decide))
  refine s0_249 ?_
  refine s0_251 ?_
  refine s0_252 (fun _ => ?_) (fun h => absurd h (by decide))
  refine s0_262 ?_
  refine s0_264 ?_
  refine s0_265 ?_
  refine s0_266 rfl (own_r2) rfl ?_
  refine s0_269 ?_
  refine s0_271 ?_
  refine s0_273 rfl (own_r3) rfl ?_
  refine s0_276 ?_
  refine s0_278 ?_
  refine s0_280 rfl (own_r4) rfl ?_
  refine s0_283 (fun h => absurd h (by decide)) (fun _ => ?_)
  refine s0_286 ?_
  refine s0_287 ?_
  refine s0_291 rfl ?_
  refine s0_293 ?_
  refine s0_295 (fun _ => ?_) (fun h => absurd h (by decide))
  refine s0_305 ?_
  refine s0_307 ?_
  refine s0_309 ?_
  refine s0_310 rfl (own_r5) rfl ?_
  refine s0_313 ?_
  refine s0_315 ?_
  refine s0_316 rfl (own_r6) rfl ?_
  refine s0_319 rfl ?_
  refine s0_321 ?_
  refine s0_323 ?_
  refine s0_324 rfl (own_r7) rfl ?_
  refine s0_327 rfl ?_
  refine s0_329 ?_
  refine s0_331 (fun h => absurd h (by decide)) (fun _ => ?_)
  refine s0_334 ?_
  refine s0_336 ?_
  refine s0_338 ?_
  refine s0_340 (own_r8) rfl ?_
  refine s0_343 (fun h => absurd h (by decide)) (fun _ => ?_)
  refine s0_346 ?_
  refine s0_348k 1 rfl rfl ?_
  refine s0_349 ?_
  refine s0_350 (fun h => absurd h (by decide)) (fun _ => ?_)
  refine s0_353 ?_
  refine s0_355 ?_
  refine s0_356 0 rfl (by decide) rfl ?_
  refine s0_357 ?_
  refine s0_358 (fun h => absurd h (by decide)) (fun _ => ?_)
  refine s0_361 ?_
  refine s0_362 ?_
  exact s0_366 rfl
set_option maxHeartbeats 4000000 in
theorem own_c2100 (a b c d : Int32) : W0 ⟨5, 31, 189, 112⟩ 126 [.val (.int a), .val (.int b), .val (.int c), .val (.int d), .val (.int 2), .val (.int 1), .val (.ref 0), .val (.int 1), .val (.int 0), .val (.int 0), .unset, .unset, .unset, .unset, .unset, .unset] [] [(.inr (.int, [.int 2, .int 0, .int 0]) : ACell)] (fun r _ => r = some (.int 1)) := by
  refine s0_126 ?_
  refine s0_127 1 3 (by decide) rfl rfl ?_
  refine s0_129 rfl ?_
  refine s0_131 ?_
  refine s0_132 rfl ?_
  refine s0_134 ?_
  refine s0_136 ?_
  refine s0_137 (fun _ => ?_) (fun h => absurd h (by decide))
  refine s0_155 ?_
  refine s0_157 ?_
  refine s0_158 (fun h => absurd h (by decide)) (fun _ => ?_)
  refine s0_161 ?_
  refine s0_163 ?_
  refine s0_164 (fun h => absurd h (by decide)) (fun _ => ?_)
  refine s0_167 ?_
  refine s0_169 ?_
  refine s0_170 (fun h => absurd h (by decide)) (fun _ => ?_)
  refine s0_173 ?_
  refine s0_175 ?_
  refine s0_177 ?_
  refine s0_178 0 rfl (by decide) rfl ?_
  refine s0_179 ?_
  refine s0_182 ?_
  refine s0_184 ?_
  refine s0_185 (fun _ => ?_) (fun h => absurd h (by decide))
  refine s0_209 ?_
  refine s0_211 ?_
  refine s0_213 ?_
  refine s0_215 1 rfl (by decide) rfl ?_
  refine s0_216 ?_
  refine s0_219 2 rfl rfl ?_
  refine s0_222 rfl ?_
  refine s0_223 ?_
  refine s0_224 (own_r9) rfl ?_
  refine s0_227 rfl ?_
  refine s0_229 ?_
  refine s0_231 ?_
  refine s0_232 ?_
  refine s0_233 rfl (own_r10) rfl ?_
  refine s0_236 ?_
  refine s0_238 ?_
  refine s0_239 (fun h => absurd h (by decide)) (fun _ => ?_)
  refine s0_242 ?_
  refine s0_244 ?_
  refine s0_245 ?_
  refine s0_246 rfl (own_r11) rfl ?_
  refine s0_249 ?_
  refine s0_251 ?_
  refine s0_252 (fun _ => ?_) (fun h => absurd h (by decide))
  refine s0_262 ?_
  refine s0_264 ?_
  refine s0_265 ?_
  refine s0_266 rfl (own_r12) rfl ?_
  refine s0_269 ?_
  refine s0_271 ?_
  refine s0_273 rfl (own_r13) rfl ?_
  refine s0_276 ?_
  refine s0_278 ?_
  refine s0_280 rfl (own_r14) rfl ?_
  refine s0_283 (fun h => absurd h (by decide)) (fun _ => ?_)
  refine s0_286 ?_
  refine s0_287 ?_
  refine s0_291 rfl ?_
  refine s0_293 ?_
  refine s0_295 (fun _ => ?_) (fun h => absurd h (by decide))
  refine s0_305 ?_
  refine s0_307 ?_
  refine s0_309 ?_
  refine s0_310 rfl (own_r15) rfl ?_
  refine s0_313 ?_
  refine s0_315 ?_
  refine s0_316 rfl (own_r16) rfl ?_
  refine s0_319 rfl ?_
  refine s0_321 ?_
  refine s0_323 ?_
  refine s0_324 rfl (own_r17) rfl ?_
  refine s0_327 rfl ?_
  refine s0_329 ?_
  refine s0_331 (fun h => absurd h (by decide)) (fun _ => ?_)
  refine s0_334 ?_
  refine s0_336 ?_
  refine s0_338 ?_
  refine s0_340 (own_r18) rfl ?_
  refine s0_343 (fun h => absurd h (by decide)) (fun _ => ?_)
  refine s0_346 ?_
  refine s0_348k 1 rfl rfl ?_
  refine s0_349 ?_
  refine s0_350 (fun h => absurd h (by decide)) (fun _ => ?_)
  refine s0_353 ?_
  refine s0_355 ?_
  refine s0_356 0 rfl (by decide) rfl ?_
  refine s0_357 ?_
  refine s0_358 (fun h => absurd h (by decide)) (fun _ => ?_)
  refine s0_361 ?_
  refine s0_362 ?_
  exact s0_366 rfl
set_option maxHeartbeats 4000000 in
theorem own_c2112 (a b c d : Int32) : W0 ⟨5, 31, 189, 112⟩ 126 [.val (.int a), .val (.int b), .val (.int c), .val (.int d), .val (.int 2), .val (.int 1), .val (.ref 0), .val (.int 1), .val (.int 1), .val (.int 2), .unset, .unset, .unset, .unset, .unset, .unset] [] [(.inr (.int, [.int 2, .int 0, .int 0]) : ACell)] (fun r _ => r = some (.int 1)) := by
  refine s0_126 ?_
  refine s0_127 1 3 (by decide) rfl rfl ?_
  refine s0_129 rfl ?_
  refine s0_131 ?_
  refine s0_132 rfl ?_
  refine s0_134 ?_
  refine s0_136 ?_
  refine s0_137 (fun _ => ?_) (fun h => absurd h (by decide))
  refine s0_155 ?_
  refine s0_157 ?_
  refine s0_158 (fun h => absurd h (by decide)) (fun _ => ?_)
  refine s0_161 ?_
  refine s0_163 ?_
  refine s0_164 (fun h => absurd h (by decide)) (fun _ => ?_)
  refine s0_167 ?_
  refine s0_169 ?_
  refine s0_170 (fun _ => ?_) (fun h => absurd h (by decide))
  refine s0_182 ?_
  refine s0_184 ?_
  refine s0_185 (fun _ => ?_) (fun h => absurd h (by decide))
  refine s0_209 ?_
  refine s0_211 ?_
  refine s0_213 ?_
  refine s0_215 0 rfl (by decide) rfl ?_
  refine s0_216 ?_
  refine s0_219 2 rfl rfl ?_
  refine s0_222 rfl ?_
  refine s0_223 ?_
  refine s0_224 (own_r19) rfl ?_
  refine s0_227 rfl ?_
  refine s0_229 ?_
  refine s0_231 ?_
  refine s0_232 ?_
  refine s0_233 rfl (own_r20) rfl ?_
  refine s0_236 ?_
  refine s0_238 ?_
  refine s0_239 (fun h => absurd h (by decide)) (fun _ => ?_)
  refine s0_242 ?_
  refine s0_244 ?_
  refine s0_245 ?_
  refine s0_246 rfl (own_r21) rfl ?_
  refine s0_249 ?_
  refine s0_251 ?_
  refine s0_252 (fun _ => ?_) (fun h => absurd h (by decide))
  refine s0_262 ?_
  refine s0_264 ?_
  refine s0_265 ?_
  refine s0_266 rfl (own_r22) rfl ?_
  refine s0_269 ?_
  refine s0_271 ?_
  refine s0_273 rfl (own_r23) rfl ?_
  refine s0_276 ?_
  refine s0_278 ?_
  refine s0_280 rfl (own_r24) rfl ?_
  refine s0_283 (fun h => absurd h (by decide)) (fun _ => ?_)
  refine s0_286 ?_
  refine s0_287 ?_
  refine s0_291 rfl ?_
  refine s0_293 ?_
  refine s0_295 (fun h => absurd h (by decide)) (fun _ => ?_)
  refine s0_298 ?_
  refine s0_300 ?_
  refine s0_302 rfl (own_r25) rfl ?_
  refine s0_305 ?_
  refine s0_307 ?_
  refine s0_309 ?_
  refine s0_310 rfl (own_r26) rfl ?_
  refine s0_313 ?_
  refine s0_315 ?_
  refine s0_316 rfl (own_r27) rfl ?_
  refine s0_319 rfl ?_
  refine s0_321 ?_
  refine s0_323 ?_
  refine s0_324 rfl (own_r28) rfl ?_
  refine s0_327 rfl ?_
  refine s0_329 ?_
  refine s0_331 (fun h => absurd h (by decide)) (fun _ => ?_)
  refine s0_334 ?_
  refine s0_336 ?_
  refine s0_338 ?_
  refine s0_340 (own_r29) rfl ?_
  refine s0_343 (fun h => absurd h (by decide)) (fun _ => ?_)
  refine s0_346 ?_
  refine s0_348k 1 rfl rfl ?_
  refine s0_349 ?_
  refine s0_350 (fun h => absurd h (by decide)) (fun _ => ?_)
  refine s0_353 ?_
  refine s0_355 ?_
  refine s0_356 0 rfl (by decide) rfl ?_
  refine s0_357 ?_
  refine s0_358 (fun h => absurd h (by decide)) (fun _ => ?_)
  refine s0_361 ?_
  refine s0_362 ?_
  exact s0_366 rfl
set_option maxHeartbeats 4000000 in
theorem own_c2200 (a b c d : Int32) : W0 ⟨5, 31, 189, 112⟩ 126 [.val (.int a), .val (.int b), .val (.int c), .val (.int d), .val (.int 2), .val (.int 2), .val (.ref 0), .val (.int 1), .val (.int 0), .val (.int 0), .unset, .unset, .unset, .unset, .unset, .unset] [] [(.inr (.int, [.int 1, .int 0, .int 0]) : ACell)] (fun r _ => r = some (.int 1)) := by
  refine s0_126 ?_
  refine s0_127 1 3 (by decide) rfl rfl ?_
  refine s0_129 rfl ?_
  refine s0_131 ?_
  refine s0_132 rfl ?_
  refine s0_134 ?_
  refine s0_136 ?_
  refine s0_137 (fun h => absurd h (by decide)) (fun _ => ?_)
  refine s0_140 ?_
  refine s0_142 ?_
  refine s0_143 (fun h => absurd h (by decide)) (fun _ => ?_)
  refine s0_146 ?_
  refine s0_148 ?_
  refine s0_150 ?_
  refine s0_151 0 rfl (by decide) rfl ?_
  refine s0_152 ?_
  refine s0_155 ?_
  refine s0_157 ?_
  refine s0_158 (fun h => absurd h (by decide)) (fun _ => ?_)
  refine s0_161 ?_
  refine s0_163 ?_
  refine s0_164 (fun _ => ?_) (fun h => absurd h (by decide))
  refine s0_182 ?_
  refine s0_184 ?_
  refine s0_185 (fun _ => ?_) (fun h => absurd h (by decide))
  refine s0_209 ?_
  refine s0_211 ?_
  refine s0_213 ?_
  refine s0_215 1 rfl (by decide) rfl ?_
  refine s0_216 ?_
  refine s0_219 2 rfl rfl ?_
  refine s0_222 rfl ?_
  refine s0_223 ?_
  refine s0_224 (own_r30) rfl ?_
  refine s0_227 rfl ?_
  refine s0_229 ?_
  refine s0_231 ?_
  refine s0_232 ?_
  refine s0_233 rfl (own_r31) rfl ?_
  refine s0_236 ?_
  refine s0_238 ?_
  refine s0_239 (fun h => absurd h (by decide)) (fun _ => ?_)
  refine s0_242 ?_
  refine s0_244 ?_
  refine s0_245 ?_
  refine s0_246 rfl (own_r32) rfl ?_
  refine s0_249 ?_
  refine s0_251 ?_
  refine s0_252 (fun _ => ?_) (fun h => absurd h (by decide))
  refine s0_262 ?_
  refine s0_264 ?_
  refine s0_265 ?_
  refine s0_266 rfl (own_r33) rfl ?_
  refine s0_269 ?_
  refine s0_271 ?_
  refine s0_273 rfl (own_r34) rfl ?_
  refine s0_276 ?_
  refine s0_278 ?_
  refine s0_280 rfl (own_r35) rfl ?_
  refine s0_283 (fun h => absurd h (by decide)) (fun _ => ?_)
  refine s0_286 ?_
  refine s0_287 ?_
  refine s0_291 rfl ?_
  refine s0_293 ?_
  refine s0_295 (fun _ => ?_) (fun h => absurd h (by decide))
  refine s0_305 ?_
  refine s0_307 ?_
  refine s0_309 ?_
  refine s0_310 rfl (own_r36) rfl ?_
  refine s0_313 ?_
  refine s0_315 ?_
  refine s0_316 rfl (own_r37) rfl ?_
  refine s0_319 rfl ?_
  refine s0_321 ?_
  refine s0_323 ?_
  refine s0_324 rfl (own_r38) rfl ?_
  refine s0_327 rfl ?_
  refine s0_329 ?_
  refine s0_331 (fun h => absurd h (by decide)) (fun _ => ?_)
  refine s0_334 ?_
  refine s0_336 ?_
  refine s0_338 ?_
  refine s0_340 (own_r39) rfl ?_
  refine s0_343 (fun h => absurd h (by decide)) (fun _ => ?_)
  refine s0_346 ?_
  refine s0_348k 1 rfl rfl ?_
  refine s0_349 ?_
  refine s0_350 (fun h => absurd h (by decide)) (fun _ => ?_)
  refine s0_353 ?_
  refine s0_355 ?_
  refine s0_356 0 rfl (by decide) rfl ?_
  refine s0_357 ?_
  refine s0_358 (fun h => absurd h (by decide)) (fun _ => ?_)
  refine s0_361 ?_
  refine s0_362 ?_
  exact s0_366 rfl
set_option maxHeartbeats 4000000 in
theorem own_c2211 (a b c d : Int32) : W0 ⟨5, 31, 189, 112⟩ 126 [.val (.int a), .val (.int b), .val (.int c), .val (.int d), .val (.int 2), .val (.int 2), .val (.ref 0), .val (.int 1), .val (.int 1), .val (.int 1), .unset, .unset, .unset, .unset, .unset, .unset] [] [(.inr (.int, [.int 1, .int 0, .int 0]) : ACell)] (fun r _ => r = some (.int 1)) := by
  refine s0_126 ?_
  refine s0_127 1 3 (by decide) rfl rfl ?_
  refine s0_129 rfl ?_
  refine s0_131 ?_
  refine s0_132 rfl ?_
  refine s0_134 ?_
  refine s0_136 ?_
  refine s0_137 (fun h => absurd h (by decide)) (fun _ => ?_)
  refine s0_140 ?_
  refine s0_142 ?_
  refine s0_143 (fun _ => ?_) (fun h => absurd h (by decide))
  refine s0_155 ?_
  refine s0_157 ?_
  refine s0_158 (fun h => absurd h (by decide)) (fun _ => ?_)
  refine s0_161 ?_
  refine s0_163 ?_
  refine s0_164 (fun _ => ?_) (fun h => absurd h (by decide))
  refine s0_182 ?_
  refine s0_184 ?_
  refine s0_185 (fun _ => ?_) (fun h => absurd h (by decide))
  refine s0_209 ?_
  refine s0_211 ?_
  refine s0_213 ?_
  refine s0_215 0 rfl (by decide) rfl ?_
  refine s0_216 ?_
  refine s0_219 2 rfl rfl ?_
  refine s0_222 rfl ?_
  refine s0_223 ?_
  refine s0_224 (own_r40) rfl ?_
  refine s0_227 rfl ?_
  refine s0_229 ?_
  refine s0_231 ?_
  refine s0_232 ?_
  refine s0_233 rfl (own_r41) rfl ?_
  refine s0_236 ?_
  refine s0_238 ?_
  refine s0_239 (fun h => absurd h (by decide)) (fun _ => ?_)
  refine s0_242 ?_
  refine s0_244 ?_
  refine s0_245 ?_
  refine s0_246 rfl (own_r42) rfl ?_
  refine s0_249 ?_
  refine s0_251 ?_
  refine s0_252 (fun _ => ?_) (fun h => absurd h (by decide))
  refine s0_262 ?_
  refine s0_264 ?_
  refine s0_265 ?_
  refine s0_266 rfl (own_r43) rfl ?_
  refine s0_269 ?_
  refine s0_271 ?_
  refine s0_273 rfl (own_r44) rfl ?_
  refine s0_276 ?_
  refine s0_278 ?_
  refine s0_280 rfl (own_r45) rfl ?_
  refine s0_283 (fun h => absurd h (by decide)) (fun _ => ?_)
  refine s0_286 ?_
  refine s0_287 ?_
  refine s0_291 rfl ?_
  refine s0_293 ?_
  refine s0_295 (fun h => absurd h (by decide)) (fun _ => ?_)
  refine s0_298 ?_
  refine s0_300 ?_
  refine s0_302 rfl (own_r46) rfl ?_
  refine s0_305 ?_
  refine s0_307 ?_
  refine s0_309 ?_
  refine s0_310 rfl (own_r47) rfl ?_
  refine s0_313 ?_
  refine s0_315 ?_
  refine s0_316 rfl (own_r48) rfl ?_
  refine s0_319 rfl ?_
  refine s0_321 ?_
  refine s0_323 ?_
  refine s0_324 rfl (own_r49) rfl ?_
  refine s0_327 rfl ?_
  refine s0_329 ?_
  refine s0_331 (fun h => absurd h (by decide)) (fun _ => ?_)
  refine s0_334 ?_
  refine s0_336 ?_
  refine s0_338 ?_
  refine s0_340 (own_r50) rfl ?_
  refine s0_343 (fun h => absurd h (by decide)) (fun _ => ?_)
  refine s0_346 ?_
  refine s0_348k 1 rfl rfl ?_
  refine s0_349 ?_
  refine s0_350 (fun h => absurd h (by decide)) (fun _ => ?_)
  refine s0_353 ?_
  refine s0_355 ?_
  refine s0_356 0 rfl (by decide) rfl ?_
  refine s0_357 ?_
  refine s0_358 (fun h => absurd h (by decide)) (fun _ => ?_)
  refine s0_361 ?_
  refine s0_362 ?_
  exact s0_366 rfl
set_option maxHeartbeats 4000000 in
theorem own_c3100 (a b c d : Int32) : W0 ⟨5, 31, 189, 112⟩ 126 [.val (.int a), .val (.int b), .val (.int c), .val (.int d), .val (.int 3), .val (.int 1), .val (.ref 0), .val (.int 2), .val (.int 0), .val (.int 0), .unset, .unset, .unset, .unset, .unset, .unset] [] [(.inr (.int, [.int 2, .int 3, .int 0]) : ACell)] (fun r _ => r = some (.int 1)) := by
  refine s0_126 ?_
  refine s0_127 1 3 (by decide) rfl rfl ?_
  refine s0_129 rfl ?_
  refine s0_131 ?_
  refine s0_132 rfl ?_
  refine s0_134 ?_
  refine s0_136 ?_
  refine s0_137 (fun _ => ?_) (fun h => absurd h (by decide))
  refine s0_155 ?_
  refine s0_157 ?_
  refine s0_158 (fun h => absurd h (by decide)) (fun _ => ?_)
  refine s0_161 ?_
  refine s0_163 ?_
  refine s0_164 (fun h => absurd h (by decide)) (fun _ => ?_)
  refine s0_167 ?_
  refine s0_169 ?_
  refine s0_170 (fun h => absurd h (by decide)) (fun _ => ?_)
  refine s0_173 ?_
  refine s0_175 ?_
  refine s0_177 ?_
  refine s0_178 0 rfl (by decide) rfl ?_
  refine s0_179 ?_
  refine s0_182 ?_
  refine s0_184 ?_
  refine s0_185 (fun h => absurd h (by decide)) (fun _ => ?_)
  refine s0_188 ?_
  refine s0_190 ?_
  refine s0_191 (fun h => absurd h (by decide)) (fun _ => ?_)
  refine s0_194 ?_
  refine s0_196 ?_
  refine s0_197 (fun h => absurd h (by decide)) (fun _ => ?_)
  refine s0_200 ?_
  refine s0_202 ?_
  refine s0_204 ?_
  refine s0_205 1 rfl (by decide) rfl ?_
  refine s0_206 ?_
  refine s0_209 ?_
  refine s0_211 ?_
  refine s0_213 ?_
  refine s0_215 2 rfl (by decide) rfl ?_
  refine s0_216 ?_
  refine s0_219 2 rfl rfl ?_
  refine s0_222 rfl ?_
  refine s0_223 ?_
  refine s0_224 (own_r51) rfl ?_
  refine s0_227 rfl ?_
  refine s0_229 ?_
  refine s0_231 ?_
  refine s0_232 ?_
  refine s0_233 rfl (own_r52) rfl ?_
  refine s0_236 ?_
  refine s0_238 ?_
  refine s0_239 (fun h => absurd h (by decide)) (fun _ => ?_)
  refine s0_242 ?_
  refine s0_244 ?_
  refine s0_245 ?_
  refine s0_246 rfl (own_r53) rfl ?_
  refine s0_249 ?_
  refine s0_251 ?_
  refine s0_252 (fun h => absurd h (by decide)) (fun _ => ?_)
  refine s0_255 ?_
  refine s0_257 ?_
  refine s0_258 ?_
  refine s0_259 rfl (own_r54) rfl ?_
  refine s0_262 ?_
  refine s0_264 ?_
  refine s0_265 ?_
  refine s0_266 rfl (own_r55) rfl ?_
  refine s0_269 ?_
  refine s0_271 ?_
  refine s0_273 rfl (own_r56) rfl ?_
  refine s0_276 ?_
  refine s0_278 ?_
  refine s0_280 rfl (own_r57) rfl ?_
  refine s0_283 (fun h => absurd h (by decide)) (fun _ => ?_)
  refine s0_286 ?_
  refine s0_287 ?_
  refine s0_291 rfl ?_
  refine s0_293 ?_
  refine s0_295 (fun _ => ?_) (fun h => absurd h (by decide))
  refine s0_305 ?_
  refine s0_307 ?_
  refine s0_309 ?_
  refine s0_310 rfl (own_r58) rfl ?_
  refine s0_313 ?_
  refine s0_315 ?_
  refine s0_316 rfl (own_r59) rfl ?_
  refine s0_319 rfl ?_
  refine s0_321 ?_
  refine s0_323 ?_
  refine s0_324 rfl (own_r60) rfl ?_
  refine s0_327 rfl ?_
  refine s0_329 ?_
  refine s0_331 (fun h => absurd h (by decide)) (fun _ => ?_)
  refine s0_334 ?_
  refine s0_336 ?_
  refine s0_338 ?_
  refine s0_340 (own_r61) rfl ?_
  refine s0_343 (fun h => absurd h (by decide)) (fun _ => ?_)
  refine s0_346 ?_
  refine s0_348k 1 rfl rfl ?_
  refine s0_349 ?_
  refine s0_350 (fun h => absurd h (by decide)) (fun _ => ?_)
  refine s0_353 ?_
  refine s0_355 ?_
  refine s0_356 0 rfl (by decide) rfl ?_
  refine s0_357 ?_
  refine s0_358 (fun h => absurd h (by decide)) (fun _ => ?_)
  refine s0_361 ?_
  refine s0_362 ?_
  exact s0_366 rfl
set_option maxHeartbeats 4000000 in
theorem own_c3112 (a b c d : Int32) : W0 ⟨5, 31, 189, 112⟩ 126 [.val (.int a), .val (.int b), .val (.int c), .val (.int d), .val (.int 3), .val (.int 1), .val (.ref 0), .val (.int 2), .val (.int 1), .val (.int 2), .unset, .unset, .unset, .unset, .unset, .unset] [] [(.inr (.int, [.int 2, .int 3, .int 0]) : ACell)] (fun r _ => r = some (.int 1)) := by
  refine s0_126 ?_
  refine s0_127 1 3 (by decide) rfl rfl ?_
  refine s0_129 rfl ?_
  refine s0_131 ?_
  refine s0_132 rfl ?_
  refine s0_134 ?_
  refine s0_136 ?_
  refine s0_137 (fun _ => ?_) (fun h => absurd h (by decide))
  refine s0_155 ?_
  refine s0_157 ?_
  refine s0_158 (fun h => absurd h (by decide)) (fun _ => ?_)
  refine s0_161 ?_
  refine s0_163 ?_
  refine s0_164 (fun h => absurd h (by decide)) (fun _ => ?_)
  refine s0_167 ?_
  refine s0_169 ?_
  refine s0_170 (fun _ => ?_) (fun h => absurd h (by decide))
  refine s0_182 ?_
  refine s0_184 ?_
  refine s0_185 (fun h => absurd h (by decide)) (fun _ => ?_)
  refine s0_188 ?_
  refine s0_190 ?_
  refine s0_191 (fun h => absurd h (by decide)) (fun _ => ?_)
  refine s0_194 ?_
  refine s0_196 ?_
  refine s0_197 (fun h => absurd h (by decide)) (fun _ => ?_)
  refine s0_200 ?_
  refine s0_202 ?_
  refine s0_204 ?_
  refine s0_205 0 rfl (by decide) rfl ?_
  refine s0_206 ?_
  refine s0_209 ?_
  refine s0_211 ?_
  refine s0_213 ?_
  refine s0_215 1 rfl (by decide) rfl ?_
  refine s0_216 ?_
  refine s0_219 2 rfl rfl ?_
  refine s0_222 rfl ?_
  refine s0_223 ?_
  refine s0_224 (own_r62) rfl ?_
  refine s0_227 rfl ?_
  refine s0_229 ?_
  refine s0_231 ?_
  refine s0_232 ?_
  refine s0_233 rfl (own_r63) rfl ?_
  refine s0_236 ?_
  refine s0_238 ?_
  refine s0_239 (fun h => absurd h (by decide)) (fun _ => ?_)
  refine s0_242 ?_
  refine s0_244 ?_
  refine s0_245 ?_
  refine s0_246 rfl (own_r64) rfl ?_
  refine s0_249 ?_
  refine s0_251 ?_
  refine s0_252 (fun h => absurd h (by decide)) (fun _ => ?_)
  refine s0_255 ?_
  refine s0_257 ?_
  refine s0_258 ?_
  refine s0_259 rfl (own_r65) rfl ?_
  refine s0_262 ?_
  refine s0_264 ?_
  refine s0_265 ?_
  refine s0_266 rfl (own_r66) rfl ?_
  refine s0_269 ?_
  refine s0_271 ?_
  refine s0_273 rfl (own_r67) rfl ?_
  refine s0_276 ?_
  refine s0_278 ?_
  refine s0_280 rfl (own_r68) rfl ?_
  refine s0_283 (fun h => absurd h (by decide)) (fun _ => ?_)
  refine s0_286 ?_
  refine s0_287 ?_
  refine s0_291 rfl ?_
  refine s0_293 ?_
  refine s0_295 (fun h => absurd h (by decide)) (fun _ => ?_)
  refine s0_298 ?_
  refine s0_300 ?_
  refine s0_302 rfl (own_r69) rfl ?_
  refine s0_305 ?_
  refine s0_307 ?_
  refine s0_309 ?_
  refine s0_310 rfl (own_r70) rfl ?_
  refine s0_313 ?_
  refine s0_315 ?_
  refine s0_316 rfl (own_r71) rfl ?_
  refine s0_319 rfl ?_
  refine s0_321 ?_
  refine s0_323 ?_
  refine s0_324 rfl (own_r72) rfl ?_
  refine s0_327 rfl ?_
  refine s0_329 ?_
  refine s0_331 (fun h => absurd h (by decide)) (fun _ => ?_)
  refine s0_334 ?_
  refine s0_336 ?_
  refine s0_338 ?_
  refine s0_340 (own_r73) rfl ?_
  refine s0_343 (fun h => absurd h (by decide)) (fun _ => ?_)
  refine s0_346 ?_
  refine s0_348k 1 rfl rfl ?_
  refine s0_349 ?_
  refine s0_350 (fun h => absurd h (by decide)) (fun _ => ?_)
  refine s0_353 ?_
  refine s0_355 ?_
  refine s0_356 0 rfl (by decide) rfl ?_
  refine s0_357 ?_
  refine s0_358 (fun h => absurd h (by decide)) (fun _ => ?_)
  refine s0_361 ?_
  refine s0_362 ?_
  exact s0_366 rfl
set_option maxHeartbeats 4000000 in
theorem own_c3113 (a b c d : Int32) : W0 ⟨5, 31, 189, 112⟩ 126 [.val (.int a), .val (.int b), .val (.int c), .val (.int d), .val (.int 3), .val (.int 1), .val (.ref 0), .val (.int 2), .val (.int 1), .val (.int 3), .unset, .unset, .unset, .unset, .unset, .unset] [] [(.inr (.int, [.int 2, .int 3, .int 0]) : ACell)] (fun r _ => r = some (.int 1)) := by
  refine s0_126 ?_
  refine s0_127 1 3 (by decide) rfl rfl ?_
  refine s0_129 rfl ?_
  refine s0_131 ?_
  refine s0_132 rfl ?_
  refine s0_134 ?_
  refine s0_136 ?_
  refine s0_137 (fun _ => ?_) (fun h => absurd h (by decide))
  refine s0_155 ?_
  refine s0_157 ?_
  refine s0_158 (fun h => absurd h (by decide)) (fun _ => ?_)
  refine s0_161 ?_
  refine s0_163 ?_
  refine s0_164 (fun h => absurd h (by decide)) (fun _ => ?_)
  refine s0_167 ?_
  refine s0_169 ?_
  refine s0_170 (fun h => absurd h (by decide)) (fun _ => ?_)
  refine s0_173 ?_
  refine s0_175 ?_
  refine s0_177 ?_
  refine s0_178 0 rfl (by decide) rfl ?_
  refine s0_179 ?_
  refine s0_182 ?_
  refine s0_184 ?_
  refine s0_185 (fun h => absurd h (by decide)) (fun _ => ?_)
  refine s0_188 ?_
  refine s0_190 ?_
  refine s0_191 (fun h => absurd h (by decide)) (fun _ => ?_)
  refine s0_194 ?_
  refine s0_196 ?_
  refine s0_197 (fun _ => ?_) (fun h => absurd h (by decide))
  refine s0_209 ?_
  refine s0_211 ?_
  refine s0_213 ?_
  refine s0_215 1 rfl (by decide) rfl ?_
  refine s0_216 ?_
  refine s0_219 2 rfl rfl ?_
  refine s0_222 rfl ?_
  refine s0_223 ?_
  refine s0_224 (own_r74) rfl ?_
  refine s0_227 rfl ?_
  refine s0_229 ?_
  refine s0_231 ?_
  refine s0_232 ?_
  refine s0_233 rfl (own_r75) rfl ?_
  refine s0_236 ?_
  refine s0_238 ?_
  refine s0_239 (fun h => absurd h (by decide)) (fun _ => ?_)
  refine s0_242 ?_
  refine s0_244 ?_
  refine s0_245 ?_
  refine s0_246 rfl (own_r76) rfl ?_
  refine s0_249 ?_
  refine s0_251 ?_
  refine s0_252 (fun h => absurd h (by decide)) (fun _ => ?_)
  refine s0_255 ?_
  refine s0_257 ?_
  refine s0_258 ?_
  refine s0_259 rfl (own_r77) rfl ?_
  refine s0_262 ?_
  refine s0_264 ?_
  refine s0_265 ?_
  refine s0_266 rfl (own_r78) rfl ?_
  refine s0_269 ?_
  refine s0_271 ?_
  refine s0_273 rfl (own_r79) rfl ?_
  refine s0_276 ?_
  refine s0_278 ?_
  refine s0_280 rfl (own_r80) rfl ?_
  refine s0_283 (fun h => absurd h (by decide)) (fun _ => ?_)
  refine s0_286 ?_
  refine s0_287 ?_
  refine s0_291 rfl ?_
  refine s0_293 ?_
  refine s0_295 (fun h => absurd h (by decide)) (fun _ => ?_)
  refine s0_298 ?_
  refine s0_300 ?_
  refine s0_302 rfl (own_r81) rfl ?_
  refine s0_305 ?_
  refine s0_307 ?_
  refine s0_309 ?_
  refine s0_310 rfl (own_r82) rfl ?_
  refine s0_313 ?_
  refine s0_315 ?_
  refine s0_316 rfl (own_r83) rfl ?_
  refine s0_319 rfl ?_
  refine s0_321 ?_
  refine s0_323 ?_
  refine s0_324 rfl (own_r84) rfl ?_
  refine s0_327 rfl ?_
  refine s0_329 ?_
  refine s0_331 (fun h => absurd h (by decide)) (fun _ => ?_)
  refine s0_334 ?_
  refine s0_336 ?_
  refine s0_338 ?_
  refine s0_340 (own_r85) rfl ?_
  refine s0_343 (fun h => absurd h (by decide)) (fun _ => ?_)
  refine s0_346 ?_
  refine s0_348k 1 rfl rfl ?_
  refine s0_349 ?_
  refine s0_350 (fun h => absurd h (by decide)) (fun _ => ?_)
  refine s0_353 ?_
  refine s0_355 ?_
  refine s0_356 0 rfl (by decide) rfl ?_
  refine s0_357 ?_
  refine s0_358 (fun h => absurd h (by decide)) (fun _ => ?_)
  refine s0_361 ?_
  refine s0_362 ?_
  exact s0_366 rfl
set_option maxHeartbeats 4000000 in
theorem own_c3200 (a b c d : Int32) : W0 ⟨5, 31, 189, 112⟩ 126 [.val (.int a), .val (.int b), .val (.int c), .val (.int d), .val (.int 3), .val (.int 2), .val (.ref 0), .val (.int 2), .val (.int 0), .val (.int 0), .unset, .unset, .unset, .unset, .unset, .unset] [] [(.inr (.int, [.int 1, .int 3, .int 0]) : ACell)] (fun r _ => r = some (.int 1)) := by
  refine s0_126 ?_
  refine s0_127 1 3 (by decide) rfl rfl ?_
  refine s0_129 rfl ?_
  refine s0_131 ?_
  refine s0_132 rfl ?_
  refine s0_134 ?_
  refine s0_136 ?_
  refine s0_137 (fun h => absurd h (by decide)) (fun _ => ?_)
  refine s0_140 ?_
  refine s0_142 ?_
  refine s0_143 (fun h => absurd h (by decide)) (fun _ => ?_)
  refine s0_146 ?_
  refine s0_148 ?_
  refine s0_150 ?_
  refine s0_151 0 rfl (by decide) rfl ?_
  refine s0_152 ?_
  refine s0_155 ?_
  refine s0_157 ?_
  refine s0_158 (fun h => absurd h (by decide)) (fun _ => ?_)
  refine s0_161 ?_
  refine s0_163 ?_
  refine s0_164 (fun _ => ?_) (fun h => absurd h (by decide))
  refine s0_182 ?_
  refine s0_184 ?_
  refine s0_185 (fun h => absurd h (by decide)) (fun _ => ?_)
  refine s0_188 ?_
  refine s0_190 ?_
  refine s0_191 (fun h => absurd h (by decide)) (fun _ => ?_)
  refine s0_194 ?_
  refine s0_196 ?_
  refine s0_197 (fun h => absurd h (by decide)) (fun _ => ?_)
  refine s0_200 ?_
  refine s0_202 ?_
  refine s0_204 ?_
  refine s0_205 1 rfl (by decide) rfl ?_
  refine s0_206 ?_
  refine s0_209 ?_
  refine s0_211 ?_
  refine s0_213 ?_
  refine s0_215 2 rfl (by decide) rfl ?_
  refine s0_216 ?_
  refine s0_219 2 rfl rfl ?_
  refine s0_222 rfl ?_
  refine s0_223 ?_
  refine s0_224 (own_r86) rfl ?_
  refine s0_227 rfl ?_
  refine s0_229 ?_
  refine s0_231 ?_
  refine s0_232 ?_
  refine s0_233 rfl (own_r87) rfl ?_
  refine s0_236 ?_
  refine s0_238 ?_
  refine s0_239 (fun h => absurd h (by decide)) (fun _ => ?_)
  refine s0_242 ?_
  refine s0_244 ?_
  refine s0_245 ?_
  refine s0_246 rfl (own_r88) rfl ?_
  refine s0_249 ?_
  refine s0_251 ?_
  refine s0_252 (fun h => absurd h (by decide)) (fun _ => ?_)
  refine s0_255 ?_
  refine s0_257 ?_
  refine s0_258 ?_
  refine s0_259 rfl (own_r89) rfl ?_
  refine s0_262 ?_
  refine s0_264 ?_
  refine s0_265 ?_
  refine s0_266 rfl (own_r90) rfl ?_
  refine s0_269 ?_
  refine s0_271 ?_
  refine s0_273 rfl (own_r91) rfl ?_
  refine s0_276 ?_
  refine s0_278 ?_
  refine s0_280 rfl (own_r92) rfl ?_
  refine s0_283 (fun h => absurd h (by decide)) (fun _ => ?_)
  refine s0_286 ?_
  refine s0_287 ?_
  refine s0_291 rfl ?_
  refine s0_293 ?_
  refine s0_295 (fun _ => ?_) (fun h => absurd h (by decide))
  refine s0_305 ?_
  refine s0_307 ?_
  refine s0_309 ?_
  refine s0_310 rfl (own_r93) rfl ?_
  refine s0_313 ?_
  refine s0_315 ?_
  refine s0_316 rfl (own_r94) rfl ?_
  refine s0_319 rfl ?_
  refine s0_321 ?_
  refine s0_323 ?_
  refine s0_324 rfl (own_r95) rfl ?_
  refine s0_327 rfl ?_
  refine s0_329 ?_
  refine s0_331 (fun h => absurd h (by decide)) (fun _ => ?_)
  refine s0_334 ?_
  refine s0_336 ?_
  refine s0_338 ?_
  refine s0_340 (own_r96) rfl ?_
  refine s0_343 (fun h => absurd h (by decide)) (fun _ => ?_)
  refine s0_346 ?_
  refine s0_348k 1 rfl rfl ?_
  refine s0_349 ?_
  refine s0_350 (fun h => absurd h (by decide)) (fun _ => ?_)
  refine s0_353 ?_
  refine s0_355 ?_
  refine s0_356 0 rfl (by decide) rfl ?_
  refine s0_357 ?_
  refine s0_358 (fun h => absurd h (by decide)) (fun _ => ?_)
  refine s0_361 ?_
  refine s0_362 ?_
  exact s0_366 rfl
set_option maxHeartbeats 4000000 in
theorem own_c3211 (a b c d : Int32) : W0 ⟨5, 31, 189, 112⟩ 126 [.val (.int a), .val (.int b), .val (.int c), .val (.int d), .val (.int 3), .val (.int 2), .val (.ref 0), .val (.int 2), .val (.int 1), .val (.int 1), .unset, .unset, .unset, .unset, .unset, .unset] [] [(.inr (.int, [.int 1, .int 3, .int 0]) : ACell)] (fun r _ => r = some (.int 1)) := by
  refine s0_126 ?_
  refine s0_127 1 3 (by decide) rfl rfl ?_
  refine s0_129 rfl ?_
  refine s0_131 ?_
  refine s0_132 rfl ?_
  refine s0_134 ?_
  refine s0_136 ?_
  refine s0_137 (fun h => absurd h (by decide)) (fun _ => ?_)
  refine s0_140 ?_
  refine s0_142 ?_
  refine s0_143 (fun _ => ?_) (fun h => absurd h (by decide))
  refine s0_155 ?_
  refine s0_157 ?_
  refine s0_158 (fun h => absurd h (by decide)) (fun _ => ?_)
  refine s0_161 ?_
  refine s0_163 ?_
  refine s0_164 (fun _ => ?_) (fun h => absurd h (by decide))
  refine s0_182 ?_
  refine s0_184 ?_
  refine s0_185 (fun h => absurd h (by decide)) (fun _ => ?_)
  refine s0_188 ?_
  refine s0_190 ?_
  refine s0_191 (fun h => absurd h (by decide)) (fun _ => ?_)
  refine s0_194 ?_
  refine s0_196 ?_
  refine s0_197 (fun h => absurd h (by decide)) (fun _ => ?_)
  refine s0_200 ?_
  refine s0_202 ?_
  refine s0_204 ?_
  refine s0_205 0 rfl (by decide) rfl ?_
  refine s0_206 ?_
  refine s0_209 ?_
  refine s0_211 ?_
  refine s0_213 ?_
  refine s0_215 1 rfl (by decide) rfl ?_
  refine s0_216 ?_
  refine s0_219 2 rfl rfl ?_
  refine s0_222 rfl ?_
  refine s0_223 ?_
  refine s0_224 (own_r97) rfl ?_
  refine s0_227 rfl ?_
  refine s0_229 ?_
  refine s0_231 ?_
  refine s0_232 ?_
  refine s0_233 rfl (own_r98) rfl ?_
  refine s0_236 ?_
  refine s0_238 ?_
  refine s0_239 (fun h => absurd h (by decide)) (fun _ => ?_)
  refine s0_242 ?_
  refine s0_244 ?_
  refine s0_245 ?_
  refine s0_246 rfl (own_r99) rfl ?_
  refine s0_249 ?_
  refine s0_251 ?_
  refine s0_252 (fun h => absurd h (by decide)) (fun _ => ?_)
  refine s0_255 ?_
  refine s0_257 ?_
  refine s0_258 ?_
  refine s0_259 rfl (own_r100) rfl ?_
  refine s0_262 ?_
  refine s0_264 ?_
  refine s0_265 ?_
  refine s0_266 rfl (own_r101) rfl ?_
  refine s0_269 ?_
  refine s0_271 ?_
  refine s0_273 rfl (own_r102) rfl ?_
  refine s0_276 ?_
  refine s0_278 ?_
  refine s0_280 rfl (own_r103) rfl ?_
  refine s0_283 (fun h => absurd h (by decide)) (fun _ => ?_)
  refine s0_286 ?_
  refine s0_287 ?_
  refine s0_291 rfl ?_
  refine s0_293 ?_
  refine s0_295 (fun h => absurd h (by decide)) (fun _ => ?_)
  refine s0_298 ?_
  refine s0_300 ?_
  refine s0_302 rfl (own_r104) rfl ?_
  refine s0_305 ?_
  refine s0_307 ?_
  refine s0_309 ?_
  refine s0_310 rfl (own_r105) rfl ?_
  refine s0_313 ?_
  refine s0_315 ?_
  refine s0_316 rfl (own_r106) rfl ?_
  refine s0_319 rfl ?_
  refine s0_321 ?_
  refine s0_323 ?_
  refine s0_324 rfl (own_r107) rfl ?_
  refine s0_327 rfl ?_
  refine s0_329 ?_
  refine s0_331 (fun h => absurd h (by decide)) (fun _ => ?_)
  refine s0_334 ?_
  refine s0_336 ?_
  refine s0_338 ?_
  refine s0_340 (own_r108) rfl ?_
  refine s0_343 (fun h => absurd h (by decide)) (fun _ => ?_)
  refine s0_346 ?_
  refine s0_348k 1 rfl rfl ?_
  refine s0_349 ?_
  refine s0_350 (fun h => absurd h (by decide)) (fun _ => ?_)
  refine s0_353 ?_
  refine s0_355 ?_
  refine s0_356 0 rfl (by decide) rfl ?_
  refine s0_357 ?_
  refine s0_358 (fun h => absurd h (by decide)) (fun _ => ?_)
  refine s0_361 ?_
  refine s0_362 ?_
  exact s0_366 rfl
set_option maxHeartbeats 4000000 in
theorem own_c3213 (a b c d : Int32) : W0 ⟨5, 31, 189, 112⟩ 126 [.val (.int a), .val (.int b), .val (.int c), .val (.int d), .val (.int 3), .val (.int 2), .val (.ref 0), .val (.int 2), .val (.int 1), .val (.int 3), .unset, .unset, .unset, .unset, .unset, .unset] [] [(.inr (.int, [.int 1, .int 3, .int 0]) : ACell)] (fun r _ => r = some (.int 1)) := by
  refine s0_126 ?_
  refine s0_127 1 3 (by decide) rfl rfl ?_
  refine s0_129 rfl ?_
  refine s0_131 ?_
  refine s0_132 rfl ?_
  refine s0_134 ?_
  refine s0_136 ?_
  refine s0_137 (fun h => absurd h (by decide)) (fun _ => ?_)
  refine s0_140 ?_
  refine s0_142 ?_
  refine s0_143 (fun h => absurd h (by decide)) (fun _ => ?_)
  refine s0_146 ?_
  refine s0_148 ?_
  refine s0_150 ?_
  refine s0_151 0 rfl (by decide) rfl ?_
  refine s0_152 ?_
  refine s0_155 ?_
  refine s0_157 ?_
  refine s0_158 (fun h => absurd h (by decide)) (fun _ => ?_)
  refine s0_161 ?_
  refine s0_163 ?_
  refine s0_164 (fun _ => ?_) (fun h => absurd h (by decide))
  refine s0_182 ?_
  refine s0_184 ?_
  refine s0_185 (fun h => absurd h (by decide)) (fun _ => ?_)
  refine s0_188 ?_
  refine s0_190 ?_
  refine s0_191 (fun h => absurd h (by decide)) (fun _ => ?_)
  refine s0_194 ?_
  refine s0_196 ?_
  refine s0_197 (fun _ => ?_) (fun h => absurd h (by decide))
  refine s0_209 ?_
  refine s0_211 ?_
  refine s0_213 ?_
  refine s0_215 1 rfl (by decide) rfl ?_
  refine s0_216 ?_
  refine s0_219 2 rfl rfl ?_
  refine s0_222 rfl ?_
  refine s0_223 ?_
  refine s0_224 (own_r109) rfl ?_
  refine s0_227 rfl ?_
  refine s0_229 ?_
  refine s0_231 ?_
  refine s0_232 ?_
  refine s0_233 rfl (own_r110) rfl ?_
  refine s0_236 ?_
  refine s0_238 ?_
  refine s0_239 (fun h => absurd h (by decide)) (fun _ => ?_)
  refine s0_242 ?_
  refine s0_244 ?_
  refine s0_245 ?_
  refine s0_246 rfl (own_r111) rfl ?_
  refine s0_249 ?_
  refine s0_251 ?_
  refine s0_252 (fun h => absurd h (by decide)) (fun _ => ?_)
  refine s0_255 ?_
  refine s0_257 ?_
  refine s0_258 ?_
  refine s0_259 rfl (own_r112) rfl ?_
  refine s0_262 ?_
  refine s0_264 ?_
  refine s0_265 ?_
  refine s0_266 rfl (own_r113) rfl ?_
  refine s0_269 ?_
  refine s0_271 ?_
  refine s0_273 rfl (own_r114) rfl ?_
  refine s0_276 ?_
  refine s0_278 ?_
  refine s0_280 rfl (own_r115) rfl ?_
  refine s0_283 (fun h => absurd h (by decide)) (fun _ => ?_)
  refine s0_286 ?_
  refine s0_287 ?_
  refine s0_291 rfl ?_
  refine s0_293 ?_
  refine s0_295 (fun h => absurd h (by decide)) (fun _ => ?_)
  refine s0_298 ?_
  refine s0_300 ?_
  refine s0_302 rfl (own_r116) rfl ?_
  refine s0_305 ?_
  refine s0_307 ?_
  refine s0_309 ?_
  refine s0_310 rfl (own_r117) rfl ?_
  refine s0_313 ?_
  refine s0_315 ?_
  refine s0_316 rfl (own_r118) rfl ?_
  refine s0_319 rfl ?_
  refine s0_321 ?_
  refine s0_323 ?_
  refine s0_324 rfl (own_r119) rfl ?_
  refine s0_327 rfl ?_
  refine s0_329 ?_
  refine s0_331 (fun h => absurd h (by decide)) (fun _ => ?_)
  refine s0_334 ?_
  refine s0_336 ?_
  refine s0_338 ?_
  refine s0_340 (own_r120) rfl ?_
  refine s0_343 (fun h => absurd h (by decide)) (fun _ => ?_)
  refine s0_346 ?_
  refine s0_348k 1 rfl rfl ?_
  refine s0_349 ?_
  refine s0_350 (fun h => absurd h (by decide)) (fun _ => ?_)
  refine s0_353 ?_
  refine s0_355 ?_
  refine s0_356 0 rfl (by decide) rfl ?_
  refine s0_357 ?_
  refine s0_358 (fun h => absurd h (by decide)) (fun _ => ?_)
  refine s0_361 ?_
  refine s0_362 ?_
  exact s0_366 rfl
set_option maxHeartbeats 4000000 in
theorem own_c3300 (a b c d : Int32) : W0 ⟨5, 31, 189, 112⟩ 126 [.val (.int a), .val (.int b), .val (.int c), .val (.int d), .val (.int 3), .val (.int 3), .val (.ref 0), .val (.int 2), .val (.int 0), .val (.int 0), .unset, .unset, .unset, .unset, .unset, .unset] [] [(.inr (.int, [.int 1, .int 2, .int 0]) : ACell)] (fun r _ => r = some (.int 1)) := by
  refine s0_126 ?_
  refine s0_127 1 3 (by decide) rfl rfl ?_
  refine s0_129 rfl ?_
  refine s0_131 ?_
  refine s0_132 rfl ?_
  refine s0_134 ?_
  refine s0_136 ?_
  refine s0_137 (fun h => absurd h (by decide)) (fun _ => ?_)
  refine s0_140 ?_
  refine s0_142 ?_
  refine s0_143 (fun h => absurd h (by decide)) (fun _ => ?_)
  refine s0_146 ?_
  refine s0_148 ?_
  refine s0_150 ?_
  refine s0_151 0 rfl (by decide) rfl ?_
  refine s0_152 ?_
  refine s0_155 ?_
  refine s0_157 ?_
  refine s0_158 (fun h => absurd h (by decide)) (fun _ => ?_)
  refine s0_161 ?_
  refine s0_163 ?_
  refine s0_164 (fun h => absurd h (by decide)) (fun _ => ?_)
  refine s0_167 ?_
  refine s0_169 ?_
  refine s0_170 (fun h => absurd h (by decide)) (fun _ => ?_)
  refine s0_173 ?_
  refine s0_175 ?_
  refine s0_177 ?_
  refine s0_178 1 rfl (by decide) rfl ?_
  refine s0_179 ?_
  refine s0_182 ?_
  refine s0_184 ?_
  refine s0_185 (fun h => absurd h (by decide)) (fun _ => ?_)
  refine s0_188 ?_
  refine s0_190 ?_
  refine s0_191 (fun _ => ?_) (fun h => absurd h (by decide))
  refine s0_209 ?_
  refine s0_211 ?_
  refine s0_213 ?_
  refine s0_215 2 rfl (by decide) rfl ?_
  refine s0_216 ?_
  refine s0_219 2 rfl rfl ?_
  refine s0_222 rfl ?_
  refine s0_223 ?_
  refine s0_224 (own_r121) rfl ?_
  refine s0_227 rfl ?_
  refine s0_229 ?_
  refine s0_231 ?_
  refine s0_232 ?_
  refine s0_233 rfl (own_r122) rfl ?_
  refine s0_236 ?_
  refine s0_238 ?_
  refine s0_239 (fun h => absurd h (by decide)) (fun _ => ?_)
  refine s0_242 ?_
  refine s0_244 ?_
  refine s0_245 ?_
  refine s0_246 rfl (own_r123) rfl ?_
  refine s0_249 ?_
  refine s0_251 ?_
  refine s0_252 (fun h => absurd h (by decide)) (fun _ => ?_)
  refine s0_255 ?_
  refine s0_257 ?_
  refine s0_258 ?_
  refine s0_259 rfl (own_r124) rfl ?_
  refine s0_262 ?_
  refine s0_264 ?_
  refine s0_265 ?_
  refine s0_266 rfl (own_r125) rfl ?_
  refine s0_269 ?_
  refine s0_271 ?_
  refine s0_273 rfl (own_r126) rfl ?_
  refine s0_276 ?_
  refine s0_278 ?_
  refine s0_280 rfl (own_r127) rfl ?_
  refine s0_283 (fun h => absurd h (by decide)) (fun _ => ?_)
  refine s0_286 ?_
  refine s0_287 ?_
  refine s0_291 rfl ?_
  refine s0_293 ?_
  refine s0_295 (fun _ => ?_) (fun h => absurd h (by decide))
  refine s0_305 ?_
  refine s0_307 ?_
  refine s0_309 ?_
  refine s0_310 rfl (own_r128) rfl ?_
  refine s0_313 ?_
  refine s0_315 ?_
  refine s0_316 rfl (own_r129) rfl ?_
  refine s0_319 rfl ?_
  refine s0_321 ?_
  refine s0_323 ?_
  refine s0_324 rfl (own_r130) rfl ?_
  refine s0_327 rfl ?_
  refine s0_329 ?_
  refine s0_331 (fun h => absurd h (by decide)) (fun _ => ?_)
  refine s0_334 ?_
  refine s0_336 ?_
  refine s0_338 ?_
  refine s0_340 (own_r131) rfl ?_
  refine s0_343 (fun h => absurd h (by decide)) (fun _ => ?_)
  refine s0_346 ?_
  refine s0_348k 1 rfl rfl ?_
  refine s0_349 ?_
  refine s0_350 (fun h => absurd h (by decide)) (fun _ => ?_)
  refine s0_353 ?_
  refine s0_355 ?_
  refine s0_356 0 rfl (by decide) rfl ?_
  refine s0_357 ?_
  refine s0_358 (fun h => absurd h (by decide)) (fun _ => ?_)
  refine s0_361 ?_
  refine s0_362 ?_
  exact s0_366 rfl
set_option maxHeartbeats 4000000 in
theorem own_c3311 (a b c d : Int32) : W0 ⟨5, 31, 189, 112⟩ 126 [.val (.int a), .val (.int b), .val (.int c), .val (.int d), .val (.int 3), .val (.int 3), .val (.ref 0), .val (.int 2), .val (.int 1), .val (.int 1), .unset, .unset, .unset, .unset, .unset, .unset] [] [(.inr (.int, [.int 1, .int 2, .int 0]) : ACell)] (fun r _ => r = some (.int 1)) := by
  refine s0_126 ?_
  refine s0_127 1 3 (by decide) rfl rfl ?_
  refine s0_129 rfl ?_
  refine s0_131 ?_
  refine s0_132 rfl ?_
  refine s0_134 ?_
  refine s0_136 ?_
  refine s0_137 (fun h => absurd h (by decide)) (fun _ => ?_)
  refine s0_140 ?_
  refine s0_142 ?_
  refine s0_143 (fun _ => ?_) (fun h => absurd h (by decide))
  refine s0_155 ?_
  refine s0_157 ?_
  refine s0_158 (fun h => absurd h (by decide)) (fun _ => ?_)
  refine s0_161 ?_
  refine s0_163 ?_
  refine s0_164 (fun h => absurd h (by decide)) (fun _ => ?_)
  refine s0_167 ?_
  refine s0_169 ?_
  refine s0_170 (fun h => absurd h (by decide)) (fun _ => ?_)
  refine s0_173 ?_
  refine s0_175 ?_
  refine s0_177 ?_
  refine s0_178 0 rfl (by decide) rfl ?_
  refine s0_179 ?_
  refine s0_182 ?_
  refine s0_184 ?_
  refine s0_185 (fun h => absurd h (by decide)) (fun _ => ?_)
  refine s0_188 ?_
  refine s0_190 ?_
  refine s0_191 (fun _ => ?_) (fun h => absurd h (by decide))
  refine s0_209 ?_
  refine s0_211 ?_
  refine s0_213 ?_
  refine s0_215 1 rfl (by decide) rfl ?_
  refine s0_216 ?_
  refine s0_219 2 rfl rfl ?_
  refine s0_222 rfl ?_
  refine s0_223 ?_
  refine s0_224 (own_r132) rfl ?_
  refine s0_227 rfl ?_
  refine s0_229 ?_
  refine s0_231 ?_
  refine s0_232 ?_
  refine s0_233 rfl (own_r133) rfl ?_
  refine s0_236 ?_
  refine s0_238 ?_
  refine s0_239 (fun h => absurd h (by decide)) (fun _ => ?_)
  refine s0_242 ?_
  refine s0_244 ?_
  refine s0_245 ?_
  refine s0_246 rfl (own_r134) rfl ?_
  refine s0_249 ?_
  refine s0_251 ?_
  refine s0_252 (fun h => absurd h (by decide)) (fun _ => ?_)
  refine s0_255 ?_
  refine s0_257 ?_
  refine s0_258 ?_
  refine s0_259 rfl (own_r135) rfl ?_
  refine s0_262 ?_
  refine s0_264 ?_
  refine s0_265 ?_
  refine s0_266 rfl (own_r136) rfl ?_
  refine s0_269 ?_
  refine s0_271 ?_
  refine s0_273 rfl (own_r137) rfl ?_
  refine s0_276 ?_
  refine s0_278 ?_
  refine s0_280 rfl (own_r138) rfl ?_
  refine s0_283 (fun h => absurd h (by decide)) (fun _ => ?_)
  refine s0_286 ?_
  refine s0_287 ?_
  refine s0_291 rfl ?_
  refine s0_293 ?_
  refine s0_295 (fun h => absurd h (by decide)) (fun _ => ?_)
  refine s0_298 ?_
  refine s0_300 ?_
  refine s0_302 rfl (own_r139) rfl ?_
  refine s0_305 ?_
  refine s0_307 ?_
  refine s0_309 ?_
  refine s0_310 rfl (own_r140) rfl ?_
  refine s0_313 ?_
  refine s0_315 ?_
  refine s0_316 rfl (own_r141) rfl ?_
  refine s0_319 rfl ?_
  refine s0_321 ?_
  refine s0_323 ?_
  refine s0_324 rfl (own_r142) rfl ?_
  refine s0_327 rfl ?_
  refine s0_329 ?_
  refine s0_331 (fun h => absurd h (by decide)) (fun _ => ?_)
  refine s0_334 ?_
  refine s0_336 ?_
  refine s0_338 ?_
  refine s0_340 (own_r143) rfl ?_
  refine s0_343 (fun h => absurd h (by decide)) (fun _ => ?_)
  refine s0_346 ?_
  refine s0_348k 1 rfl rfl ?_
  refine s0_349 ?_
  refine s0_350 (fun h => absurd h (by decide)) (fun _ => ?_)
  refine s0_353 ?_
  refine s0_355 ?_
  refine s0_356 0 rfl (by decide) rfl ?_
  refine s0_357 ?_
  refine s0_358 (fun h => absurd h (by decide)) (fun _ => ?_)
  refine s0_361 ?_
  refine s0_362 ?_
  exact s0_366 rfl
set_option maxHeartbeats 4000000 in
theorem own_c3312 (a b c d : Int32) : W0 ⟨5, 31, 189, 112⟩ 126 [.val (.int a), .val (.int b), .val (.int c), .val (.int d), .val (.int 3), .val (.int 3), .val (.ref 0), .val (.int 2), .val (.int 1), .val (.int 2), .unset, .unset, .unset, .unset, .unset, .unset] [] [(.inr (.int, [.int 1, .int 2, .int 0]) : ACell)] (fun r _ => r = some (.int 1)) := by
  refine s0_126 ?_
  refine s0_127 1 3 (by decide) rfl rfl ?_
  refine s0_129 rfl ?_
  refine s0_131 ?_
  refine s0_132 rfl ?_
  refine s0_134 ?_
  refine s0_136 ?_
  refine s0_137 (fun h => absurd h (by decide)) (fun _ => ?_)
  refine s0_140 ?_
  refine s0_142 ?_
  refine s0_143 (fun h => absurd h (by decide)) (fun _ => ?_)
  refine s0_146 ?_
  refine s0_148 ?_
  refine s0_150 ?_
  refine s0_151 0 rfl (by decide) rfl ?_
  refine s0_152 ?_
  refine s0_155 ?_
  refine s0_157 ?_
  refine s0_158 (fun h => absurd h (by decide)) (fun _ => ?_)
  refine s0_161 ?_
  refine s0_163 ?_
  refine s0_164 (fun h => absurd h (by decide)) (fun _ => ?_)
  refine s0_167 ?_
  refine s0_169 ?_
  refine s0_170 (fun _ => ?_) (fun h => absurd h (by decide))
  refine s0_182 ?_
  refine s0_184 ?_
  refine s0_185 (fun h => absurd h (by decide)) (fun _ => ?_)
  refine s0_188 ?_
  refine s0_190 ?_
  refine s0_191 (fun _ => ?_) (fun h => absurd h (by decide))
  refine s0_209 ?_
  refine s0_211 ?_
  refine s0_213 ?_
  refine s0_215 1 rfl (by decide) rfl ?_
  refine s0_216 ?_
  refine s0_219 2 rfl rfl ?_
  refine s0_222 rfl ?_
  refine s0_223 ?_
  refine s0_224 (own_r144) rfl ?_
  refine s0_227 rfl ?_
  refine s0_229 ?_
  refine s0_231 ?_
  refine s0_232 ?_
  refine s0_233 rfl (own_r145) rfl ?_
  refine s0_236 ?_
  refine s0_238 ?_
  refine s0_239 (fun h => absurd h (by decide)) (fun _ => ?_)
  refine s0_242 ?_
  refine s0_244 ?_
  refine s0_245 ?_
  refine s0_246 rfl (own_r146) rfl ?_
  refine s0_249 ?_
  refine s0_251 ?_
  refine s0_252 (fun h => absurd h (by decide)) (fun _ => ?_)
  refine s0_255 ?_
  refine s0_257 ?_
  refine s0_258 ?_
  refine s0_259 rfl (own_r147) rfl ?_
  refine s0_262 ?_
  refine s0_264 ?_
  refine s0_265 ?_
  refine s0_266 rfl (own_r148) rfl ?_
  refine s0_269 ?_
  refine s0_271 ?_
  refine s0_273 rfl (own_r149) rfl ?_
  refine s0_276 ?_
  refine s0_278 ?_
  refine s0_280 rfl (own_r150) rfl ?_
  refine s0_283 (fun h => absurd h (by decide)) (fun _ => ?_)
  refine s0_286 ?_
  refine s0_287 ?_
  refine s0_291 rfl ?_
  refine s0_293 ?_
  refine s0_295 (fun h => absurd h (by decide)) (fun _ => ?_)
  refine s0_298 ?_
  refine s0_300 ?_
  refine s0_302 rfl (own_r151) rfl ?_
  refine s0_305 ?_
  refine s0_307 ?_
  refine s0_309 ?_
  refine s0_310 rfl (own_r152) rfl ?_
  refine s0_313 ?_
  refine s0_315 ?_
  refine s0_316 rfl (own_r153) rfl ?_
  refine s0_319 rfl ?_
  refine s0_321 ?_
  refine s0_323 ?_
  refine s0_324 rfl (own_r154) rfl ?_
  refine s0_327 rfl ?_
  refine s0_329 ?_
  refine s0_331 (fun h => absurd h (by decide)) (fun _ => ?_)
  refine s0_334 ?_
  refine s0_336 ?_
  refine s0_338 ?_
  refine s0_340 (own_r155) rfl ?_
  refine s0_343 (fun h => absurd h (by decide)) (fun _ => ?_)
  refine s0_346 ?_
  refine s0_348k 1 rfl rfl ?_
  refine s0_349 ?_
  refine s0_350 (fun h => absurd h (by decide)) (fun _ => ?_)
  refine s0_353 ?_
  refine s0_355 ?_
  refine s0_356 0 rfl (by decide) rfl ?_
  refine s0_357 ?_
  refine s0_358 (fun h => absurd h (by decide)) (fun _ => ?_)
  refine s0_361 ?_
  refine s0_362 ?_
  exact s0_366 rfl
theorem own_mod (a m : Int32) (M : Int) (hm : m.toInt = M) (hp : 0 < M) : ((a &&& 2147483647) % m).toInt = (a.toInt % 2 ^ 31) % M := by
  have e : (a &&& 2147483647).toInt = a.toInt % 2 ^ 31 := Jvm.Kit.i32_mask a 2147483647 (k := 31) (by decide) (by decide)
  rw [Int32.toInt_mod, hm, e, Int.tmod_eq_emod_of_nonneg (by omega)]
theorem own_m1 (a : Int32) : (a &&& 2147483647) % 1 = 0 := by
  have h := own_mod a 1 1 (by decide) (by decide)
  simp only [← Int32.toInt_inj, h, Int32.reduceToInt]; omega
theorem own_m2 (a : Int32) : (a &&& 2147483647) % 2 = 0 ∨ (a &&& 2147483647) % 2 = 1 := by
  have h := own_mod a 2 2 (by decide) (by decide)
  simp only [← Int32.toInt_inj, h, Int32.reduceToInt]; omega
theorem own_m3 (a : Int32) : (a &&& 2147483647) % 3 = 0 ∨ (a &&& 2147483647) % 3 = 1 ∨ (a &&& 2147483647) % 3 = 2 := by
  have h := own_mod a 3 3 (by decide) (by decide)
  simp only [← Int32.toInt_inj, h, Int32.reduceToInt]; omega
set_option maxHeartbeats 4000000 in
theorem law_ok (a b c d : Int32) : M0 room_1 [.int a, .int b, .int c, .int d] [] (fun r _ => r = some (.int 1)) := by
  refine e0 ?_
  refine s0_0 ?_
  refine s0_1 ?_
  refine s0_3 ?_
  refine s0_4 ?_
  refine s0_5 (by decide) ?_
  have hk := own_m3 a
  generalize (a &&& 2147483647) % 3 = k at hk
  rcases hk with rfl | rfl | rfl
  · refine s0_6 ?_
    refine s0_7 ?_
    show W0 _ _ _ [.int 1] _ _
    refine s0_8 rfl ?_
    refine s0_10 ?_
    refine s0_11 ?_
    refine s0_13 ?_
    refine s0_14 ?_
    refine s0_16 (by decide) ?_
    rw [own_m1 b]
    refine s0_17 ?_
    refine s0_18 ?_
    show W0 _ _ _ [.int 1] _ _
    refine s0_19 rfl ?_
    refine s0_21 ?_
    refine s0_22 0 3 (by decide) rfl rfl ?_
    refine s0_24 rfl ?_
    refine s0_26 ?_
    refine s0_27 rfl ?_
    refine s0_29 ?_
    refine s0_31 ?_
    refine s0_32 (fun _ => ?_) (fun h => absurd h (by decide))
    refine s0_44 ?_
    refine s0_46 ?_
    refine s0_47 (fun _ => ?_) (fun h => absurd h (by decide))
    refine s0_65 ?_
    refine s0_67 ?_
    refine s0_68 (fun _ => ?_) (fun h => absurd h (by decide))
    try dsimp only [room_1, less, List.set, List.cons_append, List.nil_append, List.replicate, List.append_nil, Nat.sub_zero]
    refine s0_86 ?_
    refine s0_87 ?_
    refine s0_88 ?_
    refine s0_89 (fun _ => ?_) (fun _ => ?_)
    · refine s0_102 ?_
      refine s0_103 rfl ?_
      refine s0_105 ?_
      refine s0_107 (fun _ => ?_) (fun h => absurd h (by decide))
      refine s0_123 ?_
      refine s0_124 rfl ?_
      exact own_c1100 _ _ _ _
    · refine s0_92 (s0_94 ?_)
      refine s0_95 (fun _ => ?_) (fun h => absurd h (by decide))
      refine s0_102 ?_
      refine s0_103 rfl ?_
      refine s0_105 ?_
      refine s0_107 (fun _ => ?_) (fun h => absurd h (by decide))
      refine s0_123 ?_
      refine s0_124 rfl ?_
      exact own_c1100 _ _ _ _
  · refine s0_6 ?_
    refine s0_7 ?_
    show W0 _ _ _ [.int 2] _ _
    refine s0_8 rfl ?_
    refine s0_10 ?_
    refine s0_11 ?_
    refine s0_13 ?_
    refine s0_14 ?_
    refine s0_16 (by decide) ?_
    have hr := own_m2 b
    generalize (b &&& 2147483647) % 2 = r at hr
    rcases hr with rfl | rfl
    · refine s0_17 ?_
      refine s0_18 ?_
      show W0 _ _ _ [.int 1] _ _
      refine s0_19 rfl ?_
      refine s0_21 ?_
      refine s0_22 0 3 (by decide) rfl rfl ?_
      refine s0_24 rfl ?_
      refine s0_26 ?_
      refine s0_27 rfl ?_
      refine s0_29 ?_
      refine s0_31 ?_
      refine s0_32 (fun _ => ?_) (fun h => absurd h (by decide))
      refine s0_44 ?_
      refine s0_46 ?_
      refine s0_47 (fun h => absurd h (by decide)) (fun _ => ?_)
      refine s0_50 ?_
      refine s0_52 ?_
      refine s0_53 (fun h => absurd h (by decide)) (fun _ => ?_)
      refine s0_56 ?_
      refine s0_58 ?_
      refine s0_60 ?_
      refine s0_61 0 rfl (by decide) rfl ?_
      refine s0_62 ?_
      refine s0_65 ?_
      refine s0_67 ?_
      refine s0_68 (fun _ => ?_) (fun h => absurd h (by decide))
      try dsimp only [room_1, less, List.set, List.cons_append, List.nil_append, List.replicate, List.append_nil, Nat.sub_zero]
      refine s0_86 ?_
      refine s0_87 ?_
      refine s0_88 ?_
      refine s0_89 (fun _ => ?_) (fun _ => ?_)
      · refine s0_102 ?_
        refine s0_103 rfl ?_
        refine s0_105 ?_
        refine s0_107 (fun _ => ?_) (fun h => absurd h (by decide))
        refine s0_123 ?_
        refine s0_124 rfl ?_
        exact own_c2100 _ _ _ _
      · refine s0_92 (s0_94 ?_)
        refine s0_95 (fun h => absurd h (by decide)) (fun _ => ?_)
        refine s0_98 (s0_99 (s0_103 rfl (s0_105 (s0_107 (fun h => absurd h (by decide)) (fun _ => ?_)))))
        refine s0_110 ?_
        refine s0_112 ?_
        refine s0_113 ?_
        refine s0_115 ?_
        refine s0_116 ?_
        show W0 _ _ _ [.int 1, _, _] _ _
        refine s0_118 (by decide) ?_
        rw [own_m1 d]
        refine s0_119 0 rfl (by decide) rfl (s0_120 (s0_124 rfl ?_))
        exact own_c2112 _ _ _ _
    · refine s0_17 ?_
      refine s0_18 ?_
      show W0 _ _ _ [.int 2] _ _
      refine s0_19 rfl ?_
      refine s0_21 ?_
      refine s0_22 0 3 (by decide) rfl rfl ?_
      refine s0_24 rfl ?_
      refine s0_26 ?_
      refine s0_27 rfl ?_
      refine s0_29 ?_
      refine s0_31 ?_
      refine s0_32 (fun h => absurd h (by decide)) (fun _ => ?_)
      refine s0_35 ?_
      refine s0_37 ?_
      refine s0_39 ?_
      refine s0_40 0 rfl (by decide) rfl ?_
      refine s0_41 ?_
      refine s0_44 ?_
      refine s0_46 ?_
      refine s0_47 (fun h => absurd h (by decide)) (fun _ => ?_)
      refine s0_50 ?_
      refine s0_52 ?_
      refine s0_53 (fun _ => ?_) (fun h => absurd h (by decide))
      refine s0_65 ?_
      refine s0_67 ?_
      refine s0_68 (fun _ => ?_) (fun h => absurd h (by decide))
      try dsimp only [room_1, less, List.set, List.cons_append, List.nil_append, List.replicate, List.append_nil, Nat.sub_zero]
      refine s0_86 ?_
      refine s0_87 ?_
      refine s0_88 ?_
      refine s0_89 (fun _ => ?_) (fun _ => ?_)
      · refine s0_102 ?_
        refine s0_103 rfl ?_
        refine s0_105 ?_
        refine s0_107 (fun _ => ?_) (fun h => absurd h (by decide))
        refine s0_123 ?_
        refine s0_124 rfl ?_
        exact own_c2200 _ _ _ _
      · refine s0_92 (s0_94 ?_)
        refine s0_95 (fun h => absurd h (by decide)) (fun _ => ?_)
        refine s0_98 (s0_99 (s0_103 rfl (s0_105 (s0_107 (fun h => absurd h (by decide)) (fun _ => ?_)))))
        refine s0_110 ?_
        refine s0_112 ?_
        refine s0_113 ?_
        refine s0_115 ?_
        refine s0_116 ?_
        show W0 _ _ _ [.int 1, _, _] _ _
        refine s0_118 (by decide) ?_
        rw [own_m1 d]
        refine s0_119 0 rfl (by decide) rfl (s0_120 (s0_124 rfl ?_))
        exact own_c2211 _ _ _ _
  · refine s0_6 ?_
    refine s0_7 ?_
    show W0 _ _ _ [.int 3] _ _
    refine s0_8 rfl ?_
    refine s0_10 ?_
    refine s0_11 ?_
    refine s0_13 ?_
    refine s0_14 ?_
    refine s0_16 (by decide) ?_
    have hr := own_m3 b
    generalize (b &&& 2147483647) % 3 = r at hr
    rcases hr with rfl | rfl | rfl
    · refine s0_17 ?_
      refine s0_18 ?_
      show W0 _ _ _ [.int 1] _ _
      refine s0_19 rfl ?_
      refine s0_21 ?_
      refine s0_22 0 3 (by decide) rfl rfl ?_
      refine s0_24 rfl ?_
      refine s0_26 ?_
      refine s0_27 rfl ?_
      refine s0_29 ?_
      refine s0_31 ?_
      refine s0_32 (fun _ => ?_) (fun h => absurd h (by decide))
      refine s0_44 ?_
      refine s0_46 ?_
      refine s0_47 (fun h => absurd h (by decide)) (fun _ => ?_)
      refine s0_50 ?_
      refine s0_52 ?_
      refine s0_53 (fun h => absurd h (by decide)) (fun _ => ?_)
      refine s0_56 ?_
      refine s0_58 ?_
      refine s0_60 ?_
      refine s0_61 0 rfl (by decide) rfl ?_
      refine s0_62 ?_
      refine s0_65 ?_
      refine s0_67 ?_
      refine s0_68 (fun h => absurd h (by decide)) (fun _ => ?_)
      refine s0_71 ?_
      refine s0_73 ?_
      refine s0_74 (fun h => absurd h (by decide)) (fun _ => ?_)
      refine s0_77 ?_
      refine s0_79 ?_
      refine s0_81 ?_
      refine s0_82 1 rfl (by decide) rfl ?_
      refine s0_83 ?_
      try dsimp only [room_1, less, List.set, List.cons_append, List.nil_append, List.replicate, List.append_nil, Nat.sub_zero]
      refine s0_86 ?_
      refine s0_87 ?_
      refine s0_88 ?_
      refine s0_89 (fun _ => ?_) (fun _ => ?_)
      · refine s0_102 ?_
        refine s0_103 rfl ?_
        refine s0_105 ?_
        refine s0_107 (fun _ => ?_) (fun h => absurd h (by decide))
        refine s0_123 ?_
        refine s0_124 rfl ?_
        exact own_c3100 _ _ _ _
      · refine s0_92 (s0_94 ?_)
        refine s0_95 (fun h => absurd h (by decide)) (fun _ => ?_)
        refine s0_98 (s0_99 (s0_103 rfl (s0_105 (s0_107 (fun h => absurd h (by decide)) (fun _ => ?_)))))
        refine s0_110 ?_
        refine s0_112 ?_
        refine s0_113 ?_
        refine s0_115 ?_
        refine s0_116 ?_
        show W0 _ _ _ [.int 2, _, _] _ _
        refine s0_118 (by decide) ?_
        have hd := own_m2 d
        generalize (d &&& 2147483647) % 2 = q at hd
        rcases hd with rfl | rfl
        · refine s0_119 0 rfl (by decide) rfl (s0_120 (s0_124 rfl ?_))
          exact own_c3112 _ _ _ _
        · refine s0_119 1 rfl (by decide) rfl (s0_120 (s0_124 rfl ?_))
          exact own_c3113 _ _ _ _
    · refine s0_17 ?_
      refine s0_18 ?_
      show W0 _ _ _ [.int 2] _ _
      refine s0_19 rfl ?_
      refine s0_21 ?_
      refine s0_22 0 3 (by decide) rfl rfl ?_
      refine s0_24 rfl ?_
      refine s0_26 ?_
      refine s0_27 rfl ?_
      refine s0_29 ?_
      refine s0_31 ?_
      refine s0_32 (fun h => absurd h (by decide)) (fun _ => ?_)
      refine s0_35 ?_
      refine s0_37 ?_
      refine s0_39 ?_
      refine s0_40 0 rfl (by decide) rfl ?_
      refine s0_41 ?_
      refine s0_44 ?_
      refine s0_46 ?_
      refine s0_47 (fun h => absurd h (by decide)) (fun _ => ?_)
      refine s0_50 ?_
      refine s0_52 ?_
      refine s0_53 (fun _ => ?_) (fun h => absurd h (by decide))
      refine s0_65 ?_
      refine s0_67 ?_
      refine s0_68 (fun h => absurd h (by decide)) (fun _ => ?_)
      refine s0_71 ?_
      refine s0_73 ?_
      refine s0_74 (fun h => absurd h (by decide)) (fun _ => ?_)
      refine s0_77 ?_
      refine s0_79 ?_
      refine s0_81 ?_
      refine s0_82 1 rfl (by decide) rfl ?_
      refine s0_83 ?_
      try dsimp only [room_1, less, List.set, List.cons_append, List.nil_append, List.replicate, List.append_nil, Nat.sub_zero]
      refine s0_86 ?_
      refine s0_87 ?_
      refine s0_88 ?_
      refine s0_89 (fun _ => ?_) (fun _ => ?_)
      · refine s0_102 ?_
        refine s0_103 rfl ?_
        refine s0_105 ?_
        refine s0_107 (fun _ => ?_) (fun h => absurd h (by decide))
        refine s0_123 ?_
        refine s0_124 rfl ?_
        exact own_c3200 _ _ _ _
      · refine s0_92 (s0_94 ?_)
        refine s0_95 (fun h => absurd h (by decide)) (fun _ => ?_)
        refine s0_98 (s0_99 (s0_103 rfl (s0_105 (s0_107 (fun h => absurd h (by decide)) (fun _ => ?_)))))
        refine s0_110 ?_
        refine s0_112 ?_
        refine s0_113 ?_
        refine s0_115 ?_
        refine s0_116 ?_
        show W0 _ _ _ [.int 2, _, _] _ _
        refine s0_118 (by decide) ?_
        have hd := own_m2 d
        generalize (d &&& 2147483647) % 2 = q at hd
        rcases hd with rfl | rfl
        · refine s0_119 0 rfl (by decide) rfl (s0_120 (s0_124 rfl ?_))
          exact own_c3211 _ _ _ _
        · refine s0_119 1 rfl (by decide) rfl (s0_120 (s0_124 rfl ?_))
          exact own_c3213 _ _ _ _
    · refine s0_17 ?_
      refine s0_18 ?_
      show W0 _ _ _ [.int 3] _ _
      refine s0_19 rfl ?_
      refine s0_21 ?_
      refine s0_22 0 3 (by decide) rfl rfl ?_
      refine s0_24 rfl ?_
      refine s0_26 ?_
      refine s0_27 rfl ?_
      refine s0_29 ?_
      refine s0_31 ?_
      refine s0_32 (fun h => absurd h (by decide)) (fun _ => ?_)
      refine s0_35 ?_
      refine s0_37 ?_
      refine s0_39 ?_
      refine s0_40 0 rfl (by decide) rfl ?_
      refine s0_41 ?_
      refine s0_44 ?_
      refine s0_46 ?_
      refine s0_47 (fun h => absurd h (by decide)) (fun _ => ?_)
      refine s0_50 ?_
      refine s0_52 ?_
      refine s0_53 (fun h => absurd h (by decide)) (fun _ => ?_)
      refine s0_56 ?_
      refine s0_58 ?_
      refine s0_60 ?_
      refine s0_61 1 rfl (by decide) rfl ?_
      refine s0_62 ?_
      refine s0_65 ?_
      refine s0_67 ?_
      refine s0_68 (fun h => absurd h (by decide)) (fun _ => ?_)
      refine s0_71 ?_
      refine s0_73 ?_
      refine s0_74 (fun _ => ?_) (fun h => absurd h (by decide))
      try dsimp only [room_1, less, List.set, List.cons_append, List.nil_append, List.replicate, List.append_nil, Nat.sub_zero]
      refine s0_86 ?_
      refine s0_87 ?_
      refine s0_88 ?_
      refine s0_89 (fun _ => ?_) (fun _ => ?_)
      · refine s0_102 ?_
        refine s0_103 rfl ?_
        refine s0_105 ?_
        refine s0_107 (fun _ => ?_) (fun h => absurd h (by decide))
        refine s0_123 ?_
        refine s0_124 rfl ?_
        exact own_c3300 _ _ _ _
      · refine s0_92 (s0_94 ?_)
        refine s0_95 (fun h => absurd h (by decide)) (fun _ => ?_)
        refine s0_98 (s0_99 (s0_103 rfl (s0_105 (s0_107 (fun h => absurd h (by decide)) (fun _ => ?_)))))
        refine s0_110 ?_
        refine s0_112 ?_
        refine s0_113 ?_
        refine s0_115 ?_
        refine s0_116 ?_
        show W0 _ _ _ [.int 2, _, _] _ _
        refine s0_118 (by decide) ?_
        have hd := own_m2 d
        generalize (d &&& 2147483647) % 2 = q at hd
        rcases hd with rfl | rfl
        · refine s0_119 0 rfl (by decide) rfl (s0_120 (s0_124 rfl ?_))
          exact own_c3311 _ _ _ _
        · refine s0_119 1 rfl (by decide) rfl (s0_120 (s0_124 rfl ?_))
          exact own_c3312 _ _ _ _
set_option maxRecDepth 65536 in
set_option maxHeartbeats 4000000 in
theorem comes_1 {Post : Tables → Env → Array Value → State → Outcome → State → Prop} (hpost : ∀ tb e args s v u, (limb_1_1.after args s (.returned v) u = true ∧ limb_1_2.after args s (.returned v) u = true ∧ True) → FrameEnd s (.returned v) u (Jvm.fieldLocs frame_1_writes args s ++ Jvm.arrayLocs frame_1_arrays args s ++ Jvm.staticLocs frame_1_statics s) 32 192 → Post tb e args s (.returned v) u) :
    ArmFor flags0 classFile x code maxLocals ret World_1 tables_1 room_1 Calls_1 rest_1 Pre_1 Post := by
  intro l hfl _ _ p e ha hc hk s m args below hf hA hF happ hP
  obtain ⟨hcalls, hrest, hpre⟩ := hP
  obtain ⟨-, -, -, hnamed, -, -, -, hat⟩ := (Spec.applies_iff hf).mp happ
  obtain ⟨hg, hn⟩ := and_e (Cond.before_iff.mp (show (Jvm.Cond.and given_1 narrow_1).before args s = true from hpre))
  obtain ⟨hg0, hg⟩ := and_e hg
  obtain ⟨hk0, hg⟩ := and_e hg
  obtain ⟨hk1, hg⟩ := and_e hg
  obtain ⟨hk2, hg⟩ := and_e hg
  have hk3 := hg
  obtain ⟨w0, w1, w2, w3, rfl⟩ : ∃ w0 w1 w2 w3 : Value, args = #[w0, w1, w2, w3] := by
    have hs : args.size = 4 := by simpa [Cond.value, given_1] using hg0
    obtain ⟨L⟩ := args
    match L, hs with
    | [w0, w1, w2, w3], _ => exact ⟨w0, w1, w2, w3, rfl⟩
  have hw := fun d (hd : d ∈ tables_1) => atoms_spec (ws := Jvm.Cond.code x code maxLocals ret :: tables_1) hat d (List.mem_cons_of_mem _ hd)
  obtain ⟨i0, e0⟩ := is_v hk0
  obtain rfl : w0 = (.int i0) := Option.some.inj e0
  obtain ⟨i1, e1⟩ := is_v hk1
  obtain rfl : w1 = (.int i1) := Option.some.inj e1
  obtain ⟨i2, e2⟩ := is_v hk2
  obtain rfl : w2 = (.int i2) := Option.some.inj e2
  obtain ⟨i3, e3⟩ := is_v hk3
  obtain rfl : w3 = (.int i3) := Option.some.inj e3
  obtain ⟨n, o, h1, h2, h3, _, L, rfl, ⟨v', H', rfl, hR, rfl, N⟩, hq⟩ := law_ok i0 i1 i2 i3 s _ hw l s.heap tables_1 (Rel.start s KT) p e ha hc hk s m _ below hf ((Spec.applies_iff_loose hf).mp happ).1 ⟨rfl, State.Warmed39.refl s, rfl⟩ trivial
  refine ⟨n, _, h1, h2, h3, hpost _ _ _ _ _ _ ⟨Cond.after_iff.mpr rfl, Cond.after_iff.mpr (eq_i res_at (Term.int_eval (1)) rfl), trivial⟩ ⟨hq.1, hq.2.1, (hq.2.2.sift fun y hy => Or.inr (N y hy)).mono (by decide) (by decide)⟩⟩
theorem main_1_1 : Claimed_1_1 := comes_1 fun _ _ _ _ _ _ h hF => ⟨h.1, hF⟩
theorem main_1_2 : Claimed_1_2 := comes_1 fun _ _ _ _ _ _ h hF => ⟨h.2.1, hF⟩
end Jvm.Pilot.@@N@@
namespace Jvm.Pilot.@@N@@
open Jvm Jvm.ClassFile Sem Op Lib Jvm.Free Jvm.Stand Jvm.Pilot.@@N@@.Jvm.D
/-! MADE BY PROGRAM (witnessworld.py) out of the Statement's table words and the real class files: 9 classes; the members and pool entries that the words name. The judged class is class 1, her method 2. -/
namespace start1
open Jvm.ClassFile
def u (s : String) : CpInfo := .utf8 (stringToUtf16 s)
/-- a pool by its gaps: so many unusable entries, then the entry; so many at the end -/
def gap : Nat → List CpInfo → List CpInfo
  | 0, r => r
  | n + 1, r => .unusable :: gap n r
def poolList (es : List (Nat × CpInfo)) (last : Nat) : List CpInfo := es.foldr (fun e r => gap e.1 (e.2 :: r)) (gap last [])
def pool (es : List (Nat × CpInfo)) (last : Nat) : Array CpInfo := ⟨poolList es last⟩
def fileOf (pool : Array CpInfo) (this : Nat) (attrs : Array Attribute := #[]) (ms : Array MethodInfo := #[]) (fl : Nat := 33) (sup : Nat := 0) (ifs : Array Nat := #[]) (fds : Array FieldInfo := #[]) : ClassFile where
  minorVersion := 0
  majorVersion := 65
  constantPool := pool
  accessFlags := fl
  thisClass := this
  superClass := sup
  interfaces := ifs
  fields := fds
  methods := ms
  attributes := attrs
def plain (name : String) (sup : Option ClassId) : Class where
  name := name
  kind := .ordinary
  loader := none
  accessFlags := 33
  super := sup
  interfaces := #[]
  cf := none
  fields := #[]
  methods := #[]
  instanceTypes := #[]
  staticTypes := #[]
  resolved := #[]
  callSites := []
  init := .initialized
  statics := none
  mirror := none

def pool0 : Array CpInfo := pool [(5, u "<init>"), (0, u "()V"), (1, .class_ 10), (1, u "java/lang/Object")] 113

def k0c0 : Code := { maxStack := 0, maxLocals := 1, code := object_method_1_code, exceptionTable := #[], attributes := #[] }
def k0m0 : Method := { name := "<init>", desc := "()V", sig := { parameters := [], returnType := none }, accessFlags := 1, code := some k0c0 }
/-- java/lang/Object -/
def k0 : Class := { plain "java/lang/Object" none with
  accessFlags := 33
  interfaces := #[]
  cf := some (fileOf pool0 8 #[] #[{ accessFlags := 1, nameIndex := 5, descriptorIndex := 6, attributes := #[] }] 33 0 #[] #[])
  fields := #[]
  methods := #[k0m0]
  instanceTypes := #[]
  staticTypes := #[]
  resolved := Array.replicate 124 none
  statics := none }

def pool1 : Array CpInfo := pool [(2, .class_ 4), (1, u "java/lang/Object"), (0, u "<init>"), (0, u "()V"), (0, .integer 2147483647), (0, .class_ 9), (0, u "com/example/binwright/binwright/core/BinContents"), (0, .methodref 8 11), (0, .nameAndType 5 12), (0, u "(I)V"), (0, .methodref 8 14), (0, .nameAndType 15 16), (0, u "add"), (0, u "(II)V"), (0, .methodref 8 18), (0, .nameAndType 19 12), (0, u "remove"), (0, .methodref 8 21), (0, .nameAndType 22 23), (0, u "binOf"), (0, u "(I)I"), (0, .methodref 8 25), (0, .nameAndType 26 27), (0, u "items"), (0, u "(I)[I"), (0, .methodref 29 30), (0, .class_ 31), (0, .nameAndType 32 33), (0, u "com/example/binwright/binwright/core/BinContentsRemovePinLaw"), (0, u "eq3"), (0, u "([I[II)Z"), (3, u "law"), (0, u "(IIII)Z")] 4

def k1m0 : Method := { name := "<init>", desc := "()V", sig := { parameters := [], returnType := none }, accessFlags := 1, code := none }
def k1c1 : Code := { maxStack := 3, maxLocals := 3, code := method_2_code, exceptionTable := #[], attributes := #[] }
def k1m1 : Method := { name := "eq3", desc := "([I[II)Z", sig := { parameters := [(.array .int), (.array .int), .int], returnType := some .boolean }, accessFlags := 10, code := some k1c1 }
def k1c2 : Code := { maxStack := 3, maxLocals := 16, code := code, exceptionTable := #[], attributes := #[] }
def k1m2 : Method := { name := "law", desc := "(IIII)Z", sig := { parameters := [.int, .int, .int, .int], returnType := some .boolean }, accessFlags := 9, code := some k1c2 }
/-- com/example/binwright/binwright/core/BinContentsRemovePinLaw -/
def k1 : Class := { plain "com/example/binwright/binwright/core/BinContentsRemovePinLaw" (some 0) with
  accessFlags := 49
  interfaces := #[]
  cf := some (fileOf pool1 29 #[] #[{ accessFlags := 1, nameIndex := 5, descriptorIndex := 6, attributes := #[] }, { accessFlags := 10, nameIndex := 32, descriptorIndex := 33, attributes := #[] }, { accessFlags := 9, nameIndex := 37, descriptorIndex := 38, attributes := #[] }] 49 2 #[] #[])
  fields := #[]
  methods := #[k1m0, k1m1, k1m2]
  instanceTypes := #[]
  staticTypes := #[]
  resolved := Array.replicate 43 none
  statics := none }

def pool2 : Array CpInfo := pool [(1, .methodref 2 3), (0, .class_ 4), (0, .nameAndType 5 6), (0, u "java/lang/Object"), (0, u "<init>"), (0, u "()V"), (0, .class_ 8), (0, u "com/example/binwright/binwright/core/BinContents"), (0, .fieldref 7 10), (0, .nameAndType 11 12), (0, u "first"), (0, u "[I"), (0, .fieldref 7 14), (0, .nameAndType 15 12), (0, u "last"), (0, .fieldref 7 17), (0, .nameAndType 18 12), (0, u "binOf"), (0, .fieldref 7 20), (0, .nameAndType 21 12), (0, u "before"), (0, .fieldref 7 23), (0, .nameAndType 24 12), (0, u "after"), (6, u "FIRST_BIN_COUNT"), (0, u "I"), (2, u "(I)V"), (2, u "(I)I"), (0, u "add"), (0, u "(II)V"), (1, u "remove"), (0, u "items"), (0, u "(I)[I")] 3

def k2c0 : Code := { maxStack := 3, maxLocals := 2, code := prog_20_method_1_code, exceptionTable := #[], attributes := #[] }
def k2m0 : Method := { name := "<init>", desc := "(I)V", sig := { parameters := [.int], returnType := none }, accessFlags := 0, code := some k2c0 }
def k2c1 : Code := { maxStack := 2, maxLocals := 2, code := prog_20_method_2_code, exceptionTable := #[], attributes := #[] }
def k2m1 : Method := { name := "binOf", desc := "(I)I", sig := { parameters := [.int], returnType := some .int }, accessFlags := 0, code := some k2c1 }
def k2c2 : Code := { maxStack := 4, maxLocals := 3, code := prog_20_method_3_code, exceptionTable := #[], attributes := #[] }
def k2m2 : Method := { name := "add", desc := "(II)V", sig := { parameters := [.int, .int], returnType := none }, accessFlags := 0, code := some k2c2 }
def k2c3 : Code := { maxStack := 4, maxLocals := 3, code := prog_20_method_4_code, exceptionTable := #[], attributes := #[] }
def k2m3 : Method := { name := "remove", desc := "(I)V", sig := { parameters := [.int], returnType := none }, accessFlags := 0, code := some k2c3 }
def k2c4 : Code := { maxStack := 3, maxLocals := 6, code := prog_20_method_5_code, exceptionTable := #[], attributes := #[] }
def k2m4 : Method := { name := "items", desc := "(I)[I", sig := { parameters := [.int], returnType := some (.array .int) }, accessFlags := 0, code := some k2c4 }
/-- com/example/binwright/binwright/core/BinContents -/
def k2 : Class := { plain "com/example/binwright/binwright/core/BinContents" (some 0) with
  accessFlags := 48
  interfaces := #[]
  cf := some (fileOf pool2 7 #[] #[{ accessFlags := 0, nameIndex := 5, descriptorIndex := 35, attributes := #[] }, { accessFlags := 0, nameIndex := 18, descriptorIndex := 38, attributes := #[] }, { accessFlags := 0, nameIndex := 39, descriptorIndex := 40, attributes := #[] }, { accessFlags := 0, nameIndex := 42, descriptorIndex := 35, attributes := #[] }, { accessFlags := 0, nameIndex := 43, descriptorIndex := 44, attributes := #[] }] 48 2 #[] #[{ accessFlags := 26, nameIndex := 31, descriptorIndex := 32, attributes := #[] }, { accessFlags := 18, nameIndex := 18, descriptorIndex := 12, attributes := #[] }, { accessFlags := 18, nameIndex := 21, descriptorIndex := 12, attributes := #[] }, { accessFlags := 18, nameIndex := 24, descriptorIndex := 12, attributes := #[] }, { accessFlags := 2, nameIndex := 11, descriptorIndex := 12, attributes := #[] }, { accessFlags := 2, nameIndex := 15, descriptorIndex := 12, attributes := #[] }])
  fields := #[{ name := "FIRST_BIN_COUNT", type := .int, accessFlags := 26, slot := 0, constantValue := 0 }, { name := "binOf", type := (.array .int), accessFlags := 18, slot := 0, constantValue := 0 }, { name := "before", type := (.array .int), accessFlags := 18, slot := 1, constantValue := 0 }, { name := "after", type := (.array .int), accessFlags := 18, slot := 2, constantValue := 0 }, { name := "first", type := (.array .int), accessFlags := 2, slot := 3, constantValue := 0 }, { name := "last", type := (.array .int), accessFlags := 2, slot := 4, constantValue := 0 }]
  methods := #[k2m0, k2m1, k2m2, k2m3, k2m4]
  instanceTypes := #[(.array .int), (.array .int), (.array .int), (.array .int), (.array .int)]
  staticTypes := #[.int]
  resolved := Array.replicate 48 none
  statics := none }

def pool3 : Array CpInfo := pool [(1, u "java/lang/Cloneable"), (0, .class_ 1), (0, u "java/lang/Object"), (0, .class_ 3)] 3

/-- java/lang/Cloneable -/
def k3 : Class := { plain "java/lang/Cloneable" (some 0) with
  accessFlags := 1537
  interfaces := #[]
  cf := some (fileOf pool3 2 #[] #[] 1537 4 #[] #[])
  fields := #[]
  methods := #[]
  instanceTypes := #[]
  staticTypes := #[]
  resolved := Array.replicate 8 none
  statics := none }

def pool4 : Array CpInfo := pool [(1, u "java/io/Serializable"), (0, .class_ 1), (0, u "java/lang/Object"), (0, .class_ 3)] 3

/-- java/io/Serializable -/
def k4 : Class := { plain "java/io/Serializable" (some 0) with
  accessFlags := 1537
  interfaces := #[]
  cf := some (fileOf pool4 2 #[] #[] 1537 4 #[] #[])
  fields := #[]
  methods := #[]
  instanceTypes := #[]
  staticTypes := #[]
  resolved := Array.replicate 8 none
  statics := none }

/-- the primitive byte -/
def k5 : Class := { plain "byte" none with kind := .primitive 'B', accessFlags := 0x411 }
/-- [B -/
def k6 : Class := { plain "[B" (some 0) with kind := .array 5 .byte, interfaces := #[3, 4], accessFlags := 1041 }

/-- the primitive int -/
def k7 : Class := { plain "int" none with kind := .primitive 'I', accessFlags := 0x411 }
/-- [I -/
def k8 : Class := { plain "[I" (some 0) with kind := .array 7 .int, interfaces := #[3, 4], accessFlags := 1041 }

def heap : Heap := #[]
def classes : Array Class := #[k0, k1, k2, k3, k4, k5, k6, k7, k8]
def interned : List (Array UInt16 × Addr) := []
def slotsUsed : Nat := 0
def theMethod : MethodId := ⟨1, 2⟩
def args0 : Array Value := #[.int 5, .int 3, .int 2, .int 1]
def aboutOver (below : List Frame) : State where
  vm := { classes := classes, interned := interned.toArray }
  heap := heap
  slotsUsed := slotsUsed
  threads := #[{ frames := .invoking theMethod args0 :: below }]
def below0 : List Frame := [.native { method := ⟨0, 0⟩, args := #[] }]
def about1 : State := aboutOver below0
def p0 : Program := .bare "" "" ""
def e0 : Env := launch0.env 0 0 0
theorem w_frames : about1.frames = Frame.invoking theMethod args0 :: below0 := rfl
set_option maxRecDepth 65536 in
theorem w_args : argsFit about1.vm theMethod args0 = true := by decide +kernel
set_option maxRecDepth 65536 in
theorem w_heap : heapFits about1 = true := by decide +kernel
set_option maxRecDepth 65536 in
theorem w_runnable : about1.curStatus? = some .runnable := by decide +kernel
set_option maxRecDepth 65536 in
theorem w_alone : about1.alone = true := by decide +kernel
set_option maxRecDepth 65536 in
theorem w_named : about1.methodNamed? x = some theMethod := by decide +kernel
set_option maxRecDepth 65536 in
theorem w_hears : about1.hears theMethod below0 = true := by decide +kernel
set_option maxRecDepth 65536 in
theorem w_ripe : about1.ripe theMethod args0 below0 = true := by decide +kernel
theorem w_running : about1.status = .running := rfl
set_option maxRecDepth 65536 in
theorem w_room : about1.hasRoom e0.platform room_1 = true :=
  launch0.hasRoom_least _ room_1 (by decide +kernel) (by decide +kernel) (by decide +kernel) (by decide +kernel) (by decide +kernel) (by decide +kernel)
theorem allAtoms_all (ts : List Jvm.Cond) (a : Array Jvm.Value) (st : Jvm.State) : (allAtoms ts).before a st = ts.all (fun c => c.before a st) := by
  induction ts with
  | nil => rfl
  | cons c t ih =>
    show (Jvm.Cond.and c (allAtoms t)).before a st = _
    rw [Jvm.Cond.before_and, ih, List.all_cons]
def words1 : List Jvm.Cond := Jvm.Cond.code x code maxLocals ret :: tables_1
/-- a 'code' word, met by the world's own term for the bytes: nothing is compared byte by byte -/
theorem code_word {y : MethodName} {bytes : ByteArray} {mx : Nat} {rt : Option FieldType} {a : Array Value} {s : State} {m : MethodId} {meth : Method} {c : Code} (h1 : s.methodNamed? y = some m) (h2 : s.vm.method? m = some meth) (h3 : meth.code = some c) (h4 : c.code = bytes)
    (h5 : (c.maxLocals == mx && c.exceptionTable.isEmpty && decide (c.maxStack ≤ mostOperands) && decide (meth.sig.returnType = rt) && !meth.locks && decide (parseMethodDescriptor y.desc = some meth.sig)) = true) : (Jvm.Cond.code y bytes mx rt).before a s = true := by
  simp only [Bool.and_eq_true, beq_iff_eq, Bool.not_eq_true', decide_eq_true_eq] at h5
  obtain ⟨⟨⟨⟨⟨g1, g2⟩, g3⟩, g4⟩, g5⟩, g6⟩ := h5
  simp [Cond.before, Cond.holds, Cond.value, h1, h2, h3, h4, g1, g2, g3, g4, g5, g6]
def isCode : Jvm.Cond → Bool
  | .code _ _ _ _ => true
  | _ => false
theorem all_split {L : List Jvm.Cond} {P : Jvm.Cond → Bool} (h1 : L.all (fun c => isCode c || P c) = true) (h2 : ∀ c ∈ L.filter isCode, P c = true) : L.all P = true := by
  refine List.all_eq_true.mpr fun c hc => ?_
  have h := List.all_eq_true.mp h1 c hc
  rcases Bool.eq_false_or_eq_true (isCode c) with hi | hi
  · exact h2 c (List.mem_filter.mpr ⟨hc, hi⟩)
  · simpa [hi] using h
set_option maxRecDepth 65536 in
theorem w_c0 : (Jvm.Cond.code x code maxLocals ret).before args0 about1 = true := code_word (m := ⟨1, 2⟩) (meth := k1m2) (c := k1c2) (by decide +kernel) rfl rfl rfl (by decide +kernel)
set_option maxRecDepth 65536 in
theorem w_c1 : (Jvm.Cond.code ({ cls := "com/example/binwright/binwright/core/BinContents", name := "<init>", desc := "(I)V" } : Jvm.MethodName) prog_20_method_1_code (2 : Nat) (Option.none : Option Jvm.ClassFile.FieldType)).before args0 about1 = true := code_word (m := ⟨2, 0⟩) (meth := k2m0) (c := k2c0) (by decide +kernel) rfl rfl rfl (by decide +kernel)
set_option maxRecDepth 65536 in
theorem w_c2 : (Jvm.Cond.code ({ cls := "java/lang/Object", name := "<init>", desc := "()V" } : Jvm.MethodName) object_method_1_code (1 : Nat) (Option.none : Option Jvm.ClassFile.FieldType)).before args0 about1 = true := code_word (m := ⟨0, 0⟩) (meth := k0m0) (c := k0c0) (by decide +kernel) rfl rfl rfl (by decide +kernel)
set_option maxRecDepth 65536 in
theorem w_c3 : (Jvm.Cond.code ({ cls := "com/example/binwright/binwright/core/BinContents", name := "add", desc := "(II)V" } : Jvm.MethodName) prog_20_method_3_code (3 : Nat) (Option.none : Option Jvm.ClassFile.FieldType)).before args0 about1 = true := code_word (m := ⟨2, 2⟩) (meth := k2m2) (c := k2c2) (by decide +kernel) rfl rfl rfl (by decide +kernel)
set_option maxRecDepth 65536 in
theorem w_c4 : (Jvm.Cond.code ({ cls := "com/example/binwright/binwright/core/BinContents", name := "remove", desc := "(I)V" } : Jvm.MethodName) prog_20_method_4_code (3 : Nat) (Option.none : Option Jvm.ClassFile.FieldType)).before args0 about1 = true := code_word (m := ⟨2, 3⟩) (meth := k2m3) (c := k2c3) (by decide +kernel) rfl rfl rfl (by decide +kernel)
set_option maxRecDepth 65536 in
theorem w_c5 : (Jvm.Cond.code ({ cls := "com/example/binwright/binwright/core/BinContents", name := "binOf", desc := "(I)I" } : Jvm.MethodName) prog_20_method_2_code (2 : Nat) (Option.some Jvm.ClassFile.FieldType.int)).before args0 about1 = true := code_word (m := ⟨2, 1⟩) (meth := k2m1) (c := k2c1) (by decide +kernel) rfl rfl rfl (by decide +kernel)
set_option maxRecDepth 65536 in
theorem w_c6 : (Jvm.Cond.code ({ cls := "com/example/binwright/binwright/core/BinContents", name := "items", desc := "(I)[I" } : Jvm.MethodName) prog_20_method_5_code (6 : Nat) (Option.some (Jvm.ClassFile.FieldType.array Jvm.ClassFile.FieldType.int))).before args0 about1 = true := code_word (m := ⟨2, 4⟩) (meth := k2m4) (c := k2c4) (by decide +kernel) rfl rfl rfl (by decide +kernel)
set_option maxRecDepth 65536 in
theorem w_c7 : (Jvm.Cond.code ({ cls := "com/example/binwright/binwright/core/BinContentsRemovePinLaw", name := "eq3", desc := "([I[II)Z" } : Jvm.MethodName) method_2_code (3 : Nat) (Option.some Jvm.ClassFile.FieldType.boolean)).before args0 about1 = true := code_word (m := ⟨1, 1⟩) (meth := k1m1) (c := k1c1) (by decide +kernel) rfl rfl rfl (by decide +kernel)
def codes1 : List Jvm.Cond := [Jvm.Cond.code x code maxLocals ret, Jvm.Cond.code ({ cls := "com/example/binwright/binwright/core/BinContents", name := "<init>", desc := "(I)V" } : Jvm.MethodName) prog_20_method_1_code (2 : Nat) (Option.none : Option Jvm.ClassFile.FieldType), Jvm.Cond.code ({ cls := "java/lang/Object", name := "<init>", desc := "()V" } : Jvm.MethodName) object_method_1_code (1 : Nat) (Option.none : Option Jvm.ClassFile.FieldType), Jvm.Cond.code ({ cls := "com/example/binwright/binwright/core/BinContents", name := "add", desc := "(II)V" } : Jvm.MethodName) prog_20_method_3_code (3 : Nat) (Option.none : Option Jvm.ClassFile.FieldType), Jvm.Cond.code ({ cls := "com/example/binwright/binwright/core/BinContents", name := "remove", desc := "(I)V" } : Jvm.MethodName) prog_20_method_4_code (3 : Nat) (Option.none : Option Jvm.ClassFile.FieldType), Jvm.Cond.code ({ cls := "com/example/binwright/binwright/core/BinContents", name := "binOf", desc := "(I)I" } : Jvm.MethodName) prog_20_method_2_code (2 : Nat) (Option.some Jvm.ClassFile.FieldType.int), Jvm.Cond.code ({ cls := "com/example/binwright/binwright/core/BinContents", name := "items", desc := "(I)[I" } : Jvm.MethodName) prog_20_method_5_code (6 : Nat) (Option.some (Jvm.ClassFile.FieldType.array Jvm.ClassFile.FieldType.int)), Jvm.Cond.code ({ cls := "com/example/binwright/binwright/core/BinContentsRemovePinLaw", name := "eq3", desc := "([I[II)Z" } : Jvm.MethodName) method_2_code (3 : Nat) (Option.some Jvm.ClassFile.FieldType.boolean)]
set_option maxRecDepth 65536 in
theorem codes_eq : words1.filter isCode = codes1 := rfl
theorem w_codes : ∀ c ∈ words1.filter isCode, c.before args0 about1 = true := by
  rw [codes_eq]
  intro c hc
  simp only [codes1, List.mem_cons, List.not_mem_nil, or_false] at hc
  rcases hc with rfl | rfl | rfl | rfl | rfl | rfl | rfl | rfl
  · exact w_c0
  · exact w_c1
  · exact w_c2
  · exact w_c3
  · exact w_c4
  · exact w_c5
  · exact w_c6
  · exact w_c7
set_option maxRecDepth 65536 in
theorem w_t1 : (words1.take 24).all (fun c => isCode c || c.before args0 about1) = true := by decide +kernel
set_option maxRecDepth 65536 in
theorem w_t2 : (words1.drop 24).all (fun c => isCode c || c.before args0 about1) = true := by decide +kernel
theorem w_tables : (allAtoms (Jvm.Cond.code x code maxLocals ret :: tables_1)).before args0 about1 = true := by
  rw [allAtoms_all]
  show words1.all (fun c => c.before args0 about1) = true
  refine all_split ?_ w_codes
  rw [← List.take_append_drop 24 words1, List.all_append, w_t1, w_t2]
  rfl
set_option maxRecDepth 65536 in
theorem w_case : (Jvm.Cond.and given_1 narrow_1).before args0 about1 = true := by decide +kernel
theorem w_applies : (headSpec (Jvm.Cond.code x code maxLocals ret :: tables_1) room_1).applies x e0.platform about1 = true :=
  (Spec.applies_iff w_frames).mpr ⟨w_running, w_runnable, w_alone, w_named, w_hears, w_ripe, w_room, w_tables⟩
theorem atStart : AtStart classFile x code maxLocals ret World_1 tables_1 room_1 Calls_1 rest_1 Pre_1 launch0 p0 e0 about1 theMethod args0 below0 :=
  ⟨lists_1, trivial, launch0.admits_env _ _ _, launch0.least_env, fairChoices_fair.cas, fairChoices_fair.clock, w_frames, w_args, w_heap, w_applies, trivial, trivial, w_case⟩
end start1
theorem witness_1 : WitnessClaimed_1 := ⟨start1.p0, start1.e0, start1.about1, start1.theMethod, start1.args0, start1.below0, start1.atStart⟩
end Jvm.Pilot.@@N@@
