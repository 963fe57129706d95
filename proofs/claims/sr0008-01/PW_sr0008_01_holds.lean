import PyProof.Rows.All
import Wide.All
import OpenK.AllK
import Wide.FinOn
import Lean
import PySem.Challenge.RW_sr0008_01
set_option Elab.async false
set_option linter.all false
section
open PySem PySem.W PyProof.Rows
set_option maxRecDepth 100000
namespace Mine
noncomputable def allF (l : List (Int × Value)) : Bool := @List.rec (Int × Value) (fun _ => Bool) true (fun e _ ih => @Bool.rec (fun _ => Bool) false ih e.2.scannable) l
theorem allF_eq : ∀ l : List (Int × Value), l.all (·.2.scannable) = allF l
  | [] => rfl
  | e :: l => by
    rw [List.all_cons, allF_eq l]
    show _ = @Bool.rec (fun _ => Bool) false (allF l) e.2.scannable
    cases e.2.scannable <;> rfl
noncomputable def byScanF (x : Value) (es : Array (Int × Value)) : Bool := x.scannable && es.size < scanBound && allF es.toList
theorem byScanF_eq (x : Value) (es : Array (Int × Value)) : byScan x es = byScanF x es := by
  unfold byScan byScanF
  rw [← Array.all_toList, allF_eq]
noncomputable def hitF (h : Int) (l : List (Int × Value)) : Bool := @List.rec (Int × Value) (fun _ => Bool) false (fun e _ ih => @Bool.rec (fun _ => Bool) ih true (e.1 == h)) l
theorem hitF_cons (h : Int) (e : Int × Value) (l : List (Int × Value)) : hitF h (e :: l) = @Bool.rec (fun _ => Bool) (hitF h l) true (e.1 == h) := rfl
theorem scan_miss (a : Addr) (x : Value) (h : Int) (ad : Bool) : ∀ (l : List (Int × Value)) (i : Nat), hitF h l = false → setScanFrom a x h ad l i = pure .absent
  | [], _, _ => rfl
  | (h', y) :: l, i, e => by
    rw [hitF_cons] at e
    dsimp only at e
    cases q : (h' == h) with
    | true => rw [q] at e; cases e
    | false =>
      rw [q] at e
      have ih := scan_miss a x h ad l (i + 1) e
      unfold setScanFrom
      rw [q]
      exact ih
noncomputable def setScanF (a : Addr) (x : Value) (h : Int) (ad : Bool) (es : Array (Int × Value)) : Sem ScanMet := match x with
  | .int i t => @Bool.rec (fun _ => Sem ScanMet) (Sem.pure .absent) (setScan a (.int i t) h ad es) (hitF h es.toList)
  | x => setScan a x h ad es
theorem setScanF_eq (a : Addr) (x : Value) (h : Int) (ad : Bool) (es : Array (Int × Value)) : setScan a x h ad es = setScanF a x h ad es := by
  unfold setScanF
  cases x <;> try rfl
  rename_i i t
  dsimp only
  cases q : hitF h es.toList with
  | true => rfl
  | false => exact scan_miss a _ h ad _ 0 q
noncomputable def insR {α : Type} (l : List α) : Nat → α → List α := @List.rec α (fun _ => Nat → α → List α) (fun _ x => [x]) (fun a l ih p x => @Nat.rec (fun _ => List α) (x :: a :: l) (fun p' _ => a :: ih p' x) p) l
theorem insR_eq {α : Type} (x : α) : ∀ (l : List α) (p : Nat), l.take p ++ x :: l.drop p = insR l p x
  | [], p => by simp [insR]
  | a :: l, 0 => rfl
  | a :: l, p + 1 => by
    show a :: (l.take p ++ x :: l.drop p) = a :: insR l p x
    rw [insR_eq x l p]
noncomputable def insF {α : Type} (xs : Array α) (p : Nat) (x : α) : Array α := ⟨insR xs.toList p x⟩
theorem insF_eq {α : Type} (xs : Array α) (p : Nat) (x : α) : SetTable.insertAt xs p x = insF xs p x := by
  unfold SetTable.insertAt insF
  apply Array.toList_inj.mp
  rw [← insR_eq]
  simp
  exact List.take_of_length_le (by simp)
noncomputable def putF (t : SetTable) (j : Nat) : SetTable × Nat :=
  let p := SetTable.below t.place j
  ({ t with place := insF t.place p j, dummies := if SetTable.has t.dummies j then SetTable.eraseAt t.dummies (SetTable.below t.dummies j) else t.dummies }, p)
theorem putF_eq (t : SetTable) (j : Nat) : t.put j = putF t j := by
  unfold SetTable.put putF
  simp only [insF_eq]
noncomputable def layNewF (t : SetTable) (es : Array (Int × Value)) (h : Int) (x : Value) : Array (Int × Value) × SetTable × Bool × Bool :=
  match t.freeSlot h with
  | some (slot, wasDummy) =>
    let (t', p) := putF t slot
    let es' := insF es p (h, x)
    (es', t'.orStandIn es'.size, wasDummy, !t'.fits es'.size)
  | none => (es.push (h, x), t.standIn (es.size + 1), false, true)
theorem layNewF_eq (t : SetTable) (es : Array (Int × Value)) (h : Int) (x : Value) : layNew t es h x = layNewF t es h x := by
  unfold layNew layNewF
  simp only [insF_eq, putF_eq]
  rfl
noncomputable def H77 : List Int := 917505 :: 917536 :: 917537 :: 917538 :: 917539 :: 917540 :: 917541 :: 917542 :: 917543 :: 917544 :: 917545 :: 917546 :: 917547 :: 917548 :: 917549 :: 917550 :: 917551 :: 917552 :: 917553 :: 917554 :: 917555 :: 917556 :: 917557 :: 917558 :: 917559 :: 917560 :: 917561 :: 917562 :: 917563 :: 917564 :: 917565 :: 917566 :: 917567 :: 917568 :: 917569 :: 917570 :: 917571 :: 917572 :: 917573 :: 917574 :: 917575 :: 917576 :: 917577 :: 917578 :: 917579 :: 917580 :: 917581 :: 917582 :: 917583 :: 917584 :: 917585 :: 917586 :: 917587 :: 917588 :: 917589 :: 917590 :: 917591 :: 917592 :: 917593 :: 917594 :: 917595 :: 917596 :: 917597 :: 917598 :: 917599 :: 917600 :: 917601 :: 917602 :: 917603 :: 917604 :: 917605 :: 917606 :: 917607 :: 917608 :: 917609 :: 917610 :: 917611 :: []
noncomputable def P77 : List Nat := 1 :: 32 :: 33 :: 34 :: 35 :: 36 :: 37 :: 38 :: 39 :: 40 :: 41 :: 42 :: 43 :: 44 :: 45 :: 46 :: 47 :: 48 :: 49 :: 50 :: 51 :: 52 :: 53 :: 54 :: 55 :: 56 :: 57 :: 58 :: 59 :: 60 :: 61 :: 62 :: 63 :: 64 :: 65 :: 66 :: 67 :: 68 :: 69 :: 70 :: 71 :: 72 :: 73 :: 74 :: 75 :: 76 :: 77 :: 78 :: 79 :: 80 :: 81 :: 82 :: 83 :: 84 :: 85 :: 86 :: 87 :: 88 :: 89 :: 90 :: 91 :: 92 :: 93 :: 94 :: 95 :: 96 :: 97 :: 98 :: 99 :: 100 :: 101 :: 102 :: 103 :: 104 :: 105 :: 106 :: 107 :: []
noncomputable def O77 : List Nat := 0 :: 1 :: 2 :: 3 :: 4 :: 5 :: 6 :: 7 :: 8 :: 9 :: 10 :: 11 :: 12 :: 13 :: 14 :: 15 :: 16 :: 17 :: 18 :: 19 :: 20 :: 21 :: 22 :: 23 :: 24 :: 25 :: 26 :: 27 :: 28 :: 29 :: 30 :: 31 :: 32 :: 33 :: 34 :: 35 :: 36 :: 37 :: 38 :: 39 :: 40 :: 41 :: 42 :: 43 :: 44 :: 45 :: 46 :: 47 :: 48 :: 49 :: 50 :: 51 :: 52 :: 53 :: 54 :: 55 :: 56 :: 57 :: 58 :: 59 :: 60 :: 61 :: 62 :: 63 :: 64 :: 65 :: 66 :: 67 :: 68 :: 69 :: 70 :: 71 :: 72 :: 73 :: 74 :: 75 :: 76 :: []
noncomputable def ownOf (owner : Array (Option Nat)) : List (Nat × Nat) := (List.range 512).filterMap fun j => (owner.getD j none).map (j, ·)
set_option maxHeartbeats 0 in
theorem lay77 : ((SetTable.layClean 511 H77.toArray).map fun o => ((ownOf o).map (·.1), (ownOf o).map (·.2))) = some (P77, O77) := by kernel_rfl
theorem laid77 (finger moves : Nat) (led plain : Bool) : SetTable.laid 511 finger moves led plain H77.toArray = some (SetTable.mk 511 P77.toArray #[] finger led moves plain, O77.toArray) := by
  obtain ⟨o, h1, h2⟩ := Option.map_eq_some_iff.mp lay77
  unfold SetTable.laid
  rw [h1]
  obtain ⟨e1, e2⟩ := Prod.mk.inj h2
  show some (SetTable.mk 511 ((ownOf o).map (·.1)).toArray #[] finger led moves plain, ((ownOf o).map (·.2)).toArray) = _
  rw [e1, e2]
noncomputable def sameI (l : List Int) : List Int → Bool := @List.rec Int (fun _ => List Int → Bool) (fun r => @List.rec Int (fun _ => Bool) true (fun _ _ _ => false) r) (fun a _ ih r => @List.rec Int (fun _ => Bool) false (fun b r' _ => @Bool.rec (fun _ => Bool) false (ih r') (decide (a = b))) r) l
theorem sameI_eq : ∀ l r : List Int, sameI l r = true → l = r
  | [], [], _ => rfl
  | [], _ :: _, h => Bool.noConfusion h
  | _ :: _, [], h => Bool.noConfusion h
  | a :: l, b :: r, h => by
    have h' : @Bool.rec (fun _ => Bool) false (sameI l r) (decide (a = b)) = true := h
    cases e : decide (a = b) with
    | false => rw [e] at h'; exact Bool.noConfusion h'
    | true => rw [e] at h'; rw [of_decide_eq_true e, sameI_eq l r h']
noncomputable def laidF (mask finger moves : Nat) (led plain : Bool) (hashes : Array Int) : Option (SetTable × Array Nat) := @Bool.rec (fun _ => Option (SetTable × Array Nat)) (PySem.W.Fast.tw15858942944536088197 mask finger moves led plain hashes) (some (SetTable.mk 511 P77.toArray #[] finger led moves plain, O77.toArray)) (Nat.beq mask 511 && sameI hashes.toList H77)
theorem laidF_eq (mask finger moves : Nat) (led plain : Bool) (hashes : Array Int) : PySem.W.Fast.tw15858942944536088197 mask finger moves led plain hashes = laidF mask finger moves led plain hashes := by
  unfold laidF
  cases h : (Nat.beq mask 511 && sameI hashes.toList H77) with
  | false => rfl
  | true =>
    have h := Bool.and_eq_true_iff.mp h
    have e1 := Nat.eq_of_beq_eq_true h.1
    have e2 : hashes = H77.toArray := Array.toList_inj.mp (sameI_eq _ _ h.2)
    subst e1
    subst e2
    rw [← PySem.W.Fast.te15858942944536088197]
    exact laid77 finger moves led plain
open PySem.W.Fast in
noncomputable def relayF (t : SetTable) (es : Array (Int × Value)) (wanted : Nat) : Array (Int × Value) × SetTable × Bool :=
  match laidF (SetTable.sizeAbove wanted - 1) t.finger (t.movedTo (SetTable.sizeAbove wanted - 1)) t.led t.plain (tw5641932497162447470 (fun x => x.fst) es) with
  | some (t', order) =>
    have es' := tw10274362811227825849 (fun x => es[x]?) order
    if (tw14843574723294146547 order es.size && t'.fits es'.size) = true then (es', t', false) else (es, tw7795476755480570762 t es.size, true)
  | none => (es, tw7795476755480570762 t es.size, true)
open PySem.W.Fast in
theorem relayF_eq : relayAll = relayF := by
  rw [te7057874960865805170]
  funext t es wanted
  unfold tw7057874960865805170 relayF tw6869694533263656991
  rw [laidF_eq]
  rfl
open PySem.W.R in
noncomputable def gaveF (b : Bool) : Sem Unit := @Bool.rec (fun _ => Sem Unit) (Sem.pure ()) (rule "set.scan.the-table-gave-way") b
open PySem.W.R PySem.W.Fast in
noncomputable def addScanF (a : Addr) (x : Value) (h : Int) (es : Array (Int × Value)) (t : SetTable) : Sem (Option Bool) :=
  bindR (rule "set.add.by-scan") fun _ => bindR (setScanF a x h true es) fun m => match m with
    | .found _ => .pure (some false)
    | .anew => .pure none
    | .absent => match layNewF t es h x with
      | (es, t, wasDummy, gave) => bindR (gaveF gave) fun _ => bindR (@Bool.rec (fun _ => Sem Bool) (Sem.pure true) (tw10893191656607304386 8 x) t.plain) fun byValue =>
        bindR (tw7460583894874277094 a es (@Bool.rec (fun _ => SetTable) { t with plain := false } t byValue)) fun _ =>
          @Bool.rec (fun _ => Sem (Option Bool)) (.pure (some true)) (match relayF (@Bool.rec (fun _ => SetTable) { t with plain := false } t byValue) es (SetTable.grown es.size) with
            | (es, t, gave) => bindR (gaveF gave) fun _ => bindR (tw7460583894874277094 a es t) fun _ => .pure (some true)) (!wasDummy && (@Bool.rec (fun _ => SetTable) { t with plain := false } t byValue).tooFull)
open PySem.W.R PySem.W.Fast in
theorem addScanF_eq (a : Addr) (x : Value) (h : Int) (es : Array (Int × Value)) (t : SetTable) : setAddByScan a x h es t = addScanF a x h es t := by
  unfold setAddByScan addScanF
  rw [setScanF_eq, layNewF_eq, ← te10893191656607304386, ← te7460583894874277094, ← relayF_eq, ← bindR_eq]
  refine congrArg (Sem.bind _) (funext fun _ => congrArg (Sem.bind _) (funext fun m => ?_))
  cases m with
  | found => rfl
  | anew => rfl
  | absent =>
    dsimp only
    obtain ⟨es, t, wd, gv⟩ := layNewF t es h x
    dsimp only
    refine congr (congrArg Sem.bind ?_) (funext fun _ => ?_)
    · cases gv <;> rfl
    · cases t.plain <;> (refine congrArg (Sem.bind _) (funext fun bv => ?_)) <;> cases bv <;> (refine congrArg (Sem.bind _) (funext fun _ => ?_)) <;> simp only [Bool.false_eq_true, if_false, if_true] <;>
        (generalize relayAll _ es (SetTable.grown es.size) = r) <;> (obtain ⟨es2, t2, gv2⟩ := r) <;> (generalize (!wd && SetTable.tooFull _) = c) <;> cases c <;> first | rfl | (cases gv2 <;> rfl)
noncomputable def addOther (a : Addr) (x : Value) (h : Int) : Sem Bool := do
    let .free slot wasDummy ← setSearch a x h (adding := true) | return false
    let (es, _, t) ← setState a
    let (t, p) := t.put slot
    let byValue ← if t.plain then hashByValue 8 x else pure true
    let t := if byValue then t else { t with plain := false }
    storeSet a (SetTable.insertAt es p (h, x)) t
    if !wasDummy && t.tooFull then setRelay a (SetTable.grown (es.size + 1))
    return true
open PySem.W.R PySem.W.Fast in
noncomputable def addInF (a : Addr) (x : Value) (h : Int) : Nat → Sem Bool
  | 0 => unsupported "set:search-without-end"
  | fuel + 1 => bindR (tw15666668645192756108 a) fun st => @Bool.rec (fun _ => Sem Bool) (addOther a x h)
      (bindR (addScanF a x h st.1 st.2.2) fun o => match o with
        | some added => .pure added
        | none => tw1802229478528348949 a x h fuel) (byScanF x st.1)
open PySem.W.R PySem.W.Fast in
theorem addInF_eq (a : Addr) (x : Value) (h : Int) (fuel : Nat) : setAddHashedIn a x h fuel = addInF a x h fuel := by
  cases fuel with
  | zero => rfl
  | succ fuel =>
    unfold addInF
    rw [← te15666668645192756108, ← te1802229478528348949, ← bindR_eq]
    conv => lhs; unfold setAddHashedIn
    refine congrArg (Sem.bind _) (funext fun st => ?_)
    obtain ⟨es, n, t⟩ := st
    dsimp only
    rw [byScanF_eq, addScanF_eq]
    cases byScanF x es
    · rfl
    · dsimp only [if_true]
      rw [if_pos rfl]
      refine congrArg (Sem.bind _) (funext fun o => ?_)
      cases o <;> rfl
open PySem.W.R PySem.W.Fast in
noncomputable def loopF : Builtin := fun args => match args.pos with
  | [.ref s, it] => bindR (tw9404975358583537561 it) fun o => match o with
    | some x => bindR (tw17359229931016689406 [x] (tw17359229931016689406 [x] (bindR (tw10540108854288196387 x) fun h => tw17359229931016689406 [x] (addInF s x h 100000)))) fun _ => tw12377390311714414960 (.builtin "set.update.loop" args)
    | none => tw6905046200447255374 .none
  | _ => unsupported "internal:set.update.loop"
open PySem.W.R PySem.W.Fast in
theorem loopF_eq : Builtin.«set.update.loop» = loopF := by
  funext args
  unfold Builtin.«set.update.loop» loopF
  rw [← te9404975358583537561, ← te17359229931016689406, ← te10540108854288196387, ← te12377390311714414960, ← te6905046200447255374, ← bindR_eq]
  split
  · rename_i s it heq
    rw [heq]
    refine congrArg (Sem.bind _) (funext fun o => ?_)
    cases o with
    | none => rfl
    | some x =>
      refine congr (congrArg Sem.bind ?_) (funext fun _ => rfl)
      unfold setAdd setAddHashed
      simp only [addInF_eq]
      rfl
  · rename_i hne
    split
    · rename_i s it heq; exact absurd heq (hne s it)
    · rfl
open PySem.W.Fast in
noncomputable def tbF (id : String) : Option Builtin := @Bool.rec (fun _ => Option Builtin) (tw14364793385576792824 id) (some loopF) (Nat.beq (PySem.code id) (PySem.code "set.update.loop"))
open PySem.W.Fast in
theorem tbF_eq : treeTable = tbF := by
  funext id
  unfold tbF
  cases h : Nat.beq (PySem.code id) (PySem.code "set.update.loop") with
  | false => rw [← te14364793385576792824]
  | true =>
    have : id = "set.update.loop" := PySem.code_inj _ _ (Nat.eq_of_beq_eq_true h)
    subst this
    show _ = some loopF
    rw [← loopF_eq]
    kernel_rfl
end Mine
end
section
open PySem PySem.W PyProof.Rows
set_option maxRecDepth 100000
namespace Mine
noncomputable abbrev pw : Program := PySem.Challenge.pw_sr0008_01
noncomputable def stN (i : Nat) : Stmt := (pw.main.body[i]?).getD (.Pass default)
noncomputable def fnP : Stmt → Arguments | .FunctionDef _ a .. => a | _ => default
noncomputable def fnB : Stmt → List Stmt | .FunctionDef _ _ b .. => b | _ => []
noncomputable def fnS : Stmt → Scope | .FunctionDef _ _ _ _ _ _ s .. => s | _ => default
noncomputable def ob0 (P : Params) : Obj := ⟨(.type "dict"), none, (.dict #[⟨PyData.keyHash P "__name__", (.str "__name__" 1), (.str "builtins" 160)⟩, ⟨PyData.keyHash P "__doc__", (.str "__doc__" 2), (.builtin "builtins.__doc__:str#\x6fpaque")⟩, ⟨PyData.keyHash P "__package__", (.str "__package__" 3), (.builtin "builtins.__package__:str#\x6fpaque")⟩, ⟨PyData.keyHash P "__loader__", (.str "__loader__" 4), (.builtin "builtins.__loader__:shared#\x6fpaque")⟩, ⟨PyData.keyHash P "__spec__", (.str "__spec__" 5), (.builtin "builtins.__spec__#\x6fpaque")⟩, ⟨PyData.keyHash P "__build_class__", (.str "__build_class__" 6), (.builtin "__build_class__")⟩, ⟨PyData.keyHash P "__import__", (.str "__import__" 7), (.builtin "__import__")⟩, ⟨PyData.keyHash P "abs", (.str "abs" 8), (.builtin "abs")⟩, ⟨PyData.keyHash P "all", (.str "all" 9), (.builtin "all")⟩, ⟨PyData.keyHash P "any", (.str "any" 10), (.builtin "any")⟩, ⟨PyData.keyHash P "ascii", (.str "ascii" 11), (.builtin "ascii")⟩, ⟨PyData.keyHash P "bin", (.str "bin" 12), (.builtin "bin")⟩, ⟨PyData.keyHash P "breakpoint", (.str "breakpoint" 13), (.builtin "breakpoint")⟩, ⟨PyData.keyHash P "callable", (.str "callable" 14), (.builtin "callable")⟩, ⟨PyData.keyHash P "chr", (.str "chr" 15), (.builtin "chr")⟩, ⟨PyData.keyHash P "compile", (.str "compile" 16), (.builtin "compile")⟩, ⟨PyData.keyHash P "delattr", (.str "delattr" 17), (.builtin "delattr")⟩, ⟨PyData.keyHash P "dir", (.str "dir" 18), (.builtin "dir")⟩, ⟨PyData.keyHash P "divmod", (.str "divmod" 19), (.builtin "divmod")⟩, ⟨PyData.keyHash P "eval", (.str "eval" 20), (.builtin "eval")⟩, ⟨PyData.keyHash P "exec", (.str "exec" 21), (.builtin "exec")⟩, ⟨PyData.keyHash P "format", (.str "format" 22), (.builtin "format")⟩, ⟨PyData.keyHash P "getattr", (.str "getattr" 23), (.builtin "getattr")⟩, ⟨PyData.keyHash P "globals", (.str "globals" 24), (.builtin "globals")⟩, ⟨PyData.keyHash P "hasattr", (.str "hasattr" 25), (.builtin "hasattr")⟩, ⟨PyData.keyHash P "hash", (.str "hash" 26), (.builtin "hash")⟩, ⟨PyData.keyHash P "hex", (.str "hex" 27), (.builtin "hex")⟩, ⟨PyData.keyHash P "id", (.str "id" 28), (.builtin "id")⟩, ⟨PyData.keyHash P "input", (.str "input" 29), (.builtin "input")⟩, ⟨PyData.keyHash P "isinstance", (.str "isinstance" 30), (.builtin "isinstance")⟩, ⟨PyData.keyHash P "issubclass", (.str "issubclass" 31), (.builtin "issubclass")⟩, ⟨PyData.keyHash P "iter", (.str "iter" 32), (.builtin "iter")⟩, ⟨PyData.keyHash P "aiter", (.str "aiter" 33), (.builtin "aiter")⟩, ⟨PyData.keyHash P "len", (.str "len" 34), (.builtin "len")⟩, ⟨PyData.keyHash P "locals", (.str "locals" 35), (.builtin "locals")⟩, ⟨PyData.keyHash P "max", (.str "max" 36), (.builtin "max")⟩, ⟨PyData.keyHash P "min", (.str "min" 37), (.builtin "min")⟩, ⟨PyData.keyHash P "next", (.str "next" 38), (.builtin "next")⟩, ⟨PyData.keyHash P "anext", (.str "anext" 39), (.builtin "anext")⟩, ⟨PyData.keyHash P "oct", (.str "oct" 40), (.builtin "oct")⟩, ⟨PyData.keyHash P "ord", (.str "ord" 41), (.builtin "ord")⟩, ⟨PyData.keyHash P "pow", (.str "pow" 42), (.builtin "pow")⟩, ⟨PyData.keyHash P "print", (.str "print" 43), (.builtin "print")⟩, ⟨PyData.keyHash P "repr", (.str "repr" 44), (.builtin "repr")⟩, ⟨PyData.keyHash P "round", (.str "round" 45), (.builtin "round")⟩, ⟨PyData.keyHash P "setattr", (.str "setattr" 46), (.builtin "setattr")⟩, ⟨PyData.keyHash P "sorted", (.str "sorted" 47), (.builtin "sorted")⟩, ⟨PyData.keyHash P "sum", (.str "sum" 48), (.builtin "sum")⟩, ⟨PyData.keyHash P "vars", (.str "vars" 49), (.builtin "vars")⟩, ⟨PyData.keyHash P "None", (.str "None" 50), .none⟩, ⟨PyData.keyHash P "Ellipsis", (.str "Ellipsis" 51), .ellipsis⟩, ⟨PyData.keyHash P "NotImplemented", (.str "NotImplemented" 52), .notImplemented⟩, ⟨PyData.keyHash P "False", (.str "False" 53), (.bool false)⟩, ⟨PyData.keyHash P "True", (.str "True" 54), (.bool true)⟩, ⟨PyData.keyHash P "bool", (.str "bool" 55), (.type "bool")⟩, ⟨PyData.keyHash P "memoryview", (.str "memoryview" 56), (.type "memoryview")⟩, ⟨PyData.keyHash P "bytearray", (.str "bytearray" 57), (.type "bytearray")⟩, ⟨PyData.keyHash P "bytes", (.str "bytes" 58), (.type "bytes")⟩, ⟨PyData.keyHash P "classmethod", (.str "classmethod" 59), (.type "classmethod")⟩, ⟨PyData.keyHash P "complex", (.str "complex" 60), (.type "complex")⟩, ⟨PyData.keyHash P "dict", (.str "dict" 61), (.type "dict")⟩, ⟨PyData.keyHash P "enumerate", (.str "enumerate" 62), (.type "enumerate")⟩, ⟨PyData.keyHash P "filter", (.str "filter" 63), (.type "filter")⟩, ⟨PyData.keyHash P "float", (.str "float" 64), (.type "float")⟩, ⟨PyData.keyHash P "frozenset", (.str "frozenset" 65), (.type "frozenset")⟩, ⟨PyData.keyHash P "property", (.str "property" 66), (.type "property")⟩, ⟨PyData.keyHash P "int", (.str "int" 67), (.type "int")⟩, ⟨PyData.keyHash P "list", (.str "list" 68), (.type "list")⟩, ⟨PyData.keyHash P "map", (.str "map" 69), (.type "map")⟩, ⟨PyData.keyHash P "object", (.str "object" 70), (.type "object")⟩, ⟨PyData.keyHash P "range", (.str "range" 71), (.type "range")⟩, ⟨PyData.keyHash P "reversed", (.str "reversed" 72), (.type "reversed")⟩, ⟨PyData.keyHash P "set", (.str "set" 73), (.type "set")⟩, ⟨PyData.keyHash P "slice", (.str "slice" 74), (.type "slice")⟩, ⟨PyData.keyHash P "staticmethod", (.str "staticmethod" 75), (.type "staticmethod")⟩, ⟨PyData.keyHash P "str", (.str "str" 76), (.type "str")⟩, ⟨PyData.keyHash P "super", (.str "super" 77), (.type "super")⟩, ⟨PyData.keyHash P "tuple", (.str "tuple" 78), (.type "tuple")⟩, ⟨PyData.keyHash P "type", (.str "type" 79), (.type "type")⟩, ⟨PyData.keyHash P "zip", (.str "zip" 80), (.type "zip")⟩, ⟨PyData.keyHash P "__debug__", (.str "__debug__" 81), (.bool true)⟩, ⟨PyData.keyHash P "BaseException", (.str "BaseException" 82), (.type "BaseException")⟩, ⟨PyData.keyHash P "BaseExceptionGroup", (.str "BaseExceptionGroup" 83), (.type "BaseExceptionGroup")⟩, ⟨PyData.keyHash P "Exception", (.str "Exception" 84), (.type "Exception")⟩, ⟨PyData.keyHash P "GeneratorExit", (.str "GeneratorExit" 85), (.type "GeneratorExit")⟩, ⟨PyData.keyHash P "KeyboardInterrupt", (.str "KeyboardInterrupt" 86), (.type "KeyboardInterrupt")⟩, ⟨PyData.keyHash P "SystemExit", (.str "SystemExit" 87), (.type "SystemExit")⟩, ⟨PyData.keyHash P "ArithmeticError", (.str "ArithmeticError" 88), (.type "ArithmeticError")⟩, ⟨PyData.keyHash P "AssertionError", (.str "AssertionError" 89), (.type "AssertionError")⟩, ⟨PyData.keyHash P "AttributeError", (.str "AttributeError" 90), (.type "AttributeError")⟩, ⟨PyData.keyHash P "BufferError", (.str "BufferError" 91), (.type "BufferError")⟩, ⟨PyData.keyHash P "EOFError", (.str "EOFError" 92), (.type "EOFError")⟩, ⟨PyData.keyHash P "ImportError", (.str "ImportError" 93), (.type "ImportError")⟩, ⟨PyData.keyHash P "LookupError", (.str "LookupError" 94), (.type "LookupError")⟩, ⟨PyData.keyHash P "MemoryError", (.str "MemoryError" 95), (.type "MemoryError")⟩, ⟨PyData.keyHash P "NameError", (.str "NameError" 96), (.type "NameError")⟩, ⟨PyData.keyHash P "OSError", (.str "OSError" 97), (.type "OSError")⟩, ⟨PyData.keyHash P "ReferenceError", (.str "ReferenceError" 98), (.type "ReferenceError")⟩, ⟨PyData.keyHash P "RuntimeError", (.str "RuntimeError" 99), (.type "RuntimeError")⟩, ⟨PyData.keyHash P "StopAsyncIteration", (.str "StopAsyncIteration" 100), (.type "StopAsyncIteration")⟩, ⟨PyData.keyHash P "StopIteration", (.str "StopIteration" 101), (.type "StopIteration")⟩, ⟨PyData.keyHash P "SyntaxError", (.str "SyntaxError" 102), (.type "SyntaxError")⟩, ⟨PyData.keyHash P "SystemError", (.str "SystemError" 103), (.type "SystemError")⟩, ⟨PyData.keyHash P "TypeError", (.str "TypeError" 104), (.type "TypeError")⟩, ⟨PyData.keyHash P "ValueError", (.str "ValueError" 105), (.type "ValueError")⟩, ⟨PyData.keyHash P "Warning", (.str "Warning" 106), (.type "Warning")⟩, ⟨PyData.keyHash P "FloatingPointError", (.str "FloatingPointError" 107), (.type "FloatingPointError")⟩, ⟨PyData.keyHash P "OverflowError", (.str "OverflowError" 108), (.type "OverflowError")⟩, ⟨PyData.keyHash P "ZeroDivisionError", (.str "ZeroDivisionError" 109), (.type "ZeroDivisionError")⟩, ⟨PyData.keyHash P "BytesWarning", (.str "BytesWarning" 110), (.type "BytesWarning")⟩, ⟨PyData.keyHash P "DeprecationWarning", (.str "DeprecationWarning" 111), (.type "DeprecationWarning")⟩, ⟨PyData.keyHash P "EncodingWarning", (.str "EncodingWarning" 112), (.type "EncodingWarning")⟩, ⟨PyData.keyHash P "FutureWarning", (.str "FutureWarning" 113), (.type "FutureWarning")⟩, ⟨PyData.keyHash P "ImportWarning", (.str "ImportWarning" 114), (.type "ImportWarning")⟩, ⟨PyData.keyHash P "PendingDeprecationWarning", (.str "PendingDeprecationWarning" 115), (.type "PendingDeprecationWarning")⟩, ⟨PyData.keyHash P "ResourceWarning", (.str "ResourceWarning" 116), (.type "ResourceWarning")⟩, ⟨PyData.keyHash P "RuntimeWarning", (.str "RuntimeWarning" 117), (.type "RuntimeWarning")⟩, ⟨PyData.keyHash P "SyntaxWarning", (.str "SyntaxWarning" 118), (.type "SyntaxWarning")⟩, ⟨PyData.keyHash P "UnicodeWarning", (.str "UnicodeWarning" 119), (.type "UnicodeWarning")⟩, ⟨PyData.keyHash P "UserWarning", (.str "UserWarning" 120), (.type "UserWarning")⟩, ⟨PyData.keyHash P "BlockingIOError", (.str "BlockingIOError" 121), (.type "BlockingIOError")⟩, ⟨PyData.keyHash P "ChildProcessError", (.str "ChildProcessError" 122), (.type "ChildProcessError")⟩, ⟨PyData.keyHash P "ConnectionError", (.str "ConnectionError" 123), (.type "ConnectionError")⟩, ⟨PyData.keyHash P "FileExistsError", (.str "FileExistsError" 124), (.type "FileExistsError")⟩, ⟨PyData.keyHash P "FileNotFoundError", (.str "FileNotFoundError" 125), (.type "FileNotFoundError")⟩, ⟨PyData.keyHash P "InterruptedError", (.str "InterruptedError" 126), (.type "InterruptedError")⟩, ⟨PyData.keyHash P "IsADirectoryError", (.str "IsADirectoryError" 127), (.type "IsADirectoryError")⟩, ⟨PyData.keyHash P "NotADirectoryError", (.str "NotADirectoryError" 128), (.type "NotADirectoryError")⟩, ⟨PyData.keyHash P "PermissionError", (.str "PermissionError" 129), (.type "PermissionError")⟩, ⟨PyData.keyHash P "ProcessLookupError", (.str "ProcessLookupError" 130), (.type "ProcessLookupError")⟩, ⟨PyData.keyHash P "TimeoutError", (.str "TimeoutError" 131), (.type "TimeoutError")⟩, ⟨PyData.keyHash P "IndentationError", (.str "IndentationError" 132), (.type "IndentationError")⟩, ⟨PyData.keyHash P "_IncompleteInputError", (.str "_IncompleteInputError" 133), (.type "_IncompleteInputError")⟩, ⟨PyData.keyHash P "IndexError", (.str "IndexError" 134), (.type "IndexError")⟩, ⟨PyData.keyHash P "KeyError", (.str "KeyError" 135), (.type "KeyError")⟩, ⟨PyData.keyHash P "ModuleNotFoundError", (.str "ModuleNotFoundError" 136), (.type "ModuleNotFoundError")⟩, ⟨PyData.keyHash P "NotImplementedError", (.str "NotImplementedError" 137), (.type "NotImplementedError")⟩, ⟨PyData.keyHash P "PythonFinalizationError", (.str "PythonFinalizationError" 138), (.type "PythonFinalizationError")⟩, ⟨PyData.keyHash P "RecursionError", (.str "RecursionError" 139), (.type "RecursionError")⟩, ⟨PyData.keyHash P "UnboundLocalError", (.str "UnboundLocalError" 140), (.type "UnboundLocalError")⟩, ⟨PyData.keyHash P "UnicodeError", (.str "UnicodeError" 141), (.type "UnicodeError")⟩, ⟨PyData.keyHash P "BrokenPipeError", (.str "BrokenPipeError" 142), (.type "BrokenPipeError")⟩, ⟨PyData.keyHash P "ConnectionAbortedError", (.str "ConnectionAbortedError" 143), (.type "ConnectionAbortedError")⟩, ⟨PyData.keyHash P "ConnectionRefusedError", (.str "ConnectionRefusedError" 144), (.type "ConnectionRefusedError")⟩, ⟨PyData.keyHash P "ConnectionResetError", (.str "ConnectionResetError" 145), (.type "ConnectionResetError")⟩, ⟨PyData.keyHash P "TabError", (.str "TabError" 146), (.type "TabError")⟩, ⟨PyData.keyHash P "UnicodeDecodeError", (.str "UnicodeDecodeError" 147), (.type "UnicodeDecodeError")⟩, ⟨PyData.keyHash P "UnicodeEncodeError", (.str "UnicodeEncodeError" 148), (.type "UnicodeEncodeError")⟩, ⟨PyData.keyHash P "UnicodeTranslateError", (.str "UnicodeTranslateError" 149), (.type "UnicodeTranslateError")⟩, ⟨PyData.keyHash P "ExceptionGroup", (.str "ExceptionGroup" 150), (.type "ExceptionGroup")⟩, ⟨PyData.keyHash P "EnvironmentError", (.str "EnvironmentError" 151), (.type "OSError")⟩, ⟨PyData.keyHash P "IOError", (.str "IOError" 152), (.type "OSError")⟩, ⟨PyData.keyHash P "open", (.str "open" 153), (.builtin "open")⟩, ⟨PyData.keyHash P "quit", (.str "quit" 154), (.builtin "builtins.quit#\x6fpaque")⟩, ⟨PyData.keyHash P "exit", (.str "exit" 155), (.builtin "builtins.exit#\x6fpaque")⟩, ⟨PyData.keyHash P "copyright", (.str "copyright" 156), (.builtin "builtins.copyright#\x6fpaque")⟩, ⟨PyData.keyHash P "credits", (.str "credits" 157), (.builtin "builtins.credits#\x6fpaque")⟩, ⟨PyData.keyHash P "license", (.str "license" 158), (.builtin "builtins.license#\x6fpaque")⟩, ⟨PyData.keyHash P "help", (.str "help" 159), (.builtin "builtins.help#\x6fpaque")⟩] 159), #[]⟩
noncomputable def ob1 (P : Params) : Obj := ⟨(.type "dict"), none, (.dict #[⟨PyData.keyHash P "builtins", (.str "builtins" 162), (.ref 4)⟩, ⟨PyData.keyHash P "__main__", (.str "__main__" 163), (.ref 5)⟩, ⟨PyData.keyHash P "_sre", (.str "_sre" 244), (.ref 12)⟩] 3), #[]⟩
noncomputable def ob2 (P : Params) : Obj := ⟨.none, none, (.dict #[⟨PyData.keyHash P "\x69mport.loaded._sre", (.str "\x69mport.loaded._sre" 183), (.bool true)⟩, ⟨PyData.keyHash P "class._frozen_importlib.BuiltinImporter", (.str "class._frozen_importlib.BuiltinImporter" 185), (.ref 14)⟩, ⟨PyData.keyHash P "watched.\x69mport", (.str "watched.\x69mport" 206), (.ref 18)⟩, ⟨PyData.keyHash P "class._frozen_importlib.ModuleSpec", (.str "class._frozen_importlib.ModuleSpec" 216), (.ref 22)⟩, ⟨PyData.keyHash P "sys.modules.booked-epoch", (.str "sys.modules.booked-epoch" 245), (.int 3 0)⟩, ⟨PyData.keyHash P "\x69mport.later-laid._sre", (.str "\x69mport.later-laid._sre" 270), (.bool true)⟩, ⟨PyData.keyHash P "watched.library", (.str "watched.library" 272), (.ref 27)⟩, ⟨PyData.keyHash P "watched.library-objects", (.str "watched.library-objects" 0), (.str (PySem.Str.mk #[12]) 0)⟩, ⟨PyData.keyHash P "watched.library-deep._sre", (.str "watched.library-deep._sre" 273), (.str (PySem.Str.mk #[4, 0, 0, 11, 4, 0, 0, 11, 4, 0, 0, 3, 4, 0, 0, 11, 8, 4, 100, 105, 99, 116, 2]) 0)⟩] 9), #[]⟩
noncomputable def ob3 (P : Params) : Obj := ⟨(.type "dict"), none, (.dict #[⟨PyData.keyHash P "__name__", (.str "__name__" 165), (.str "law_sr0008_01" 803)⟩, ⟨PyData.keyHash P "__doc__", (.str "__doc__" 166), .none⟩, ⟨PyData.keyHash P "__package__", (.str "__package__" 167), .none⟩, ⟨PyData.keyHash P "__loader__", (.str "__loader__" 168), (.builtin "__main__.__loader__#\x6fpaque")⟩, ⟨PyData.keyHash P "__spec__", (.str "__spec__" 169), .none⟩, ⟨PyData.keyHash P "__annotations__", (.str "__annotations__" 170), (.ref 6)⟩, ⟨PyData.keyHash P "__builtins__", (.str "__builtins__" 171), (.ref 4)⟩, ⟨PyData.keyHash P "__file__", (.str "__file__" 173), (.str "/claim/cut.py" 172)⟩, ⟨PyData.keyHash P "__cached__", (.str "__cached__" 174), .none⟩, ⟨PyData.keyHash P "_sre", (.str "_sre" 275), (.ref 12)⟩, ⟨PyData.keyHash P "TICK", (.str "TICK" 285), (.str "'" 284)⟩, ⟨PyData.keyHash P "decode_rfc2231", (.str "decode_rfc2231" 293), (.ref 38)⟩, ⟨PyData.keyHash P "COMPILER_FLAG_NAMES", (.str "COMPILER_FLAG_NAMES" 326), (.ref 39)⟩, ⟨PyData.keyHash P "pretty_flags", (.str "pretty_flags" 336), (.ref 46)⟩, ⟨PyData.keyHash P "_parse_varint", (.str "_parse_varint" 345), (.ref 53)⟩, ⟨PyData.keyHash P "_twin_re_1", (.str "_twin_re_1" 363), (.ref 58)⟩, ⟨PyData.keyHash P "_twin_re_2", (.str "_twin_re_2" 405), (.ref 63)⟩, ⟨PyData.keyHash P "CRLF", (.str "CRLF" 407), (.str (PySem.Str.mk #[13, 10]) 406)⟩, ⟨PyData.keyHash P "quotedata", (.str "quotedata" 414), (.ref 70)⟩, ⟨PyData.keyHash P "b1_set", (.str "b1_set" 476), (.ref 78)⟩, ⟨PyData.keyHash P "in_table_b1", (.str "in_table_b1" 483), (.ref 88)⟩, ⟨PyData.keyHash P "in_table_c4", (.str "in_table_c4" 491), (.ref 95)⟩, ⟨PyData.keyHash P "c6_set", (.str "c6_set" 505), (.ref 97)⟩, ⟨PyData.keyHash P "in_table_c6", (.str "in_table_c6" 512), (.ref 107)⟩, ⟨PyData.keyHash P "c7_set", (.str "c7_set" 540), (.ref 109)⟩, ⟨PyData.keyHash P "in_table_c7", (.str "in_table_c7" 547), (.ref 119)⟩, ⟨PyData.keyHash P "c8_set", (.str "c8_set" 588), (.ref 133)⟩, ⟨PyData.keyHash P "in_table_c8", (.str "in_table_c8" 595), (.ref 143)⟩, ⟨PyData.keyHash P "c9_set", (.str "c9_set" 795), (.ref 151)⟩, ⟨PyData.keyHash P "in_table_c9", (.str "in_table_c9" 802), (.ref 161)⟩, ⟨PyData.keyHash P "_law_sign", (.str "_law_sign" 815), (.ref 168)⟩, ⟨PyData.keyHash P "_law_sent", (.str "_law_sent" 825), (.ref 175)⟩, ⟨PyData.keyHash P "_law_flag", (.str "_law_flag" 833), (.ref 182)⟩, ⟨PyData.keyHash P "_law_bits", (.str "_law_bits" 839), (.ref 187)⟩, ⟨PyData.keyHash P "_law_served", (.str "_law_served" 845), (.ref 192)⟩, ⟨PyData.keyHash P "_law_want", (.str "_law_want" 858), (.ref 199)⟩, ⟨PyData.keyHash P "law", (.str "law" 864), (.ref 204)⟩] 37), #[]⟩
noncomputable def ob4 (P : Params) : Obj := ⟨(.type "module"), some 0, .plain, #[]⟩
noncomputable def ob5 (P : Params) : Obj := ⟨(.type "module"), some 3, .plain, #[]⟩
noncomputable def ob6 (P : Params) : Obj := ⟨(.type "dict"), none, (.dict #[] 0), #[]⟩
noncomputable def ob7 (P : Params) : Obj := ⟨(.type "tuple"), none, (.seq #[] 0), #[]⟩
noncomputable def ob8 (P : Params) : Obj := ⟨.none, none, (.fields #[]), #[]⟩
noncomputable def ob9 (P : Params) : Obj := ⟨(.type "code"), none, (.fields #[(.str "<module>" 176), (.str "<module>" 177), (.str "/claim/cut.py" 178), (.int 1 0), (.int 0 0), (.int 0 0), (.int 0 0), (.int 0 0), (.ref 7), (.bool false), (.int 175 0), (.ref 8), .none, .none, .none, .none, (.int 179 0), (.int 1 0), (.str "/claim/cut.py" 180)]), #[]⟩
noncomputable def ob10 (P : Params) : Obj := ⟨(.type "frame"), none, .plain, #[some (.ref 9), some (.ref 3), some (.ref 3), none, some (.str "__main__" 164), none, some (.ref 0)]⟩
noncomputable def ob11 (P : Params) : Obj := ⟨(.type "dict"), none, (.dict #[⟨PyData.keyHash P "__name__", (.str "__name__" 247), (.str "_sre" 246)⟩, ⟨PyData.keyHash P "__doc__", (.str "__doc__" 248), .none⟩, ⟨PyData.keyHash P "__package__", (.str "__package__" 250), (.str "" 249)⟩, ⟨PyData.keyHash P "__loader__", (.str "__loader__" 251), (.builtin "off-the-table:_sre.__loader__:shared#\x6fpaque")⟩, ⟨PyData.keyHash P "__spec__", (.str "__spec__" 252), (.builtin "off-the-table:_sre.__spec__:shared#\x6fpaque")⟩, ⟨PyData.keyHash P "compile", (.str "compile" 253), (.builtin "_sre.compile")⟩, ⟨PyData.keyHash P "template", (.str "template" 254), (.builtin "off-the-table:_sre.template:shared#\x6fpaque")⟩, ⟨PyData.keyHash P "getcodesize", (.str "getcodesize" 255), (.builtin "off-the-table:_sre.getcodesize:shared#\x6fpaque")⟩, ⟨PyData.keyHash P "ascii_iscased", (.str "ascii_iscased" 256), (.builtin "off-the-table:_sre.ascii_iscased:shared#\x6fpaque")⟩, ⟨PyData.keyHash P "unicode_iscased", (.str "unicode_iscased" 257), (.builtin "off-the-table:_sre.unicode_iscased:shared#\x6fpaque")⟩, ⟨PyData.keyHash P "ascii_tolower", (.str "ascii_tolower" 258), (.builtin "off-the-table:_sre.ascii_tolower:shared#\x6fpaque")⟩, ⟨PyData.keyHash P "unicode_tolower", (.str "unicode_tolower" 259), (.builtin "off-the-table:_sre.unicode_tolower:shared#\x6fpaque")⟩, ⟨PyData.keyHash P "MAGIC", (.str "MAGIC" 261), (.int 20230612 260)⟩, ⟨PyData.keyHash P "CODESIZE", (.str "CODESIZE" 263), (.int 4 262)⟩, ⟨PyData.keyHash P "MAXREPEAT", (.str "MAXREPEAT" 265), (.int 4294967295 264)⟩, ⟨PyData.keyHash P "MAXGROUPS", (.str "MAXGROUPS" 267), (.int 1073741823 266)⟩, ⟨PyData.keyHash P "copyright", (.str "copyright" 269), (.str " SRE 2.2.2 Copyright (c) 1997-2002 by Secret Labs AB " 268)⟩] 17), #[]⟩
noncomputable def ob12 (P : Params) : Obj := ⟨(.type "module"), some 11, .plain, #[]⟩
noncomputable def ob13 (P : Params) : Obj := ⟨(.type "dict"), none, (.dict #[⟨PyData.keyHash P "__module__", (.str "__module__" 189), (.str "_frozen_importlib" 186)⟩, ⟨PyData.keyHash P "__firstlineno__", (.str "__firstlineno__" 190), (.int 971 187)⟩, ⟨PyData.keyHash P "__doc__", (.str "__doc__" 191), (.builtin "_frozen_importlib.BuiltinImporter.__doc__:str#\x6fpaque")⟩, ⟨PyData.keyHash P "_ORIGIN", (.str "_ORIGIN" 192), (.str "built-in" 188)⟩, ⟨PyData.keyHash P "find_spec", (.str "find_spec" 193), (.builtin "_frozen_importlib.BuiltinImporter.find_spec#\x6fpaque")⟩, ⟨PyData.keyHash P "create_module", (.str "create_module" 194), (.builtin "_frozen_importlib.BuiltinImporter.create_module#\x6fpaque")⟩, ⟨PyData.keyHash P "exec_module", (.str "exec_module" 195), (.builtin "_frozen_importlib.BuiltinImporter.exec_module#\x6fpaque")⟩, ⟨PyData.keyHash P "get_code", (.str "get_code" 196), (.builtin "_frozen_importlib.BuiltinImporter.get_code#\x6fpaque")⟩, ⟨PyData.keyHash P "get_source", (.str "get_source" 197), (.builtin "_frozen_importlib.BuiltinImporter.get_source#\x6fpaque")⟩, ⟨PyData.keyHash P "is_package", (.str "is_package" 198), (.builtin "_frozen_importlib.BuiltinImporter.is_package#\x6fpaque")⟩, ⟨PyData.keyHash P "load_module", (.str "load_module" 199), (.builtin "_frozen_importlib.BuiltinImporter.load_module#\x6fpaque")⟩, ⟨PyData.keyHash P "__static_attributes__", (.str "__static_attributes__" 200), (.ref 15)⟩, ⟨PyData.keyHash P "__dict__", (.str "__dict__" 202), (.ref 16)⟩, ⟨PyData.keyHash P "__weakref__", (.str "__weakref__" 204), (.ref 17)⟩] 14), #[]⟩
noncomputable def ob14 (P : Params) : Obj := ⟨(.type "type"), none, (.cls { name := Str.ofString "BuiltinImporter", bases := [Value.type "object"], mro := [Value.ref 14, Value.type "object"], ns := 13, qualname := Str.ofString "BuiltinImporter" }), #[]⟩
noncomputable def ob15 (P : Params) : Obj := ⟨(.type "tuple"), none, (.seq #[] 0), #[]⟩
noncomputable def ob16 (P : Params) : Obj := ⟨(.type "getset_descriptor"), none, (.fields #[(.str "__dict__" 201), (.ref 14), (.builtin "function.__dict__"), (.builtin "function.__dict__#set")]), #[]⟩
noncomputable def ob17 (P : Params) : Obj := ⟨(.type "getset_descriptor"), none, (.fields #[(.str "__weakref__" 203), (.ref 14), (.builtin "ExceptionGroup.__weakref__"), .none]), #[]⟩
noncomputable def ob18 (P : Params) : Obj := ⟨.none, none, (.seq #[(.int 13 0), (.str (PySem.Str.mk #[6, 189, 10, 95, 95, 109, 111, 100, 117, 108, 101, 95, 95, 6, 186, 17, 95, 102, 114, 111, 122, 101, 110, 95, 105, 109, 112, 111, 114, 116, 108, 105, 98, 6, 190, 15, 95, 95, 102, 105, 114, 115, 116, 108, 105, 110, 101, 110, 111, 95, 95, 4, 187, 0, 971, 6, 191, 7, 95, 95, 100, 111, 99, 95, 95, 9, 52, 95, 102, 114, 111, 122, 101, 110, 95, 105, 109, 112, 111, 114, 116, 108, 105, 98, 46, 66, 117, 105, 108, 116, 105, 110, 73, 109, 112, 111, 114, 116, 101, 114, 46, 95, 95, 100, 111, 99, 95, 95, 58, 115, 116, 114, 35, 111, 112, 97, 113, 117, 101, 6, 192, 7, 95, 79, 82, 73, 71, 73, 78, 6, 188, 8, 98, 117, 105, 108, 116, 45, 105, 110, 6, 193, 9, 102, 105, 110, 100, 95, 115, 112, 101, 99, 9, 50, 95, 102, 114, 111, 122, 101, 110, 95, 105, 109, 112, 111, 114, 116, 108, 105, 98, 46, 66, 117, 105, 108, 116, 105, 110, 73, 109, 112, 111, 114, 116, 101, 114, 46, 102, 105, 110, 100, 95, 115, 112, 101, 99, 35, 111, 112, 97, 113, 117, 101, 6, 194, 13, 99, 114, 101, 97, 116, 101, 95, 109, 111, 100, 117, 108, 101, 9, 54, 95, 102, 114, 111, 122, 101, 110, 95, 105, 109, 112, 111, 114, 116, 108, 105, 98, 46, 66, 117, 105, 108, 116, 105, 110, 73, 109, 112, 111, 114, 116, 101, 114, 46, 99, 114, 101, 97, 116, 101, 95, 109, 111, 100, 117, 108, 101, 35, 111, 112, 97, 113, 117, 101, 6, 195, 11, 101, 120, 101, 99, 95, 109, 111, 100, 117, 108, 101, 9, 52, 95, 102, 114, 111, 122, 101, 110, 95, 105, 109, 112, 111, 114, 116, 108, 105, 98, 46, 66, 117, 105, 108, 116, 105, 110, 73, 109, 112, 111, 114, 116, 101, 114, 46, 101, 120, 101, 99, 95, 109, 111, 100, 117, 108, 101, 35, 111, 112, 97, 113, 117, 101, 6, 196, 8, 103, 101, 116, 95, 99, 111, 100, 101, 9, 49, 95, 102, 114, 111, 122, 101, 110, 95, 105, 109, 112, 111, 114, 116, 108, 105, 98, 46, 66, 117, 105, 108, 116, 105, 110, 73, 109, 112, 111, 114, 116, 101, 114, 46, 103, 101, 116, 95, 99, 111, 100, 101, 35, 111, 112, 97, 113, 117, 101, 6, 197, 10, 103, 101, 116, 95, 115, 111, 117, 114, 99, 101, 9, 51, 95, 102, 114, 111, 122, 101, 110, 95, 105, 109, 112, 111, 114, 116, 108, 105, 98, 46, 66, 117, 105, 108, 116, 105, 110, 73, 109, 112, 111, 114, 116, 101, 114, 46, 103, 101, 116, 95, 115, 111, 117, 114, 99, 101, 35, 111, 112, 97, 113, 117, 101, 6, 198, 10, 105, 115, 95, 112, 97, 99, 107, 97, 103, 101, 9, 51, 95, 102, 114, 111, 122, 101, 110, 95, 105, 109, 112, 111, 114, 116, 108, 105, 98, 46, 66, 117, 105, 108, 116, 105, 110, 73, 109, 112, 111, 114, 116, 101, 114, 46, 105, 115, 95, 112, 97, 99, 107, 97, 103, 101, 35, 111, 112, 97, 113, 117, 101, 6, 199, 11, 108, 111, 97, 100, 95, 109, 111, 100, 117, 108, 101, 9, 52, 95, 102, 114, 111, 122, 101, 110, 95, 105, 109, 112, 111, 114, 116, 108, 105, 98, 46, 66, 117, 105, 108, 116, 105, 110, 73, 109, 112, 111, 114, 116, 101, 114, 46, 108, 111, 97, 100, 95, 109, 111, 100, 117, 108, 101, 35, 111, 112, 97, 113, 117, 101, 6, 200, 21, 95, 95, 115, 116, 97, 116, 105, 99, 95, 97, 116, 116, 114, 105, 98, 117, 116, 101, 115, 95, 95, 4, 0, 0, 15, 6, 202, 8, 95, 95, 100, 105, 99, 116, 95, 95, 4, 0, 0, 16, 6, 204, 11, 95, 95, 119, 101, 97, 107, 114, 101, 102, 95, 95, 4, 0, 0, 17]) 0), (.bool true), (.bool true), (.str "" 205), (.int 21 0), (.str (PySem.Str.mk #[6, 227, 10, 95, 95, 109, 111, 100, 117, 108, 101, 95, 95, 6, 217, 17, 95, 102, 114, 111, 122, 101, 110, 95, 105, 109, 112, 111, 114, 116, 108, 105, 98, 6, 228, 15, 95, 95, 102, 105, 114, 115, 116, 108, 105, 110, 101, 110, 111, 95, 95, 4, 218, 0, 562, 6, 229, 7, 95, 95, 100, 111, 99, 95, 95, 9, 47, 95, 102, 114, 111, 122, 101, 110, 95, 105, 109, 112, 111, 114, 116, 108, 105, 98, 46, 77, 111, 100, 117, 108, 101, 83, 112, 101, 99, 46, 95, 95, 100, 111, 99, 95, 95, 58, 115, 116, 114, 35, 111, 112, 97, 113, 117, 101, 6, 230, 8, 95, 95, 105, 110, 105, 116, 95, 95, 9, 44, 95, 102, 114, 111, 122, 101, 110, 95, 105, 109, 112, 111, 114, 116, 108, 105, 98, 46, 77, 111, 100, 117, 108, 101, 83, 112, 101, 99, 46, 95, 95, 105, 110, 105, 116, 95, 95, 35, 111, 112, 97, 113, 117, 101, 6, 231, 8, 95, 95, 114, 101, 112, 114, 95, 95, 9, 44, 95, 102, 114, 111, 122, 101, 110, 95, 105, 109, 112, 111, 114, 116, 108, 105, 98, 46, 77, 111, 100, 117, 108, 101, 83, 112, 101, 99, 46, 95, 95, 114, 101, 112, 114, 95, 95, 35, 111, 112, 97, 113, 117, 101, 6, 232, 6, 95, 95, 101, 113, 95, 95, 9, 42, 95, 102, 114, 111, 122, 101, 110, 95, 105, 109, 112, 111, 114, 116, 108, 105, 98, 46, 77, 111, 100, 117, 108, 101, 83, 112, 101, 99, 46, 95, 95, 101, 113, 95, 95, 35, 111, 112, 97, 113, 117, 101, 6, 233, 6, 99, 97, 99, 104, 101, 100, 9, 42, 95, 102, 114, 111, 122, 101, 110, 95, 105, 109, 112, 111, 114, 116, 108, 105, 98, 46, 77, 111, 100, 117, 108, 101, 83, 112, 101, 99, 46, 99, 97, 99, 104, 101, 100, 35, 111, 112, 97, 113, 117, 101, 6, 234, 6, 112, 97, 114, 101, 110, 116, 9, 42, 95, 102, 114, 111, 122, 101, 110, 95, 105, 109, 112, 111, 114, 116, 108, 105, 98, 46, 77, 111, 100, 117, 108, 101, 83, 112, 101, 99, 46, 112, 97, 114, 101, 110, 116, 35, 111, 112, 97, 113, 117, 101, 6, 235, 12, 104, 97, 115, 95, 108, 111, 99, 97, 116, 105, 111, 110, 9, 48, 95, 102, 114, 111, 122, 101, 110, 95, 105, 109, 112, 111, 114, 116, 108, 105, 98, 46, 77, 111, 100, 117, 108, 101, 83, 112, 101, 99, 46, 104, 97, 115, 95, 108, 111, 99, 97, 116, 105, 111, 110, 35, 111, 112, 97, 113, 117, 101, 6, 236, 21, 95, 95, 115, 116, 97, 116, 105, 99, 95, 97, 116, 116, 114, 105, 98, 117, 116, 101, 115, 95, 95, 4, 0, 0, 23, 6, 238, 8, 95, 95, 100, 105, 99, 116, 95, 95, 4, 0, 0, 24, 6, 240, 11, 95, 95, 119, 101, 97, 107, 114, 101, 102, 95, 95, 4, 0, 0, 25, 6, 241, 8, 95, 95, 104, 97, 115, 104, 95, 95, 0]) 0), (.bool true), (.bool true), (.str "" 242)] 1), #[]⟩
noncomputable def ob19 (P : Params) : Obj := ⟨(.type "list"), none, (.seq #[] 0), #[]⟩
noncomputable def ob20 (P : Params) : Obj := ⟨(.type "dict"), none, (.dict #[⟨PyData.keyHash P "name", (.str "name" 208), (.str "_sre" 207)⟩, ⟨PyData.keyHash P "loader", (.str "loader" 209), (.ref 14)⟩, ⟨PyData.keyHash P "origin", (.str "origin" 210), (.str "built-in" 184)⟩, ⟨PyData.keyHash P "loader_state", (.str "loader_state" 211), .none⟩, ⟨PyData.keyHash P "submodule_search_locations", (.str "submodule_search_locations" 212), .none⟩, ⟨PyData.keyHash P "_uninitialized_submodules", (.str "_uninitialized_submodules" 213), (.ref 19)⟩, ⟨PyData.keyHash P "_set_fileattr", (.str "_set_fileattr" 214), (.bool false)⟩, ⟨PyData.keyHash P "_cached", (.str "_cached" 215), .none⟩, ⟨PyData.keyHash P "_initializing", (.str "_initializing" 243), (.bool false)⟩] 9), #[]⟩
noncomputable def ob21 (P : Params) : Obj := ⟨(.type "dict"), none, (.dict #[⟨PyData.keyHash P "__module__", (.str "__module__" 227), (.str "_frozen_importlib" 217)⟩, ⟨PyData.keyHash P "__firstlineno__", (.str "__firstlineno__" 228), (.int 562 218)⟩, ⟨PyData.keyHash P "__doc__", (.str "__doc__" 229), (.builtin "_frozen_importlib.ModuleSpec.__doc__:str#\x6fpaque")⟩, ⟨PyData.keyHash P "__init__", (.str "__init__" 230), (.builtin "_frozen_importlib.ModuleSpec.__init__#\x6fpaque")⟩, ⟨PyData.keyHash P "__repr__", (.str "__repr__" 231), (.builtin "_frozen_importlib.ModuleSpec.__repr__#\x6fpaque")⟩, ⟨PyData.keyHash P "__eq__", (.str "__eq__" 232), (.builtin "_frozen_importlib.ModuleSpec.__eq__#\x6fpaque")⟩, ⟨PyData.keyHash P "cached", (.str "cached" 233), (.builtin "_frozen_importlib.ModuleSpec.cached#\x6fpaque")⟩, ⟨PyData.keyHash P "parent", (.str "parent" 234), (.builtin "_frozen_importlib.ModuleSpec.parent#\x6fpaque")⟩, ⟨PyData.keyHash P "has_location", (.str "has_location" 235), (.builtin "_frozen_importlib.ModuleSpec.has_location#\x6fpaque")⟩, ⟨PyData.keyHash P "__static_attributes__", (.str "__static_attributes__" 236), (.ref 23)⟩, ⟨PyData.keyHash P "__dict__", (.str "__dict__" 238), (.ref 24)⟩, ⟨PyData.keyHash P "__weakref__", (.str "__weakref__" 240), (.ref 25)⟩, ⟨PyData.keyHash P "__hash__", (.str "__hash__" 241), .none⟩] 13), #[]⟩
noncomputable def ob22 (P : Params) : Obj := ⟨(.type "type"), none, (.cls { name := Str.ofString "ModuleSpec", bases := [Value.type "object"], mro := [Value.ref 22, Value.type "object"], ns := 21, qualname := Str.ofString "ModuleSpec" }), #[]⟩
noncomputable def ob23 (P : Params) : Obj := ⟨(.type "tuple"), none, (.seq #[(.str "_cached" 219), (.str "_set_fileattr" 220), (.str "_uninitialized_submodules" 221), (.str "loader" 222), (.str "loader_state" 223), (.str "name" 224), (.str "origin" 225), (.str "submodule_search_locations" 226)] 0), #[]⟩
noncomputable def ob24 (P : Params) : Obj := ⟨(.type "getset_descriptor"), none, (.fields #[(.str "__dict__" 237), (.ref 22), (.builtin "function.__dict__"), (.builtin "function.__dict__#set")]), #[]⟩
noncomputable def ob25 (P : Params) : Obj := ⟨(.type "getset_descriptor"), none, (.fields #[(.str "__weakref__" 239), (.ref 22), (.builtin "ExceptionGroup.__weakref__"), .none]), #[]⟩
noncomputable def ob26 (P : Params) : Obj := ⟨(.ref 22), some 20, .plain, #[]⟩
noncomputable def ob27 (P : Params) : Obj := ⟨.none, none, (.seq #[(.int 11 0), (.str (PySem.Str.mk #[6, 247, 8, 95, 95, 110, 97, 109, 101, 95, 95, 6, 246, 4, 95, 115, 114, 101, 6, 248, 7, 95, 95, 100, 111, 99, 95, 95, 0, 6, 250, 11, 95, 95, 112, 97, 99, 107, 97, 103, 101, 95, 95, 6, 249, 0, 6, 251, 10, 95, 95, 108, 111, 97, 100, 101, 114, 95, 95, 4, 0, 0, 14, 6, 252, 8, 95, 95, 115, 112, 101, 99, 95, 95, 4, 0, 0, 26, 6, 253, 7, 99, 111, 109, 112, 105, 108, 101, 9, 12, 95, 115, 114, 101, 46, 99, 111, 109, 112, 105, 108, 101, 6, 254, 8, 116, 101, 109, 112, 108, 97, 116, 101, 9, 13, 95, 115, 114, 101, 46, 116, 101, 109, 112, 108, 97, 116, 101, 6, 255, 11, 103, 101, 116, 99, 111, 100, 101, 115, 105, 122, 101, 9, 16, 95, 115, 114, 101, 46, 103, 101, 116, 99, 111, 100, 101, 115, 105, 122, 101, 6, 256, 13, 97, 115, 99, 105, 105, 95, 105, 115, 99, 97, 115, 101, 100, 9, 18, 95, 115, 114, 101, 46, 97, 115, 99, 105, 105, 95, 105, 115, 99, 97, 115, 101, 100, 6, 257, 15, 117, 110, 105, 99, 111, 100, 101, 95, 105, 115, 99, 97, 115, 101, 100, 9, 20, 95, 115, 114, 101, 46, 117, 110, 105, 99, 111, 100, 101, 95, 105, 115, 99, 97, 115, 101, 100, 6, 258, 13, 97, 115, 99, 105, 105, 95, 116, 111, 108, 111, 119, 101, 114, 9, 18, 95, 115, 114, 101, 46, 97, 115, 99, 105, 105, 95, 116, 111, 108, 111, 119, 101, 114, 6, 259, 15, 117, 110, 105, 99, 111, 100, 101, 95, 116, 111, 108, 111, 119, 101, 114, 9, 20, 95, 115, 114, 101, 46, 117, 110, 105, 99, 111, 100, 101, 95, 116, 111, 108, 111, 119, 101, 114, 6, 261, 5, 77, 65, 71, 73, 67, 4, 260, 0, 20230612, 6, 263, 8, 67, 79, 68, 69, 83, 73, 90, 69, 4, 262, 0, 4, 6, 265, 9, 77, 65, 88, 82, 69, 80, 69, 65, 84, 4, 264, 0, 4294967295, 6, 267, 9, 77, 65, 88, 71, 82, 79, 85, 80, 83, 4, 266, 0, 1073741823, 6, 269, 9, 99, 111, 112, 121, 114, 105, 103, 104, 116, 6, 268, 53, 32, 83, 82, 69, 32, 50, 46, 50, 46, 50, 32, 67, 111, 112, 121, 114, 105, 103, 104, 116, 32, 40, 99, 41, 32, 49, 57, 57, 55, 45, 50, 48, 48, 50, 32, 98, 121, 32, 83, 101, 99, 114, 101, 116, 32, 76, 97, 98, 115, 32, 65, 66, 32]) 0), (.bool true), (.bool false), (.str "_sre" 271)] 0), #[]⟩
noncomputable def ob28 (P : Params) : Obj := ⟨(.type "tuple"), none, (.seq #[] 0), #[]⟩
noncomputable def ob29 (P : Params) : Obj := ⟨.none, none, (.fields #[(.int 4 0), (.int 0 0), (.ref 37), (.int 11 0), (.int 0 0), (.ref 45), (.int 23 0), (.int 0 0), (.ref 52), (.int 35 0), (.int 0 0), (.ref 69), (.int 39 0), (.int 0 0), (.ref 87), (.int 41 0), (.int 0 0), (.ref 94), (.int 49 0), (.int 0 0), (.ref 106), (.int 52 0), (.int 0 0), (.ref 118), (.int 55 0), (.int 0 0), (.ref 142), (.int 58 0), (.int 0 0), (.ref 160), (.int 61 0), (.int 0 0), (.ref 167), (.int 86 0), (.int 0 0), (.ref 174), (.int 99 0), (.int 0 0), (.ref 181), (.int 104 0), (.int 0 0), (.ref 186), (.int 106 0), (.int 0 0), (.ref 191), (.int 112 0), (.int 0 0), (.ref 198), (.int 124 0), (.int 0 0), (.ref 203)]), #[]⟩
noncomputable def ob30 (P : Params) : Obj := ⟨(.type "code"), none, (.fields #[(.str "<module>" 277), (.str "<module>" 278), (.str "/claim/cut.py" 279), (.int 1 0), (.int 0 0), (.int 0 0), (.int 0 0), (.int 0 0), (.ref 28), (.bool false), (.int 276 0), (.ref 29), .none, .none, .none, .none, (.int 280 0), (.int 1 0), (.str "/claim/cut.py" 281)]), #[]⟩
noncomputable def ob31 (P : Params) : Obj := ⟨(.type "frame"), none, .plain, #[some (.ref 30), some (.ref 3), some (.ref 3), none, some (.str "__main__" 164), none, some (.ref 0)]⟩
noncomputable def ob32 (P : Params) : Obj := ⟨(.type "tuple"), none, (.seq #[] 0), #[]⟩
noncomputable def ob33 (P : Params) : Obj := ⟨.none, none, (.fields #[]), #[]⟩
noncomputable def ob34 (P : Params) : Obj := ⟨(.type "tuple"), none, (.seq #[(.str "s" 289), (.str "parts" 290)] 0), #[]⟩
noncomputable def ob35 (P : Params) : Obj := ⟨(.type "tuple"), none, (.seq #[] 0), #[]⟩
noncomputable def ob36 (P : Params) : Obj := ⟨.none, none, (.func { (fnOf "decode_rfc2231" "decode_rfc2231" (fnP (stN 3)) (fnB (stN 3)) (fnS (stN 3)) .none .none .none .none none .none .none) with globals := 0 }), #[]⟩
noncomputable def ob37 (P : Params) : Obj := ⟨(.type "code"), none, (.fields #[(.str "decode_rfc2231" 286), (.str "decode_rfc2231" 287), (.str "/claim/cut.py" 288), (.int 4 0), (.int 1 0), (.int 0 0), (.int 0 0), (.int 3 0), (.ref 32), (.bool true), (.int 276 0), (.ref 33), .none, (.ref 34), (.ref 35), (.ref 36), (.int 291 0), (.int 4 0), (.str "/claim/cut.py" 292)]), #[]⟩
noncomputable def ob38 (P : Params) : Obj := ⟨(.type "function"), none, (.func (fnOf "decode_rfc2231" "decode_rfc2231" (fnP (stN 3)) (fnB (stN 3)) (fnS (stN 3)) .none .none .none (.str "cpy313.email.utils" 282) none (.ref 37) .none)), #[]⟩
noncomputable def ob39 (P : Params) : Obj := ⟨(.type "dict"), none, (.dict #[⟨1, (.int 1 296), (.str "OPTIMIZED" 297)⟩, ⟨2, (.int 2 298), (.str "NEWLOCALS" 299)⟩, ⟨4, (.int 4 300), (.str "VARARGS" 301)⟩, ⟨8, (.int 8 302), (.str "VARKEYWORDS" 303)⟩, ⟨16, (.int 16 304), (.str "NESTED" 305)⟩, ⟨32, (.int 32 306), (.str "GENERATOR" 307)⟩, ⟨64, (.int 64 308), (.str "NOFREE" 309)⟩, ⟨128, (.int 128 310), (.str "COROUTINE" 311)⟩, ⟨256, (.int 256 312), (.str "ITERABLE_COROUTINE" 313)⟩, ⟨512, (.int 512 314), (.str "ASYNC_GENERATOR" 315)⟩] 10), #[]⟩
noncomputable def ob40 (P : Params) : Obj := ⟨(.type "tuple"), none, (.seq #[] 0), #[]⟩
noncomputable def ob41 (P : Params) : Obj := ⟨.none, none, (.fields #[]), #[]⟩
noncomputable def ob42 (P : Params) : Obj := ⟨(.type "tuple"), none, (.seq #[(.str "flags" 330), (.str "names" 331), (.str "i" 332), (.str "flag" 333)] 0), #[]⟩
noncomputable def ob43 (P : Params) : Obj := ⟨(.type "tuple"), none, (.seq #[] 0), #[]⟩
noncomputable def ob44 (P : Params) : Obj := ⟨.none, none, (.func { (fnOf "pretty_flags" "pretty_flags" (fnP (stN 6)) (fnB (stN 6)) (fnS (stN 6)) .none .none .none .none none .none .none) with globals := 0 }), #[]⟩
noncomputable def ob45 (P : Params) : Obj := ⟨(.type "code"), none, (.fields #[(.str "pretty_flags" 327), (.str "pretty_flags" 328), (.str "/claim/cut.py" 329), (.int 11 0), (.int 1 0), (.int 0 0), (.int 0 0), (.int 3 0), (.ref 40), (.bool true), (.int 276 0), (.ref 41), .none, (.ref 42), (.ref 43), (.ref 44), (.int 334 0), (.int 11 0), (.str "/claim/cut.py" 335)]), #[]⟩
noncomputable def ob46 (P : Params) : Obj := ⟨(.type "function"), none, (.func (fnOf "pretty_flags" "pretty_flags" (fnP (stN 6)) (fnB (stN 6)) (fnS (stN 6)) .none .none .none (.str "cpy313.dis" 294) none (.ref 45) .none)), #[]⟩
noncomputable def ob47 (P : Params) : Obj := ⟨(.type "tuple"), none, (.seq #[] 0), #[]⟩
noncomputable def ob48 (P : Params) : Obj := ⟨.none, none, (.fields #[]), #[]⟩
noncomputable def ob49 (P : Params) : Obj := ⟨(.type "tuple"), none, (.seq #[(.str "iterator" 340), (.str "b" 341), (.str "val" 342)] 0), #[]⟩
noncomputable def ob50 (P : Params) : Obj := ⟨(.type "tuple"), none, (.seq #[] 0), #[]⟩
noncomputable def ob51 (P : Params) : Obj := ⟨.none, none, (.func { (fnOf "_parse_varint" "_parse_varint" (fnP (stN 7)) (fnB (stN 7)) (fnS (stN 7)) .none .none .none .none none .none .none) with globals := 0 }), #[]⟩
noncomputable def ob52 (P : Params) : Obj := ⟨(.type "code"), none, (.fields #[(.str "_parse_varint" 337), (.str "_parse_varint" 338), (.str "/claim/cut.py" 339), (.int 23 0), (.int 1 0), (.int 0 0), (.int 0 0), (.int 3 0), (.ref 47), (.bool true), (.int 276 0), (.ref 48), .none, (.ref 49), (.ref 50), (.ref 51), (.int 343 0), (.int 23 0), (.str "/claim/cut.py" 344)]), #[]⟩
noncomputable def ob53 (P : Params) : Obj := ⟨(.type "function"), none, (.func (fnOf "_parse_varint" "_parse_varint" (fnP (stN 7)) (fnB (stN 7)) (fnS (stN 7)) .none .none .none (.str "cpy313.dis" 294) none (.ref 52) .none)), #[]⟩
noncomputable def ob54 (P : Params) : Obj := ⟨(.type "list"), none, (.seq #[(.int 14 351), (.int 4 352), (.int 0 353), (.int 1 354), (.int 1 355), (.int 6 356), (.int 1 357), (.int 16 358), (.int 46 359), (.int 1 360)] 0), #[]⟩
noncomputable def ob55 (P : Params) : Obj := ⟨(.type "dict"), none, (.dict #[] 0), #[]⟩
noncomputable def ob56 (P : Params) : Obj := ⟨(.type "tuple"), none, (.seq #[.none] 0), #[]⟩
noncomputable def ob57 (P : Params) : Obj := ⟨(.type "tuple"), none, (.seq #[(.int 14 0), (.int 4 0), (.int 0 0), (.int 1 0), (.int 1 0), (.int 6 0), (.int 1 0), (.int 16 0), (.int 46 0), (.int 1 0)] 0), #[]⟩
noncomputable def ob58 (P : Params) : Obj := ⟨(.type "re.Pattern"), none, (.fields #[(.str (PySem.Str.mk #[40, 63, 109, 41, 94, 92, 46]) 349), (.int 40 362), (.int 0 0), .none, .none, (.ref 57), (.int 0 0)]), #[]⟩
noncomputable def ob59 (P : Params) : Obj := ⟨(.type "list"), none, (.seq #[(.int 14 367), (.int 9 368), (.int 4 369), (.int 1 370), (.int 2 371), (.int 16 372), (.int 10 373), (.int 16 374), (.int 13 375), (.int 0 376), (.int 7 377), (.int 7 378), (.int 16 379), (.int 13 380), (.int 16 381), (.int 10 382), (.int 15 383), (.int 18 384), (.int 5 385), (.int 16 386), (.int 10 387), (.int 15 388), (.int 13 389), (.int 11 390), (.int 16 391), (.int 13 392), (.int 5 393), (.int 5 394), (.int 0 395), (.int 16 396), (.int 10 397), (.int 1 398), (.int 15 399), (.int 2 400), (.int 0 401), (.int 1 402)] 0), #[]⟩
noncomputable def ob60 (P : Params) : Obj := ⟨(.type "dict"), none, (.dict #[] 0), #[]⟩
noncomputable def ob61 (P : Params) : Obj := ⟨(.type "tuple"), none, (.seq #[.none] 0), #[]⟩
noncomputable def ob62 (P : Params) : Obj := ⟨(.type "tuple"), none, (.seq #[(.int 14 0), (.int 9 0), (.int 4 0), (.int 1 0), (.int 2 0), (.int 16 0), (.int 10 0), (.int 16 0), (.int 13 0), (.int 0 0), (.int 7 0), (.int 7 0), (.int 16 0), (.int 13 0), (.int 16 0), (.int 10 0), (.int 15 0), (.int 18 0), (.int 5 0), (.int 16 0), (.int 10 0), (.int 15 0), (.int 13 0), (.int 11 0), (.int 16 0), (.int 13 0), (.int 5 0), (.int 5 0), (.int 0 0), (.int 16 0), (.int 10 0), (.int 1 0), (.int 15 0), (.int 2 0), (.int 0 0), (.int 1 0)] 0), #[]⟩
noncomputable def ob63 (P : Params) : Obj := ⟨(.type "re.Pattern"), none, (.fields #[(.str (PySem.Str.mk #[40, 63, 58, 92, 114, 92, 110, 124, 92, 110, 124, 92, 114, 40, 63, 33, 92, 110, 41, 41]) 365), (.int 32 404), (.int 0 0), .none, .none, (.ref 62), (.int 0 0)]), #[]⟩
noncomputable def ob64 (P : Params) : Obj := ⟨(.type "tuple"), none, (.seq #[] 0), #[]⟩
noncomputable def ob65 (P : Params) : Obj := ⟨.none, none, (.fields #[]), #[]⟩
noncomputable def ob66 (P : Params) : Obj := ⟨(.type "tuple"), none, (.seq #[(.str "data" 411)] 0), #[]⟩
noncomputable def ob67 (P : Params) : Obj := ⟨(.type "tuple"), none, (.seq #[] 0), #[]⟩
noncomputable def ob68 (P : Params) : Obj := ⟨.none, none, (.func { (fnOf "quotedata" "quotedata" (fnP (stN 12)) (fnB (stN 12)) (fnS (stN 12)) .none .none .none .none none .none .none) with globals := 0 }), #[]⟩
noncomputable def ob69 (P : Params) : Obj := ⟨(.type "code"), none, (.fields #[(.str "quotedata" 408), (.str "quotedata" 409), (.str "/claim/cut.py" 410), (.int 35 0), (.int 1 0), (.int 0 0), (.int 0 0), (.int 3 0), (.ref 64), (.bool true), (.int 276 0), (.ref 65), .none, (.ref 66), (.ref 67), (.ref 68), (.int 412 0), (.int 35 0), (.str "/claim/cut.py" 413)]), #[]⟩
noncomputable def ob70 (P : Params) : Obj := ⟨(.type "function"), none, (.func (fnOf "quotedata" "quotedata" (fnP (stN 12)) (fnB (stN 12)) (fnS (stN 12)) .none .none .none (.str "cpy313.smtplib" 346) none (.ref 69) .none)), #[]⟩
noncomputable def ob71 (P : Params) : Obj := ⟨(.type "list"), none, (.seq #[(.int 173 417), (.int 847 418), (.int 6150 419), (.int 6155 420), (.int 6156 421), (.int 6157 422), (.int 8203 423), (.int 8204 424), (.int 8205 425), (.int 8288 426), (.int 65279 427)] 0), #[]⟩
noncomputable def ob72 (P : Params) : Obj := ⟨(.type "range"), none, (.fields #[(.int 65024 428), (.int 65040 429), (.int 1 430)]), #[]⟩
noncomputable def ob73 (P : Params) : Obj := ⟨(.type "list"), none, (.seq #[(.int 65024 433), (.int 65025 434), (.int 65026 435), (.int 65027 436), (.int 65028 437), (.int 65029 438), (.int 65030 439), (.int 65031 440), (.int 65032 441), (.int 65033 442), (.int 65034 443), (.int 65035 444), (.int 65036 445), (.int 65037 446), (.int 65038 447), (.int 65039 448)] 18), #[]⟩
noncomputable def ob74 (P : Params) : Obj := ⟨(.type "range_iterator"), none, (.fields #[(.int 65040 0), (.int 0 0), (.int 1 0)]), #[]⟩
noncomputable def ob75 (P : Params) : Obj := ⟨(.type "tuple"), none, (.seq #[] 0), #[]⟩
noncomputable def ob76 (P : Params) : Obj := ⟨(.type "StopIteration"), none, (.fields #[(.ref 75), .none, .none, .none, (.bool false), .none]), #[]⟩
noncomputable def ob77 (P : Params) : Obj := ⟨(.type "list"), none, (.seq #[(.int 173 417), (.int 847 418), (.int 6150 419), (.int 6155 420), (.int 6156 421), (.int 6157 422), (.int 8203 423), (.int 8204 424), (.int 8205 425), (.int 8288 426), (.int 65279 427), (.int 65024 433), (.int 65025 434), (.int 65026 435), (.int 65027 436), (.int 65028 437), (.int 65029 438), (.int 65030 439), (.int 65031 440), (.int 65032 441), (.int 65033 442), (.int 65034 443), (.int 65035 444), (.int 65036 445), (.int 65037 446), (.int 65038 447), (.int 65039 448)] 0), #[]⟩
noncomputable def ob78 (P : Params) : Obj := ⟨(.type "set"), none, (.set #[(65024, (.int 65024 433)), (65025, (.int 65025 434)), (65026, (.int 65026 435)), (65027, (.int 65027 436)), (65028, (.int 65028 437)), (65029, (.int 65029 438)), (6150, (.int 6150 419)), (65030, (.int 65030 439)), (65031, (.int 65031 440)), (65032, (.int 65032 441)), (65033, (.int 65033 442)), (6155, (.int 6155 420)), (6156, (.int 6156 421)), (6157, (.int 6157 422)), (8203, (.int 8203 423)), (8204, (.int 8204 424)), (8205, (.int 8205 425)), (65034, (.int 65034 443)), (65035, (.int 65035 444)), (65036, (.int 65036 445)), (65037, (.int 65037 446)), (65038, (.int 65038 447)), (65039, (.int 65039 448)), (173, (.int 173 417)), (847, (.int 847 418)), (8288, (.int 8288 426)), (65279, (.int 65279 427))] 29 (SetTable.mk 127 #[0, 1, 2, 3, 4, 5, 6, 7, 8, 9, 10, 11, 12, 13, 14, 15, 16, 17, 18, 19, 20, 21, 22, 45, 79, 96, 127] #[] 0 (!P.followText "set-order") 2 true)), #[]⟩
noncomputable def ob79 (P : Params) : Obj := ⟨(.type "list_iterator"), none, (.fields #[.none, (.int 27 0)]), #[]⟩
noncomputable def ob80 (P : Params) : Obj := ⟨(.type "tuple"), none, (.seq #[] 0), #[]⟩
noncomputable def ob81 (P : Params) : Obj := ⟨(.type "StopIteration"), none, (.fields #[(.ref 80), .none, .none, .none, (.bool false), .none]), #[]⟩
noncomputable def ob82 (P : Params) : Obj := ⟨(.type "tuple"), none, (.seq #[] 0), #[]⟩
noncomputable def ob83 (P : Params) : Obj := ⟨.none, none, (.fields #[]), #[]⟩
noncomputable def ob84 (P : Params) : Obj := ⟨(.type "tuple"), none, (.seq #[(.str "code" 480)] 0), #[]⟩
noncomputable def ob85 (P : Params) : Obj := ⟨(.type "tuple"), none, (.seq #[] 0), #[]⟩
noncomputable def ob86 (P : Params) : Obj := ⟨.none, none, (.func { (fnOf "in_table_b1" "in_table_b1" (fnP (stN 15)) (fnB (stN 15)) (fnS (stN 15)) .none .none .none .none none .none .none) with globals := 0 }), #[]⟩
noncomputable def ob87 (P : Params) : Obj := ⟨(.type "code"), none, (.fields #[(.str "in_table_b1" 477), (.str "in_table_b1" 478), (.str "/claim/cut.py" 479), (.int 39 0), (.int 1 0), (.int 0 0), (.int 0 0), (.int 3 0), (.ref 82), (.bool true), (.int 276 0), (.ref 83), .none, (.ref 84), (.ref 85), (.ref 86), (.int 481 0), (.int 39 0), (.str "/claim/cut.py" 482)]), #[]⟩
noncomputable def ob88 (P : Params) : Obj := ⟨(.type "function"), none, (.func (fnOf "in_table_b1" "in_table_b1" (fnP (stN 15)) (fnB (stN 15)) (fnS (stN 15)) .none .none .none (.str "cpy313.stringprep" 415) none (.ref 87) .none)), #[]⟩
noncomputable def ob89 (P : Params) : Obj := ⟨(.type "tuple"), none, (.seq #[] 0), #[]⟩
noncomputable def ob90 (P : Params) : Obj := ⟨.none, none, (.fields #[]), #[]⟩
noncomputable def ob91 (P : Params) : Obj := ⟨(.type "tuple"), none, (.seq #[(.str "code" 487), (.str "c" 488)] 0), #[]⟩
noncomputable def ob92 (P : Params) : Obj := ⟨(.type "tuple"), none, (.seq #[] 0), #[]⟩
noncomputable def ob93 (P : Params) : Obj := ⟨.none, none, (.func { (fnOf "in_table_c4" "in_table_c4" (fnP (stN 16)) (fnB (stN 16)) (fnS (stN 16)) .none .none .none .none none .none .none) with globals := 0 }), #[]⟩
noncomputable def ob94 (P : Params) : Obj := ⟨(.type "code"), none, (.fields #[(.str "in_table_c4" 484), (.str "in_table_c4" 485), (.str "/claim/cut.py" 486), (.int 41 0), (.int 1 0), (.int 0 0), (.int 0 0), (.int 3 0), (.ref 89), (.bool true), (.int 276 0), (.ref 90), .none, (.ref 91), (.ref 92), (.ref 93), (.int 489 0), (.int 41 0), (.str "/claim/cut.py" 490)]), #[]⟩
noncomputable def ob95 (P : Params) : Obj := ⟨(.type "function"), none, (.func (fnOf "in_table_c4" "in_table_c4" (fnP (stN 16)) (fnB (stN 16)) (fnS (stN 16)) .none .none .none (.str "cpy313.stringprep" 415) none (.ref 94) .none)), #[]⟩
noncomputable def ob96 (P : Params) : Obj := ⟨(.type "range"), none, (.fields #[(.int 65529 492), (.int 65534 493), (.int 1 494)]), #[]⟩
noncomputable def ob97 (P : Params) : Obj := ⟨(.type "set"), none, (.set #[(65529, (.int 65529 495)), (65530, (.int 65530 497)), (65531, (.int 65531 499)), (65532, (.int 65532 501)), (65533, (.int 65533 503))] 6 (SetTable.mk 31 #[25, 26, 27, 28, 29] #[] 0 (!P.followText "set-order") 1 true)), #[]⟩
noncomputable def ob98 (P : Params) : Obj := ⟨(.type "range_iterator"), none, (.fields #[(.int 65534 0), (.int 0 0), (.int 1 0)]), #[]⟩
noncomputable def ob99 (P : Params) : Obj := ⟨(.type "tuple"), none, (.seq #[] 0), #[]⟩
noncomputable def ob100 (P : Params) : Obj := ⟨(.type "StopIteration"), none, (.fields #[(.ref 99), .none, .none, .none, (.bool false), .none]), #[]⟩
noncomputable def ob101 (P : Params) : Obj := ⟨(.type "tuple"), none, (.seq #[] 0), #[]⟩
noncomputable def ob102 (P : Params) : Obj := ⟨.none, none, (.fields #[]), #[]⟩
noncomputable def ob103 (P : Params) : Obj := ⟨(.type "tuple"), none, (.seq #[(.str "code" 509)] 0), #[]⟩
noncomputable def ob104 (P : Params) : Obj := ⟨(.type "tuple"), none, (.seq #[] 0), #[]⟩
noncomputable def ob105 (P : Params) : Obj := ⟨.none, none, (.func { (fnOf "in_table_c6" "in_table_c6" (fnP (stN 18)) (fnB (stN 18)) (fnS (stN 18)) .none .none .none .none none .none .none) with globals := 0 }), #[]⟩
noncomputable def ob106 (P : Params) : Obj := ⟨(.type "code"), none, (.fields #[(.str "in_table_c6" 506), (.str "in_table_c6" 507), (.str "/claim/cut.py" 508), (.int 49 0), (.int 1 0), (.int 0 0), (.int 0 0), (.int 3 0), (.ref 101), (.bool true), (.int 276 0), (.ref 102), .none, (.ref 103), (.ref 104), (.ref 105), (.int 510 0), (.int 49 0), (.str "/claim/cut.py" 511)]), #[]⟩
noncomputable def ob107 (P : Params) : Obj := ⟨(.type "function"), none, (.func (fnOf "in_table_c6" "in_table_c6" (fnP (stN 18)) (fnB (stN 18)) (fnS (stN 18)) .none .none .none (.str "cpy313.stringprep" 415) none (.ref 106) .none)), #[]⟩
noncomputable def ob108 (P : Params) : Obj := ⟨(.type "range"), none, (.fields #[(.int 12272 513), (.int 12284 514), (.int 1 515)]), #[]⟩
noncomputable def ob109 (P : Params) : Obj := ⟨(.type "set"), none, (.set #[(12272, (.int 12272 516)), (12273, (.int 12273 518)), (12274, (.int 12274 520)), (12275, (.int 12275 522)), (12276, (.int 12276 524)), (12277, (.int 12277 526)), (12278, (.int 12278 528)), (12279, (.int 12279 530)), (12280, (.int 12280 532)), (12281, (.int 12281 534)), (12282, (.int 12282 536)), (12283, (.int 12283 538))] 13 (SetTable.mk 31 #[16, 17, 18, 19, 20, 21, 22, 23, 24, 25, 26, 27] #[] 0 (!P.followText "set-order") 1 true)), #[]⟩
noncomputable def ob110 (P : Params) : Obj := ⟨(.type "range_iterator"), none, (.fields #[(.int 12284 0), (.int 0 0), (.int 1 0)]), #[]⟩
noncomputable def ob111 (P : Params) : Obj := ⟨(.type "tuple"), none, (.seq #[] 0), #[]⟩
noncomputable def ob112 (P : Params) : Obj := ⟨(.type "StopIteration"), none, (.fields #[(.ref 111), .none, .none, .none, (.bool false), .none]), #[]⟩
noncomputable def ob113 (P : Params) : Obj := ⟨(.type "tuple"), none, (.seq #[] 0), #[]⟩
noncomputable def ob114 (P : Params) : Obj := ⟨.none, none, (.fields #[]), #[]⟩
noncomputable def ob115 (P : Params) : Obj := ⟨(.type "tuple"), none, (.seq #[(.str "code" 544)] 0), #[]⟩
noncomputable def ob116 (P : Params) : Obj := ⟨(.type "tuple"), none, (.seq #[] 0), #[]⟩
noncomputable def ob117 (P : Params) : Obj := ⟨.none, none, (.func { (fnOf "in_table_c7" "in_table_c7" (fnP (stN 20)) (fnB (stN 20)) (fnS (stN 20)) .none .none .none .none none .none .none) with globals := 0 }), #[]⟩
noncomputable def ob118 (P : Params) : Obj := ⟨(.type "code"), none, (.fields #[(.str "in_table_c7" 541), (.str "in_table_c7" 542), (.str "/claim/cut.py" 543), (.int 52 0), (.int 1 0), (.int 0 0), (.int 0 0), (.int 3 0), (.ref 113), (.bool true), (.int 276 0), (.ref 114), .none, (.ref 115), (.ref 116), (.ref 117), (.int 545 0), (.int 52 0), (.str "/claim/cut.py" 546)]), #[]⟩
noncomputable def ob119 (P : Params) : Obj := ⟨(.type "function"), none, (.func (fnOf "in_table_c7" "in_table_c7" (fnP (stN 20)) (fnB (stN 20)) (fnS (stN 20)) .none .none .none (.str "cpy313.stringprep" 415) none (.ref 118) .none)), #[]⟩
noncomputable def ob120 (P : Params) : Obj := ⟨(.type "list"), none, (.seq #[(.int 832 548), (.int 833 549), (.int 8206 550), (.int 8207 551)] 0), #[]⟩
noncomputable def ob121 (P : Params) : Obj := ⟨(.type "range"), none, (.fields #[(.int 8234 552), (.int 8239 553), (.int 1 554)]), #[]⟩
noncomputable def ob122 (P : Params) : Obj := ⟨(.type "list"), none, (.seq #[(.int 8234 557), (.int 8235 558), (.int 8236 559), (.int 8237 560), (.int 8238 561)] 7), #[]⟩
noncomputable def ob123 (P : Params) : Obj := ⟨(.type "range_iterator"), none, (.fields #[(.int 8239 0), (.int 0 0), (.int 1 0)]), #[]⟩
noncomputable def ob124 (P : Params) : Obj := ⟨(.type "tuple"), none, (.seq #[] 0), #[]⟩
noncomputable def ob125 (P : Params) : Obj := ⟨(.type "StopIteration"), none, (.fields #[(.ref 124), .none, .none, .none, (.bool false), .none]), #[]⟩
noncomputable def ob126 (P : Params) : Obj := ⟨(.type "list"), none, (.seq #[(.int 832 548), (.int 833 549), (.int 8206 550), (.int 8207 551), (.int 8234 557), (.int 8235 558), (.int 8236 559), (.int 8237 560), (.int 8238 561)] 0), #[]⟩
noncomputable def ob127 (P : Params) : Obj := ⟨(.type "range"), none, (.fields #[(.int 8298 562), (.int 8304 563), (.int 1 564)]), #[]⟩
noncomputable def ob128 (P : Params) : Obj := ⟨(.type "list"), none, (.seq #[(.int 8298 567), (.int 8299 568), (.int 8300 569), (.int 8301 570), (.int 8302 571), (.int 8303 572)] 8), #[]⟩
noncomputable def ob129 (P : Params) : Obj := ⟨(.type "range_iterator"), none, (.fields #[(.int 8304 0), (.int 0 0), (.int 1 0)]), #[]⟩
noncomputable def ob130 (P : Params) : Obj := ⟨(.type "tuple"), none, (.seq #[] 0), #[]⟩
noncomputable def ob131 (P : Params) : Obj := ⟨(.type "StopIteration"), none, (.fields #[(.ref 130), .none, .none, .none, (.bool false), .none]), #[]⟩
noncomputable def ob132 (P : Params) : Obj := ⟨(.type "list"), none, (.seq #[(.int 832 548), (.int 833 549), (.int 8206 550), (.int 8207 551), (.int 8234 557), (.int 8235 558), (.int 8236 559), (.int 8237 560), (.int 8238 561), (.int 8298 567), (.int 8299 568), (.int 8300 569), (.int 8301 570), (.int 8302 571), (.int 8303 572)] 0), #[]⟩
noncomputable def ob133 (P : Params) : Obj := ⟨(.type "set"), none, (.set #[(832, (.int 832 548)), (833, (.int 833 549)), (8234, (.int 8234 557)), (8235, (.int 8235 558)), (8236, (.int 8236 559)), (8237, (.int 8237 560)), (8206, (.int 8206 550)), (8207, (.int 8207 551)), (8238, (.int 8238 561)), (8298, (.int 8298 567)), (8299, (.int 8299 568)), (8300, (.int 8300 569)), (8301, (.int 8301 570)), (8302, (.int 8302 571)), (8303, (.int 8303 572))] 16 (SetTable.mk 31 #[0, 1, 10, 11, 12, 13, 14, 15, 16, 17, 18, 19, 20, 21, 22] #[] 0 (!P.followText "set-order") 1 true)), #[]⟩
noncomputable def ob134 (P : Params) : Obj := ⟨(.type "list_iterator"), none, (.fields #[.none, (.int 15 0)]), #[]⟩
noncomputable def ob135 (P : Params) : Obj := ⟨(.type "tuple"), none, (.seq #[] 0), #[]⟩
noncomputable def ob136 (P : Params) : Obj := ⟨(.type "StopIteration"), none, (.fields #[(.ref 135), .none, .none, .none, (.bool false), .none]), #[]⟩
noncomputable def ob137 (P : Params) : Obj := ⟨(.type "tuple"), none, (.seq #[] 0), #[]⟩
noncomputable def ob138 (P : Params) : Obj := ⟨.none, none, (.fields #[]), #[]⟩
noncomputable def ob139 (P : Params) : Obj := ⟨(.type "tuple"), none, (.seq #[(.str "code" 592)] 0), #[]⟩
noncomputable def ob140 (P : Params) : Obj := ⟨(.type "tuple"), none, (.seq #[] 0), #[]⟩
noncomputable def ob141 (P : Params) : Obj := ⟨.none, none, (.func { (fnOf "in_table_c8" "in_table_c8" (fnP (stN 22)) (fnB (stN 22)) (fnS (stN 22)) .none .none .none .none none .none .none) with globals := 0 }), #[]⟩
noncomputable def ob142 (P : Params) : Obj := ⟨(.type "code"), none, (.fields #[(.str "in_table_c8" 589), (.str "in_table_c8" 590), (.str "/claim/cut.py" 591), (.int 55 0), (.int 1 0), (.int 0 0), (.int 0 0), (.int 3 0), (.ref 137), (.bool true), (.int 276 0), (.ref 138), .none, (.ref 139), (.ref 140), (.ref 141), (.int 593 0), (.int 55 0), (.str "/claim/cut.py" 594)]), #[]⟩
noncomputable def ob143 (P : Params) : Obj := ⟨(.type "function"), none, (.func (fnOf "in_table_c8" "in_table_c8" (fnP (stN 22)) (fnB (stN 22)) (fnS (stN 22)) .none .none .none (.str "cpy313.stringprep" 415) none (.ref 142) .none)), #[]⟩
noncomputable def ob144 (P : Params) : Obj := ⟨(.type "list"), none, (.seq #[(.int 917505 596)] 0), #[]⟩
noncomputable def ob145 (P : Params) : Obj := ⟨(.type "range"), none, (.fields #[(.int 917536 597), (.int 917632 598), (.int 1 599)]), #[]⟩
noncomputable def ob146 (P : Params) : Obj := ⟨(.type "list"), none, (.seq #[(.int 917536 602), (.int 917537 603), (.int 917538 604), (.int 917539 605), (.int 917540 606), (.int 917541 607), (.int 917542 608), (.int 917543 609), (.int 917544 610), (.int 917545 611), (.int 917546 612), (.int 917547 613), (.int 917548 614), (.int 917549 615), (.int 917550 616), (.int 917551 617), (.int 917552 618), (.int 917553 619), (.int 917554 620), (.int 917555 621), (.int 917556 622), (.int 917557 623), (.int 917558 624), (.int 917559 625), (.int 917560 626), (.int 917561 627), (.int 917562 628), (.int 917563 629), (.int 917564 630), (.int 917565 631), (.int 917566 632), (.int 917567 633), (.int 917568 634), (.int 917569 635), (.int 917570 636), (.int 917571 637), (.int 917572 638), (.int 917573 639), (.int 917574 640), (.int 917575 641), (.int 917576 642), (.int 917577 643), (.int 917578 644), (.int 917579 645), (.int 917580 646), (.int 917581 647), (.int 917582 648), (.int 917583 649), (.int 917584 650), (.int 917585 651), (.int 917586 652), (.int 917587 653), (.int 917588 654), (.int 917589 655), (.int 917590 656), (.int 917591 657), (.int 917592 658), (.int 917593 659), (.int 917594 660), (.int 917595 661), (.int 917596 662), (.int 917597 663), (.int 917598 664), (.int 917599 665), (.int 917600 666), (.int 917601 667), (.int 917602 668), (.int 917603 669), (.int 917604 670), (.int 917605 671), (.int 917606 672), (.int 917607 673), (.int 917608 674), (.int 917609 675), (.int 917610 676), (.int 917611 677), (.int 917612 678), (.int 917613 679), (.int 917614 680), (.int 917615 681), (.int 917616 682), (.int 917617 683), (.int 917618 684), (.int 917619 685), (.int 917620 686), (.int 917621 687), (.int 917622 688), (.int 917623 689), (.int 917624 690), (.int 917625 691), (.int 917626 692), (.int 917627 693), (.int 917628 694), (.int 917629 695), (.int 917630 696), (.int 917631 697)] 98), #[]⟩
noncomputable def ob147 (P : Params) : Obj := ⟨(.type "range_iterator"), none, (.fields #[(.int 917632 0), (.int 0 0), (.int 1 0)]), #[]⟩
noncomputable def ob148 (P : Params) : Obj := ⟨(.type "tuple"), none, (.seq #[] 0), #[]⟩
noncomputable def ob149 (P : Params) : Obj := ⟨(.type "StopIteration"), none, (.fields #[(.ref 148), .none, .none, .none, (.bool false), .none]), #[]⟩
noncomputable def ob150 (P : Params) : Obj := ⟨(.type "list"), none, (.seq #[(.int 917505 596), (.int 917536 602), (.int 917537 603), (.int 917538 604), (.int 917539 605), (.int 917540 606), (.int 917541 607), (.int 917542 608), (.int 917543 609), (.int 917544 610), (.int 917545 611), (.int 917546 612), (.int 917547 613), (.int 917548 614), (.int 917549 615), (.int 917550 616), (.int 917551 617), (.int 917552 618), (.int 917553 619), (.int 917554 620), (.int 917555 621), (.int 917556 622), (.int 917557 623), (.int 917558 624), (.int 917559 625), (.int 917560 626), (.int 917561 627), (.int 917562 628), (.int 917563 629), (.int 917564 630), (.int 917565 631), (.int 917566 632), (.int 917567 633), (.int 917568 634), (.int 917569 635), (.int 917570 636), (.int 917571 637), (.int 917572 638), (.int 917573 639), (.int 917574 640), (.int 917575 641), (.int 917576 642), (.int 917577 643), (.int 917578 644), (.int 917579 645), (.int 917580 646), (.int 917581 647), (.int 917582 648), (.int 917583 649), (.int 917584 650), (.int 917585 651), (.int 917586 652), (.int 917587 653), (.int 917588 654), (.int 917589 655), (.int 917590 656), (.int 917591 657), (.int 917592 658), (.int 917593 659), (.int 917594 660), (.int 917595 661), (.int 917596 662), (.int 917597 663), (.int 917598 664), (.int 917599 665), (.int 917600 666), (.int 917601 667), (.int 917602 668), (.int 917603 669), (.int 917604 670), (.int 917605 671), (.int 917606 672), (.int 917607 673), (.int 917608 674), (.int 917609 675), (.int 917610 676), (.int 917611 677), (.int 917612 678), (.int 917613 679), (.int 917614 680), (.int 917615 681), (.int 917616 682), (.int 917617 683), (.int 917618 684), (.int 917619 685), (.int 917620 686), (.int 917621 687), (.int 917622 688), (.int 917623 689), (.int 917624 690), (.int 917625 691), (.int 917626 692), (.int 917627 693), (.int 917628 694), (.int 917629 695), (.int 917630 696), (.int 917631 697)] 0), #[]⟩
noncomputable def ob151 (P : Params) : Obj := ⟨(.type "set"), none, (.set #[(917505, (.int 917505 596)), (917536, (.int 917536 602)), (917537, (.int 917537 603)), (917538, (.int 917538 604)), (917539, (.int 917539 605)), (917540, (.int 917540 606)), (917541, (.int 917541 607)), (917542, (.int 917542 608)), (917543, (.int 917543 609)), (917544, (.int 917544 610)), (917545, (.int 917545 611)), (917546, (.int 917546 612)), (917547, (.int 917547 613)), (917548, (.int 917548 614)), (917549, (.int 917549 615)), (917550, (.int 917550 616)), (917551, (.int 917551 617)), (917552, (.int 917552 618)), (917553, (.int 917553 619)), (917554, (.int 917554 620)), (917555, (.int 917555 621)), (917556, (.int 917556 622)), (917557, (.int 917557 623)), (917558, (.int 917558 624)), (917559, (.int 917559 625)), (917560, (.int 917560 626)), (917561, (.int 917561 627)), (917562, (.int 917562 628)), (917563, (.int 917563 629)), (917564, (.int 917564 630)), (917565, (.int 917565 631)), (917566, (.int 917566 632)), (917567, (.int 917567 633)), (917568, (.int 917568 634)), (917569, (.int 917569 635)), (917570, (.int 917570 636)), (917571, (.int 917571 637)), (917572, (.int 917572 638)), (917573, (.int 917573 639)), (917574, (.int 917574 640)), (917575, (.int 917575 641)), (917576, (.int 917576 642)), (917577, (.int 917577 643)), (917578, (.int 917578 644)), (917579, (.int 917579 645)), (917580, (.int 917580 646)), (917581, (.int 917581 647)), (917582, (.int 917582 648)), (917583, (.int 917583 649)), (917584, (.int 917584 650)), (917585, (.int 917585 651)), (917586, (.int 917586 652)), (917587, (.int 917587 653)), (917588, (.int 917588 654)), (917589, (.int 917589 655)), (917590, (.int 917590 656)), (917591, (.int 917591 657)), (917592, (.int 917592 658)), (917593, (.int 917593 659)), (917594, (.int 917594 660)), (917595, (.int 917595 661)), (917596, (.int 917596 662)), (917597, (.int 917597 663)), (917598, (.int 917598 664)), (917599, (.int 917599 665)), (917600, (.int 917600 666)), (917601, (.int 917601 667)), (917602, (.int 917602 668)), (917603, (.int 917603 669)), (917604, (.int 917604 670)), (917605, (.int 917605 671)), (917606, (.int 917606 672)), (917607, (.int 917607 673)), (917608, (.int 917608 674)), (917609, (.int 917609 675)), (917610, (.int 917610 676)), (917611, (.int 917611 677)), (917612, (.int 917612 678)), (917613, (.int 917613 679)), (917614, (.int 917614 680)), (917615, (.int 917615 681)), (917616, (.int 917616 682)), (917617, (.int 917617 683)), (917618, (.int 917618 684)), (917619, (.int 917619 685)), (917620, (.int 917620 686)), (917621, (.int 917621 687)), (917622, (.int 917622 688)), (917623, (.int 917623 689)), (917624, (.int 917624 690)), (917625, (.int 917625 691)), (917626, (.int 917626 692)), (917627, (.int 917627 693)), (917628, (.int 917628 694)), (917629, (.int 917629 695)), (917630, (.int 917630 696)), (917631, (.int 917631 697))] 100 (SetTable.mk 511 #[1, 32, 33, 34, 35, 36, 37, 38, 39, 40, 41, 42, 43, 44, 45, 46, 47, 48, 49, 50, 51, 52, 53, 54, 55, 56, 57, 58, 59, 60, 61, 62, 63, 64, 65, 66, 67, 68, 69, 70, 71, 72, 73, 74, 75, 76, 77, 78, 79, 80, 81, 82, 83, 84, 85, 86, 87, 88, 89, 90, 91, 92, 93, 94, 95, 96, 97, 98, 99, 100, 101, 102, 103, 104, 105, 106, 107, 108, 109, 110, 111, 112, 113, 114, 115, 116, 117, 118, 119, 120, 121, 122, 123, 124, 125, 126, 127] #[] 0 (!P.followText "set-order") 3 true)), #[]⟩
noncomputable def ob152 (P : Params) : Obj := ⟨(.type "list_iterator"), none, (.fields #[.none, (.int 97 0)]), #[]⟩
noncomputable def ob153 (P : Params) : Obj := ⟨(.type "tuple"), none, (.seq #[] 0), #[]⟩
noncomputable def ob154 (P : Params) : Obj := ⟨(.type "StopIteration"), none, (.fields #[(.ref 153), .none, .none, .none, (.bool false), .none]), #[]⟩
noncomputable def ob155 (P : Params) : Obj := ⟨(.type "tuple"), none, (.seq #[] 0), #[]⟩
noncomputable def ob156 (P : Params) : Obj := ⟨.none, none, (.fields #[]), #[]⟩
noncomputable def ob157 (P : Params) : Obj := ⟨(.type "tuple"), none, (.seq #[(.str "code" 799)] 0), #[]⟩
noncomputable def ob158 (P : Params) : Obj := ⟨(.type "tuple"), none, (.seq #[] 0), #[]⟩
noncomputable def ob159 (P : Params) : Obj := ⟨.none, none, (.func { (fnOf "in_table_c9" "in_table_c9" (fnP (stN 24)) (fnB (stN 24)) (fnS (stN 24)) .none .none .none .none none .none .none) with globals := 0 }), #[]⟩
noncomputable def ob160 (P : Params) : Obj := ⟨(.type "code"), none, (.fields #[(.str "in_table_c9" 796), (.str "in_table_c9" 797), (.str "/claim/cut.py" 798), (.int 58 0), (.int 1 0), (.int 0 0), (.int 0 0), (.int 3 0), (.ref 155), (.bool true), (.int 276 0), (.ref 156), .none, (.ref 157), (.ref 158), (.ref 159), (.int 800 0), (.int 58 0), (.str "/claim/cut.py" 801)]), #[]⟩
noncomputable def ob161 (P : Params) : Obj := ⟨(.type "function"), none, (.func (fnOf "in_table_c9" "in_table_c9" (fnP (stN 24)) (fnB (stN 24)) (fnS (stN 24)) .none .none .none (.str "cpy313.stringprep" 415) none (.ref 160) .none)), #[]⟩
noncomputable def ob162 (P : Params) : Obj := ⟨(.type "tuple"), none, (.seq #[] 0), #[]⟩
noncomputable def ob163 (P : Params) : Obj := ⟨.none, none, (.fields #[]), #[]⟩
noncomputable def ob164 (P : Params) : Obj := ⟨(.type "tuple"), none, (.seq #[(.str "x" 808), (.str "kind" 809), (.str "which" 810), (.str "lone" 811), (.str "place" 812)] 0), #[]⟩
noncomputable def ob165 (P : Params) : Obj := ⟨(.type "tuple"), none, (.seq #[] 0), #[]⟩
noncomputable def ob166 (P : Params) : Obj := ⟨.none, none, (.func { (fnOf "_law_sign" "_law_sign" (fnP (stN 26)) (fnB (stN 26)) (fnS (stN 26)) .none .none .none .none none .none .none) with globals := 0 }), #[]⟩
noncomputable def ob167 (P : Params) : Obj := ⟨(.type "code"), none, (.fields #[(.str "_law_sign" 805), (.str "_law_sign" 806), (.str "/claim/cut.py" 807), (.int 61 0), (.int 1 0), (.int 0 0), (.int 0 0), (.int 3 0), (.ref 162), (.bool true), (.int 276 0), (.ref 163), .none, (.ref 164), (.ref 165), (.ref 166), (.int 813 0), (.int 61 0), (.str "/claim/cut.py" 814)]), #[]⟩
noncomputable def ob168 (P : Params) : Obj := ⟨(.type "function"), none, (.func (fnOf "_law_sign" "_law_sign" (fnP (stN 26)) (fnB (stN 26)) (fnS (stN 26)) .none .none .none (.str "law_sr0008_01" 803) none (.ref 167) .none)), #[]⟩
noncomputable def ob169 (P : Params) : Obj := ⟨(.type "tuple"), none, (.seq #[] 0), #[]⟩
noncomputable def ob170 (P : Params) : Obj := ⟨.none, none, (.fields #[]), #[]⟩
noncomputable def ob171 (P : Params) : Obj := ⟨(.type "tuple"), none, (.seq #[(.str "line" 819), (.str "told" 820), (.str "i" 821), (.str "ahead" 822)] 0), #[]⟩
noncomputable def ob172 (P : Params) : Obj := ⟨(.type "tuple"), none, (.seq #[] 0), #[]⟩
noncomputable def ob173 (P : Params) : Obj := ⟨.none, none, (.func { (fnOf "_law_sent" "_law_sent" (fnP (stN 27)) (fnB (stN 27)) (fnS (stN 27)) .none .none .none .none none .none .none) with globals := 0 }), #[]⟩
noncomputable def ob174 (P : Params) : Obj := ⟨(.type "code"), none, (.fields #[(.str "_law_sent" 816), (.str "_law_sent" 817), (.str "/claim/cut.py" 818), (.int 86 0), (.int 1 0), (.int 0 0), (.int 0 0), (.int 3 0), (.ref 169), (.bool true), (.int 276 0), (.ref 170), .none, (.ref 171), (.ref 172), (.ref 173), (.int 823 0), (.int 86 0), (.str "/claim/cut.py" 824)]), #[]⟩
noncomputable def ob175 (P : Params) : Obj := ⟨(.type "function"), none, (.func (fnOf "_law_sent" "_law_sent" (fnP (stN 27)) (fnB (stN 27)) (fnS (stN 27)) .none .none .none (.str "law_sr0008_01" 803) none (.ref 174) .none)), #[]⟩
noncomputable def ob176 (P : Params) : Obj := ⟨(.type "tuple"), none, (.seq #[] 0), #[]⟩
noncomputable def ob177 (P : Params) : Obj := ⟨.none, none, (.fields #[]), #[]⟩
noncomputable def ob178 (P : Params) : Obj := ⟨(.type "tuple"), none, (.seq #[(.str "place" 829), (.str "names" 830)] 0), #[]⟩
noncomputable def ob179 (P : Params) : Obj := ⟨(.type "tuple"), none, (.seq #[] 0), #[]⟩
noncomputable def ob180 (P : Params) : Obj := ⟨.none, none, (.func { (fnOf "_law_flag" "_law_flag" (fnP (stN 28)) (fnB (stN 28)) (fnS (stN 28)) .none .none .none .none none .none .none) with globals := 0 }), #[]⟩
noncomputable def ob181 (P : Params) : Obj := ⟨(.type "code"), none, (.fields #[(.str "_law_flag" 826), (.str "_law_flag" 827), (.str "/claim/cut.py" 828), (.int 99 0), (.int 1 0), (.int 0 0), (.int 0 0), (.int 3 0), (.ref 176), (.bool true), (.int 276 0), (.ref 177), .none, (.ref 178), (.ref 179), (.ref 180), (.int 831 0), (.int 99 0), (.str "/claim/cut.py" 832)]), #[]⟩
noncomputable def ob182 (P : Params) : Obj := ⟨(.type "function"), none, (.func (fnOf "_law_flag" "_law_flag" (fnP (stN 28)) (fnB (stN 28)) (fnS (stN 28)) .none .none .none (.str "law_sr0008_01" 803) none (.ref 181) .none)), #[]⟩
noncomputable def ob183 (P : Params) : Obj := ⟨(.type "tuple"), none, (.seq #[] 0), #[]⟩
noncomputable def ob184 (P : Params) : Obj := ⟨.none, none, (.fields #[]), #[]⟩
noncomputable def ob185 (P : Params) : Obj := ⟨.none, none, (.func { (fnOf "_law_bits" "_law_bits" (fnP (stN 29)) (fnB (stN 29)) (fnS (stN 29)) .none .none .none .none none .none .none) with globals := 0 }), #[]⟩
noncomputable def ob186 (P : Params) : Obj := ⟨(.type "code"), none, (.fields #[(.str "_law_bits" 834), (.str "_law_bits" 835), (.str "/claim/cut.py" 836), (.int 104 0), (.int 1 0), (.int 0 0), (.int 0 0), (.int 3 0), (.ref 183), (.bool true), (.int 276 0), (.ref 184), .none, .none, .none, (.ref 185), (.int 837 0), (.int 104 0), (.str "/claim/cut.py" 838)]), #[]⟩
noncomputable def ob187 (P : Params) : Obj := ⟨(.type "function"), none, (.func (fnOf "_law_bits" "_law_bits" (fnP (stN 29)) (fnB (stN 29)) (fnS (stN 29)) .none .none .none (.str "law_sr0008_01" 803) none (.ref 186) .none)), #[]⟩
noncomputable def ob188 (P : Params) : Obj := ⟨(.type "tuple"), none, (.seq #[] 0), #[]⟩
noncomputable def ob189 (P : Params) : Obj := ⟨.none, none, (.fields #[]), #[]⟩
noncomputable def ob190 (P : Params) : Obj := ⟨.none, none, (.func { (fnOf "_law_served" "_law_served" (fnP (stN 30)) (fnB (stN 30)) (fnS (stN 30)) .none .none .none .none none .none .none) with globals := 0 }), #[]⟩
noncomputable def ob191 (P : Params) : Obj := ⟨(.type "code"), none, (.fields #[(.str "_law_served" 840), (.str "_law_served" 841), (.str "/claim/cut.py" 842), (.int 106 0), (.int 1 0), (.int 0 0), (.int 0 0), (.int 3 0), (.ref 188), (.bool true), (.int 276 0), (.ref 189), .none, .none, .none, (.ref 190), (.int 843 0), (.int 106 0), (.str "/claim/cut.py" 844)]), #[]⟩
noncomputable def ob192 (P : Params) : Obj := ⟨(.type "function"), none, (.func (fnOf "_law_served" "_law_served" (fnP (stN 30)) (fnB (stN 30)) (fnS (stN 30)) .none .none .none (.str "law_sr0008_01" 803) none (.ref 191) .none)), #[]⟩
noncomputable def ob193 (P : Params) : Obj := ⟨(.type "tuple"), none, (.seq #[] 0), #[]⟩
noncomputable def ob194 (P : Params) : Obj := ⟨.none, none, (.fields #[]), #[]⟩
noncomputable def ob195 (P : Params) : Obj := ⟨(.type "tuple"), none, (.seq #[(.str "masks" 849), (.str "want" 850), (.str "group" 851), (.str "met" 852), (.str "many" 853), (.str "i" 854), (.str "names" 855)] 0), #[]⟩
noncomputable def ob196 (P : Params) : Obj := ⟨(.type "tuple"), none, (.seq #[] 0), #[]⟩
noncomputable def ob197 (P : Params) : Obj := ⟨.none, none, (.func { (fnOf "_law_want" "_law_want" (fnP (stN 31)) (fnB (stN 31)) (fnS (stN 31)) .none .none .none .none none .none .none) with globals := 0 }), #[]⟩
noncomputable def ob198 (P : Params) : Obj := ⟨(.type "code"), none, (.fields #[(.str "_law_want" 846), (.str "_law_want" 847), (.str "/claim/cut.py" 848), (.int 112 0), (.int 1 0), (.int 0 0), (.int 0 0), (.int 3 0), (.ref 193), (.bool true), (.int 276 0), (.ref 194), .none, (.ref 195), (.ref 196), (.ref 197), (.int 856 0), (.int 112 0), (.str "/claim/cut.py" 857)]), #[]⟩
noncomputable def ob199 (P : Params) : Obj := ⟨(.type "function"), none, (.func (fnOf "_law_want" "_law_want" (fnP (stN 31)) (fnB (stN 31)) (fnS (stN 31)) .none .none .none (.str "law_sr0008_01" 803) none (.ref 198) .none)), #[]⟩
noncomputable def ob200 (P : Params) : Obj := ⟨(.type "tuple"), none, (.seq #[] 0), #[]⟩
noncomputable def ob201 (P : Params) : Obj := ⟨.none, none, (.fields #[]), #[]⟩
noncomputable def ob202 (P : Params) : Obj := ⟨.none, none, (.func { (fnOf "law" "law" (fnP (stN 32)) (fnB (stN 32)) (fnS (stN 32)) .none .none .none .none none .none .none) with globals := 0 }), #[]⟩
noncomputable def ob203 (P : Params) : Obj := ⟨(.type "code"), none, (.fields #[(.str "law" 859), (.str "law" 860), (.str "/claim/cut.py" 861), (.int 124 0), (.int 1 0), (.int 0 0), (.int 0 0), (.int 3 0), (.ref 200), (.bool true), (.int 276 0), (.ref 201), .none, .none, .none, (.ref 202), (.int 862 0), (.int 124 0), (.str "/claim/cut.py" 863)]), #[]⟩
noncomputable def ob204 (P : Params) : Obj := ⟨(.type "function"), none, (.func (fnOf "law" "law" (fnP (stN 32)) (fnB (stN 32)) (fnS (stN 32)) .none .none .none (.str "law_sr0008_01" 803) none (.ref 203) .none)), #[]⟩
noncomputable def ob3z (P : Params) : Obj := ⟨(.type "dict"), none, (.dict #[⟨PyData.keyHash P "__name__", (.str "__name__" 165), (.str "__main__" 164)⟩, ⟨PyData.keyHash P "__doc__", (.str "__doc__" 166), .none⟩, ⟨PyData.keyHash P "__package__", (.str "__package__" 167), .none⟩, ⟨PyData.keyHash P "__loader__", (.str "__loader__" 168), (.builtin "__main__.__loader__#\x6fpaque")⟩, ⟨PyData.keyHash P "__spec__", (.str "__spec__" 169), .none⟩, ⟨PyData.keyHash P "__annotations__", (.str "__annotations__" 170), (.ref 6)⟩, ⟨PyData.keyHash P "__builtins__", (.str "__builtins__" 171), (.ref 4)⟩, ⟨PyData.keyHash P "__file__", (.str "__file__" 173), (.str "/claim/cut.py" 172)⟩, ⟨PyData.keyHash P "__cached__", (.str "__cached__" 174), .none⟩, ⟨PyData.keyHash P "_sre", (.str "_sre" 275), (.ref 12)⟩] 10), #[]⟩
noncomputable def trz (P : Params) : BT := (.node (ob0 P) (.node (ob1 P) (.node (ob3z P) (.node (ob7 P) (.node (ob15 P) .nil .nil) (.node (ob23 P) .nil .nil)) (.node (ob11 P) (.node (ob19 P) .nil .nil) (.node (ob27 P) .nil .nil))) (.node (ob5 P) (.node (ob9 P) (.node (ob17 P) .nil .nil) (.node (ob25 P) .nil .nil)) (.node (ob13 P) (.node (ob21 P) .nil .nil) .nil))) (.node (ob2 P) (.node (ob4 P) (.node (ob8 P) (.node (ob16 P) .nil .nil) (.node (ob24 P) .nil .nil)) (.node (ob12 P) (.node (ob20 P) .nil .nil) .nil)) (.node (ob6 P) (.node (ob10 P) (.node (ob18 P) .nil .nil) (.node (ob26 P) .nil .nil)) (.node (ob14 P) (.node (ob22 P) .nil .nil) .nil))))
noncomputable def stz (w : World) (os : OsState) : SharedT := SharedT.mk (trz w.params) 28 {} #[] {} 276 os
noncomputable def ob3a (P : Params) : Obj := ⟨(.type "dict"), none, (.dict #[⟨PyData.keyHash P "__name__", (.str "__name__" 165), (.str "__main__" 164)⟩, ⟨PyData.keyHash P "__doc__", (.str "__doc__" 166), .none⟩, ⟨PyData.keyHash P "__package__", (.str "__package__" 167), .none⟩, ⟨PyData.keyHash P "__loader__", (.str "__loader__" 168), (.builtin "__main__.__loader__#\x6fpaque")⟩, ⟨PyData.keyHash P "__spec__", (.str "__spec__" 169), .none⟩, ⟨PyData.keyHash P "__annotations__", (.str "__annotations__" 170), (.ref 6)⟩, ⟨PyData.keyHash P "__builtins__", (.str "__builtins__" 171), (.ref 4)⟩, ⟨PyData.keyHash P "__file__", (.str "__file__" 173), (.str "/claim/cut.py" 172)⟩, ⟨PyData.keyHash P "__cached__", (.str "__cached__" 174), .none⟩, ⟨PyData.keyHash P "_sre", (.str "_sre" 275), (.ref 12)⟩] 10), #[]⟩
noncomputable def ob29a (P : Params) : Obj := ⟨.none, none, (.fields #[]), #[]⟩
noncomputable def tra (P : Params) : BT := (.node (ob0 P) (.node (ob1 P) (.node (ob3a P) (.node (ob7 P) (.node (ob15 P) (.node (ob31 P) .nil .nil) .nil) (.node (ob23 P) .nil .nil)) (.node (ob11 P) (.node (ob19 P) .nil .nil) (.node (ob27 P) .nil .nil))) (.node (ob5 P) (.node (ob9 P) (.node (ob17 P) .nil .nil) (.node (ob25 P) .nil .nil)) (.node (ob13 P) (.node (ob21 P) .nil .nil) (.node (ob29a P) .nil .nil)))) (.node (ob2 P) (.node (ob4 P) (.node (ob8 P) (.node (ob16 P) .nil .nil) (.node (ob24 P) .nil .nil)) (.node (ob12 P) (.node (ob20 P) .nil .nil) (.node (ob28 P) .nil .nil))) (.node (ob6 P) (.node (ob10 P) (.node (ob18 P) .nil .nil) (.node (ob26 P) .nil .nil)) (.node (ob14 P) (.node (ob22 P) .nil .nil) (.node (ob30 P) .nil .nil)))))
noncomputable def sta (w : World) (os : OsState) : SharedT := SharedT.mk (tra w.params) 32 {} #[] {} 282 os
noncomputable def ob3b (P : Params) : Obj := ⟨(.type "dict"), none, (.dict #[⟨PyData.keyHash P "__name__", (.str "__name__" 165), (.str "cpy313.stringprep" 415)⟩, ⟨PyData.keyHash P "__doc__", (.str "__doc__" 166), .none⟩, ⟨PyData.keyHash P "__package__", (.str "__package__" 167), .none⟩, ⟨PyData.keyHash P "__loader__", (.str "__loader__" 168), (.builtin "__main__.__loader__#\x6fpaque")⟩, ⟨PyData.keyHash P "__spec__", (.str "__spec__" 169), .none⟩, ⟨PyData.keyHash P "__annotations__", (.str "__annotations__" 170), (.ref 6)⟩, ⟨PyData.keyHash P "__builtins__", (.str "__builtins__" 171), (.ref 4)⟩, ⟨PyData.keyHash P "__file__", (.str "__file__" 173), (.str "/claim/cut.py" 172)⟩, ⟨PyData.keyHash P "__cached__", (.str "__cached__" 174), .none⟩, ⟨PyData.keyHash P "_sre", (.str "_sre" 275), (.ref 12)⟩, ⟨PyData.keyHash P "TICK", (.str "TICK" 285), (.str "'" 284)⟩, ⟨PyData.keyHash P "decode_rfc2231", (.str "decode_rfc2231" 293), (.ref 38)⟩, ⟨PyData.keyHash P "COMPILER_FLAG_NAMES", (.str "COMPILER_FLAG_NAMES" 326), (.ref 39)⟩, ⟨PyData.keyHash P "pretty_flags", (.str "pretty_flags" 336), (.ref 46)⟩, ⟨PyData.keyHash P "_parse_varint", (.str "_parse_varint" 345), (.ref 53)⟩, ⟨PyData.keyHash P "_twin_re_1", (.str "_twin_re_1" 363), (.ref 58)⟩, ⟨PyData.keyHash P "_twin_re_2", (.str "_twin_re_2" 405), (.ref 63)⟩, ⟨PyData.keyHash P "CRLF", (.str "CRLF" 407), (.str (PySem.Str.mk #[13, 10]) 406)⟩, ⟨PyData.keyHash P "quotedata", (.str "quotedata" 414), (.ref 70)⟩] 19), #[]⟩
noncomputable def ob29b (P : Params) : Obj := ⟨.none, none, (.fields #[(.int 4 0), (.int 0 0), (.ref 37), (.int 11 0), (.int 0 0), (.ref 45), (.int 23 0), (.int 0 0), (.ref 52), (.int 35 0), (.int 0 0), (.ref 69)]), #[]⟩
noncomputable def trb (P : Params) : BT := (.node (ob0 P) (.node (ob1 P) (.node (ob3b P) (.node (ob7 P) (.node (ob15 P) (.node (ob31 P) (.node (ob63 P) .nil .nil) .nil) (.node (ob47 P) .nil .nil)) (.node (ob23 P) (.node (ob39 P) .nil .nil) (.node (ob55 P) .nil .nil))) (.node (ob11 P) (.node (ob19 P) (.node (ob35 P) (.node (ob67 P) .nil .nil) .nil) (.node (ob51 P) .nil .nil)) (.node (ob27 P) (.node (ob43 P) .nil .nil) (.node (ob59 P) .nil .nil)))) (.node (ob5 P) (.node (ob9 P) (.node (ob17 P) (.node (ob33 P) (.node (ob65 P) .nil .nil) .nil) (.node (ob49 P) .nil .nil)) (.node (ob25 P) (.node (ob41 P) .nil .nil) (.node (ob57 P) .nil .nil))) (.node (ob13 P) (.node (ob21 P) (.node (ob37 P) (.node (ob69 P) .nil .nil) .nil) (.node (ob53 P) .nil .nil)) (.node (ob29b P) (.node (ob45 P) .nil .nil) (.node (ob61 P) .nil .nil))))) (.node (ob2 P) (.node (ob4 P) (.node (ob8 P) (.node (ob16 P) (.node (ob32 P) (.node (ob64 P) .nil .nil) .nil) (.node (ob48 P) .nil .nil)) (.node (ob24 P) (.node (ob40 P) .nil .nil) (.node (ob56 P) .nil .nil))) (.node (ob12 P) (.node (ob20 P) (.node (ob36 P) (.node (ob68 P) .nil .nil) .nil) (.node (ob52 P) .nil .nil)) (.node (ob28 P) (.node (ob44 P) .nil .nil) (.node (ob60 P) .nil .nil)))) (.node (ob6 P) (.node (ob10 P) (.node (ob18 P) (.node (ob34 P) (.node (ob66 P) .nil .nil) .nil) (.node (ob50 P) .nil .nil)) (.node (ob26 P) (.node (ob42 P) .nil .nil) (.node (ob58 P) .nil .nil))) (.node (ob14 P) (.node (ob22 P) (.node (ob38 P) (.node (ob70 P) .nil .nil) .nil) (.node (ob54 P) .nil .nil)) (.node (ob30 P) (.node (ob46 P) .nil .nil) (.node (ob62 P) .nil .nil))))))
noncomputable def stb (w : World) (os : OsState) : SharedT := SharedT.mk (trb w.params) 71 {} #[] {} 417 os
noncomputable def ob3c (P : Params) : Obj := ⟨(.type "dict"), none, (.dict #[⟨PyData.keyHash P "__name__", (.str "__name__" 165), (.str "cpy313.stringprep" 415)⟩, ⟨PyData.keyHash P "__doc__", (.str "__doc__" 166), .none⟩, ⟨PyData.keyHash P "__package__", (.str "__package__" 167), .none⟩, ⟨PyData.keyHash P "__loader__", (.str "__loader__" 168), (.builtin "__main__.__loader__#\x6fpaque")⟩, ⟨PyData.keyHash P "__spec__", (.str "__spec__" 169), .none⟩, ⟨PyData.keyHash P "__annotations__", (.str "__annotations__" 170), (.ref 6)⟩, ⟨PyData.keyHash P "__builtins__", (.str "__builtins__" 171), (.ref 4)⟩, ⟨PyData.keyHash P "__file__", (.str "__file__" 173), (.str "/claim/cut.py" 172)⟩, ⟨PyData.keyHash P "__cached__", (.str "__cached__" 174), .none⟩, ⟨PyData.keyHash P "_sre", (.str "_sre" 275), (.ref 12)⟩, ⟨PyData.keyHash P "TICK", (.str "TICK" 285), (.str "'" 284)⟩, ⟨PyData.keyHash P "decode_rfc2231", (.str "decode_rfc2231" 293), (.ref 38)⟩, ⟨PyData.keyHash P "COMPILER_FLAG_NAMES", (.str "COMPILER_FLAG_NAMES" 326), (.ref 39)⟩, ⟨PyData.keyHash P "pretty_flags", (.str "pretty_flags" 336), (.ref 46)⟩, ⟨PyData.keyHash P "_parse_varint", (.str "_parse_varint" 345), (.ref 53)⟩, ⟨PyData.keyHash P "_twin_re_1", (.str "_twin_re_1" 363), (.ref 58)⟩, ⟨PyData.keyHash P "_twin_re_2", (.str "_twin_re_2" 405), (.ref 63)⟩, ⟨PyData.keyHash P "CRLF", (.str "CRLF" 407), (.str (PySem.Str.mk #[13, 10]) 406)⟩, ⟨PyData.keyHash P "quotedata", (.str "quotedata" 414), (.ref 70)⟩, ⟨PyData.keyHash P "b1_set", (.str "b1_set" 476), (.ref 78)⟩] 20), #[]⟩
noncomputable def ob29c (P : Params) : Obj := ⟨.none, none, (.fields #[(.int 4 0), (.int 0 0), (.ref 37), (.int 11 0), (.int 0 0), (.ref 45), (.int 23 0), (.int 0 0), (.ref 52), (.int 35 0), (.int 0 0), (.ref 69)]), #[]⟩
noncomputable def trc (P : Params) : BT := (.node (ob0 P) (.node (ob1 P) (.node (ob3c P) (.node (ob7 P) (.node (ob15 P) (.node (ob31 P) (.node (ob63 P) .nil .nil) .nil) (.node (ob47 P) (.node (ob79 P) .nil .nil) .nil)) (.node (ob23 P) (.node (ob39 P) (.node (ob71 P) .nil .nil) .nil) (.node (ob55 P) .nil .nil))) (.node (ob11 P) (.node (ob19 P) (.node (ob35 P) (.node (ob67 P) .nil .nil) .nil) (.node (ob51 P) .nil .nil)) (.node (ob27 P) (.node (ob43 P) (.node (ob75 P) .nil .nil) .nil) (.node (ob59 P) .nil .nil)))) (.node (ob5 P) (.node (ob9 P) (.node (ob17 P) (.node (ob33 P) (.node (ob65 P) .nil .nil) .nil) (.node (ob49 P) (.node (ob81 P) .nil .nil) .nil)) (.node (ob25 P) (.node (ob41 P) (.node (ob73 P) .nil .nil) .nil) (.node (ob57 P) .nil .nil))) (.node (ob13 P) (.node (ob21 P) (.node (ob37 P) (.node (ob69 P) .nil .nil) .nil) (.node (ob53 P) .nil .nil)) (.node (ob29c P) (.node (ob45 P) (.node (ob77 P) .nil .nil) .nil) (.node (ob61 P) .nil .nil))))) (.node (ob2 P) (.node (ob4 P) (.node (ob8 P) (.node (ob16 P) (.node (ob32 P) (.node (ob64 P) .nil .nil) .nil) (.node (ob48 P) (.node (ob80 P) .nil .nil) .nil)) (.node (ob24 P) (.node (ob40 P) (.node (ob72 P) .nil .nil) .nil) (.node (ob56 P) .nil .nil))) (.node (ob12 P) (.node (ob20 P) (.node (ob36 P) (.node (ob68 P) .nil .nil) .nil) (.node (ob52 P) .nil .nil)) (.node (ob28 P) (.node (ob44 P) (.node (ob76 P) .nil .nil) .nil) (.node (ob60 P) .nil .nil)))) (.node (ob6 P) (.node (ob10 P) (.node (ob18 P) (.node (ob34 P) (.node (ob66 P) .nil .nil) .nil) (.node (ob50 P) .nil .nil)) (.node (ob26 P) (.node (ob42 P) (.node (ob74 P) .nil .nil) .nil) (.node (ob58 P) .nil .nil))) (.node (ob14 P) (.node (ob22 P) (.node (ob38 P) (.node (ob70 P) .nil .nil) .nil) (.node (ob54 P) .nil .nil)) (.node (ob30 P) (.node (ob46 P) (.node (ob78 P) .nil .nil) .nil) (.node (ob62 P) .nil .nil))))))
noncomputable def stc (w : World) (os : OsState) : SharedT := SharedT.mk (trc w.params) 82 {} #[] {} 477 os
noncomputable def ob3d (P : Params) : Obj := ⟨(.type "dict"), none, (.dict #[⟨PyData.keyHash P "__name__", (.str "__name__" 165), (.str "cpy313.stringprep" 415)⟩, ⟨PyData.keyHash P "__doc__", (.str "__doc__" 166), .none⟩, ⟨PyData.keyHash P "__package__", (.str "__package__" 167), .none⟩, ⟨PyData.keyHash P "__loader__", (.str "__loader__" 168), (.builtin "__main__.__loader__#\x6fpaque")⟩, ⟨PyData.keyHash P "__spec__", (.str "__spec__" 169), .none⟩, ⟨PyData.keyHash P "__annotations__", (.str "__annotations__" 170), (.ref 6)⟩, ⟨PyData.keyHash P "__builtins__", (.str "__builtins__" 171), (.ref 4)⟩, ⟨PyData.keyHash P "__file__", (.str "__file__" 173), (.str "/claim/cut.py" 172)⟩, ⟨PyData.keyHash P "__cached__", (.str "__cached__" 174), .none⟩, ⟨PyData.keyHash P "_sre", (.str "_sre" 275), (.ref 12)⟩, ⟨PyData.keyHash P "TICK", (.str "TICK" 285), (.str "'" 284)⟩, ⟨PyData.keyHash P "decode_rfc2231", (.str "decode_rfc2231" 293), (.ref 38)⟩, ⟨PyData.keyHash P "COMPILER_FLAG_NAMES", (.str "COMPILER_FLAG_NAMES" 326), (.ref 39)⟩, ⟨PyData.keyHash P "pretty_flags", (.str "pretty_flags" 336), (.ref 46)⟩, ⟨PyData.keyHash P "_parse_varint", (.str "_parse_varint" 345), (.ref 53)⟩, ⟨PyData.keyHash P "_twin_re_1", (.str "_twin_re_1" 363), (.ref 58)⟩, ⟨PyData.keyHash P "_twin_re_2", (.str "_twin_re_2" 405), (.ref 63)⟩, ⟨PyData.keyHash P "CRLF", (.str "CRLF" 407), (.str (PySem.Str.mk #[13, 10]) 406)⟩, ⟨PyData.keyHash P "quotedata", (.str "quotedata" 414), (.ref 70)⟩, ⟨PyData.keyHash P "b1_set", (.str "b1_set" 476), (.ref 78)⟩, ⟨PyData.keyHash P "in_table_b1", (.str "in_table_b1" 483), (.ref 88)⟩, ⟨PyData.keyHash P "in_table_c4", (.str "in_table_c4" 491), (.ref 95)⟩, ⟨PyData.keyHash P "c6_set", (.str "c6_set" 505), (.ref 97)⟩, ⟨PyData.keyHash P "in_table_c6", (.str "in_table_c6" 512), (.ref 107)⟩, ⟨PyData.keyHash P "c7_set", (.str "c7_set" 540), (.ref 109)⟩, ⟨PyData.keyHash P "in_table_c7", (.str "in_table_c7" 547), (.ref 119)⟩, ⟨PyData.keyHash P "c8_set", (.str "c8_set" 588), (.ref 133)⟩, ⟨PyData.keyHash P "in_table_c8", (.str "in_table_c8" 595), (.ref 143)⟩] 28), #[]⟩
noncomputable def ob29d (P : Params) : Obj := ⟨.none, none, (.fields #[(.int 4 0), (.int 0 0), (.ref 37), (.int 11 0), (.int 0 0), (.ref 45), (.int 23 0), (.int 0 0), (.ref 52), (.int 35 0), (.int 0 0), (.ref 69), (.int 39 0), (.int 0 0), (.ref 87), (.int 41 0), (.int 0 0), (.ref 94), (.int 49 0), (.int 0 0), (.ref 106), (.int 52 0), (.int 0 0), (.ref 118), (.int 55 0), (.int 0 0), (.ref 142)]), #[]⟩
noncomputable def trd (P : Params) : BT := (.node (ob0 P) (.node (ob1 P) (.node (ob3d P) (.node (ob7 P) (.node (ob15 P) (.node (ob31 P) (.node (ob63 P) (.node (ob127 P) .nil .nil) .nil) (.node (ob95 P) .nil .nil)) (.node (ob47 P) (.node (ob79 P) (.node (ob143 P) .nil .nil) .nil) (.node (ob111 P) .nil .nil))) (.node (ob23 P) (.node (ob39 P) (.node (ob71 P) (.node (ob135 P) .nil .nil) .nil) (.node (ob103 P) .nil .nil)) (.node (ob55 P) (.node (ob87 P) .nil .nil) (.node (ob119 P) .nil .nil)))) (.node (ob11 P) (.node (ob19 P) (.node (ob35 P) (.node (ob67 P) (.node (ob131 P) .nil .nil) .nil) (.node (ob99 P) .nil .nil)) (.node (ob51 P) (.node (ob83 P) .nil .nil) (.node (ob115 P) .nil .nil))) (.node (ob27 P) (.node (ob43 P) (.node (ob75 P) (.node (ob139 P) .nil .nil) .nil) (.node (ob107 P) .nil .nil)) (.node (ob59 P) (.node (ob91 P) .nil .nil) (.node (ob123 P) .nil .nil))))) (.node (ob5 P) (.node (ob9 P) (.node (ob17 P) (.node (ob33 P) (.node (ob65 P) (.node (ob129 P) .nil .nil) .nil) (.node (ob97 P) .nil .nil)) (.node (ob49 P) (.node (ob81 P) .nil .nil) (.node (ob113 P) .nil .nil))) (.node (ob25 P) (.node (ob41 P) (.node (ob73 P) (.node (ob137 P) .nil .nil) .nil) (.node (ob105 P) .nil .nil)) (.node (ob57 P) (.node (ob89 P) .nil .nil) (.node (ob121 P) .nil .nil)))) (.node (ob13 P) (.node (ob21 P) (.node (ob37 P) (.node (ob69 P) (.node (ob133 P) .nil .nil) .nil) (.node (ob101 P) .nil .nil)) (.node (ob53 P) (.node (ob85 P) .nil .nil) (.node (ob117 P) .nil .nil))) (.node (ob29d P) (.node (ob45 P) (.node (ob77 P) (.node (ob141 P) .nil .nil) .nil) (.node (ob109 P) .nil .nil)) (.node (ob61 P) (.node (ob93 P) .nil .nil) (.node (ob125 P) .nil .nil)))))) (.node (ob2 P) (.node (ob4 P) (.node (ob8 P) (.node (ob16 P) (.node (ob32 P) (.node (ob64 P) (.node (ob128 P) .nil .nil) .nil) (.node (ob96 P) .nil .nil)) (.node (ob48 P) (.node (ob80 P) .nil .nil) (.node (ob112 P) .nil .nil))) (.node (ob24 P) (.node (ob40 P) (.node (ob72 P) (.node (ob136 P) .nil .nil) .nil) (.node (ob104 P) .nil .nil)) (.node (ob56 P) (.node (ob88 P) .nil .nil) (.node (ob120 P) .nil .nil)))) (.node (ob12 P) (.node (ob20 P) (.node (ob36 P) (.node (ob68 P) (.node (ob132 P) .nil .nil) .nil) (.node (ob100 P) .nil .nil)) (.node (ob52 P) (.node (ob84 P) .nil .nil) (.node (ob116 P) .nil .nil))) (.node (ob28 P) (.node (ob44 P) (.node (ob76 P) (.node (ob140 P) .nil .nil) .nil) (.node (ob108 P) .nil .nil)) (.node (ob60 P) (.node (ob92 P) .nil .nil) (.node (ob124 P) .nil .nil))))) (.node (ob6 P) (.node (ob10 P) (.node (ob18 P) (.node (ob34 P) (.node (ob66 P) (.node (ob130 P) .nil .nil) .nil) (.node (ob98 P) .nil .nil)) (.node (ob50 P) (.node (ob82 P) .nil .nil) (.node (ob114 P) .nil .nil))) (.node (ob26 P) (.node (ob42 P) (.node (ob74 P) (.node (ob138 P) .nil .nil) .nil) (.node (ob106 P) .nil .nil)) (.node (ob58 P) (.node (ob90 P) .nil .nil) (.node (ob122 P) .nil .nil)))) (.node (ob14 P) (.node (ob22 P) (.node (ob38 P) (.node (ob70 P) (.node (ob134 P) .nil .nil) .nil) (.node (ob102 P) .nil .nil)) (.node (ob54 P) (.node (ob86 P) .nil .nil) (.node (ob118 P) .nil .nil))) (.node (ob30 P) (.node (ob46 P) (.node (ob78 P) (.node (ob142 P) .nil .nil) .nil) (.node (ob110 P) .nil .nil)) (.node (ob62 P) (.node (ob94 P) .nil .nil) (.node (ob126 P) .nil .nil)))))))
noncomputable def std (w : World) (os : OsState) : SharedT := SharedT.mk (trd w.params) 144 {} #[] {} 596 os
noncomputable def ob3e (P : Params) : Obj := ⟨(.type "dict"), none, (.dict #[⟨PyData.keyHash P "__name__", (.str "__name__" 165), (.str "cpy313.stringprep" 415)⟩, ⟨PyData.keyHash P "__doc__", (.str "__doc__" 166), .none⟩, ⟨PyData.keyHash P "__package__", (.str "__package__" 167), .none⟩, ⟨PyData.keyHash P "__loader__", (.str "__loader__" 168), (.builtin "__main__.__loader__#\x6fpaque")⟩, ⟨PyData.keyHash P "__spec__", (.str "__spec__" 169), .none⟩, ⟨PyData.keyHash P "__annotations__", (.str "__annotations__" 170), (.ref 6)⟩, ⟨PyData.keyHash P "__builtins__", (.str "__builtins__" 171), (.ref 4)⟩, ⟨PyData.keyHash P "__file__", (.str "__file__" 173), (.str "/claim/cut.py" 172)⟩, ⟨PyData.keyHash P "__cached__", (.str "__cached__" 174), .none⟩, ⟨PyData.keyHash P "_sre", (.str "_sre" 275), (.ref 12)⟩, ⟨PyData.keyHash P "TICK", (.str "TICK" 285), (.str "'" 284)⟩, ⟨PyData.keyHash P "decode_rfc2231", (.str "decode_rfc2231" 293), (.ref 38)⟩, ⟨PyData.keyHash P "COMPILER_FLAG_NAMES", (.str "COMPILER_FLAG_NAMES" 326), (.ref 39)⟩, ⟨PyData.keyHash P "pretty_flags", (.str "pretty_flags" 336), (.ref 46)⟩, ⟨PyData.keyHash P "_parse_varint", (.str "_parse_varint" 345), (.ref 53)⟩, ⟨PyData.keyHash P "_twin_re_1", (.str "_twin_re_1" 363), (.ref 58)⟩, ⟨PyData.keyHash P "_twin_re_2", (.str "_twin_re_2" 405), (.ref 63)⟩, ⟨PyData.keyHash P "CRLF", (.str "CRLF" 407), (.str (PySem.Str.mk #[13, 10]) 406)⟩, ⟨PyData.keyHash P "quotedata", (.str "quotedata" 414), (.ref 70)⟩, ⟨PyData.keyHash P "b1_set", (.str "b1_set" 476), (.ref 78)⟩, ⟨PyData.keyHash P "in_table_b1", (.str "in_table_b1" 483), (.ref 88)⟩, ⟨PyData.keyHash P "in_table_c4", (.str "in_table_c4" 491), (.ref 95)⟩, ⟨PyData.keyHash P "c6_set", (.str "c6_set" 505), (.ref 97)⟩, ⟨PyData.keyHash P "in_table_c6", (.str "in_table_c6" 512), (.ref 107)⟩, ⟨PyData.keyHash P "c7_set", (.str "c7_set" 540), (.ref 109)⟩, ⟨PyData.keyHash P "in_table_c7", (.str "in_table_c7" 547), (.ref 119)⟩, ⟨PyData.keyHash P "c8_set", (.str "c8_set" 588), (.ref 133)⟩, ⟨PyData.keyHash P "in_table_c8", (.str "in_table_c8" 595), (.ref 143)⟩, ⟨PyData.keyHash P "c9_set", (.str "c9_set" 795), (.ref 151)⟩] 29), #[]⟩
noncomputable def ob29e (P : Params) : Obj := ⟨.none, none, (.fields #[(.int 4 0), (.int 0 0), (.ref 37), (.int 11 0), (.int 0 0), (.ref 45), (.int 23 0), (.int 0 0), (.ref 52), (.int 35 0), (.int 0 0), (.ref 69), (.int 39 0), (.int 0 0), (.ref 87), (.int 41 0), (.int 0 0), (.ref 94), (.int 49 0), (.int 0 0), (.ref 106), (.int 52 0), (.int 0 0), (.ref 118), (.int 55 0), (.int 0 0), (.ref 142)]), #[]⟩
noncomputable def tre (P : Params) : BT := (.node (ob0 P) (.node (ob1 P) (.node (ob3e P) (.node (ob7 P) (.node (ob15 P) (.node (ob31 P) (.node (ob63 P) (.node (ob127 P) .nil .nil) .nil) (.node (ob95 P) .nil .nil)) (.node (ob47 P) (.node (ob79 P) (.node (ob143 P) .nil .nil) .nil) (.node (ob111 P) .nil .nil))) (.node (ob23 P) (.node (ob39 P) (.node (ob71 P) (.node (ob135 P) .nil .nil) .nil) (.node (ob103 P) .nil .nil)) (.node (ob55 P) (.node (ob87 P) (.node (ob151 P) .nil .nil) .nil) (.node (ob119 P) .nil .nil)))) (.node (ob11 P) (.node (ob19 P) (.node (ob35 P) (.node (ob67 P) (.node (ob131 P) .nil .nil) .nil) (.node (ob99 P) .nil .nil)) (.node (ob51 P) (.node (ob83 P) (.node (ob147 P) .nil .nil) .nil) (.node (ob115 P) .nil .nil))) (.node (ob27 P) (.node (ob43 P) (.node (ob75 P) (.node (ob139 P) .nil .nil) .nil) (.node (ob107 P) .nil .nil)) (.node (ob59 P) (.node (ob91 P) .nil .nil) (.node (ob123 P) .nil .nil))))) (.node (ob5 P) (.node (ob9 P) (.node (ob17 P) (.node (ob33 P) (.node (ob65 P) (.node (ob129 P) .nil .nil) .nil) (.node (ob97 P) .nil .nil)) (.node (ob49 P) (.node (ob81 P) (.node (ob145 P) .nil .nil) .nil) (.node (ob113 P) .nil .nil))) (.node (ob25 P) (.node (ob41 P) (.node (ob73 P) (.node (ob137 P) .nil .nil) .nil) (.node (ob105 P) .nil .nil)) (.node (ob57 P) (.node (ob89 P) (.node (ob153 P) .nil .nil) .nil) (.node (ob121 P) .nil .nil)))) (.node (ob13 P) (.node (ob21 P) (.node (ob37 P) (.node (ob69 P) (.node (ob133 P) .nil .nil) .nil) (.node (ob101 P) .nil .nil)) (.node (ob53 P) (.node (ob85 P) (.node (ob149 P) .nil .nil) .nil) (.node (ob117 P) .nil .nil))) (.node (ob29e P) (.node (ob45 P) (.node (ob77 P) (.node (ob141 P) .nil .nil) .nil) (.node (ob109 P) .nil .nil)) (.node (ob61 P) (.node (ob93 P) .nil .nil) (.node (ob125 P) .nil .nil)))))) (.node (ob2 P) (.node (ob4 P) (.node (ob8 P) (.node (ob16 P) (.node (ob32 P) (.node (ob64 P) (.node (ob128 P) .nil .nil) .nil) (.node (ob96 P) .nil .nil)) (.node (ob48 P) (.node (ob80 P) (.node (ob144 P) .nil .nil) .nil) (.node (ob112 P) .nil .nil))) (.node (ob24 P) (.node (ob40 P) (.node (ob72 P) (.node (ob136 P) .nil .nil) .nil) (.node (ob104 P) .nil .nil)) (.node (ob56 P) (.node (ob88 P) (.node (ob152 P) .nil .nil) .nil) (.node (ob120 P) .nil .nil)))) (.node (ob12 P) (.node (ob20 P) (.node (ob36 P) (.node (ob68 P) (.node (ob132 P) .nil .nil) .nil) (.node (ob100 P) .nil .nil)) (.node (ob52 P) (.node (ob84 P) (.node (ob148 P) .nil .nil) .nil) (.node (ob116 P) .nil .nil))) (.node (ob28 P) (.node (ob44 P) (.node (ob76 P) (.node (ob140 P) .nil .nil) .nil) (.node (ob108 P) .nil .nil)) (.node (ob60 P) (.node (ob92 P) .nil .nil) (.node (ob124 P) .nil .nil))))) (.node (ob6 P) (.node (ob10 P) (.node (ob18 P) (.node (ob34 P) (.node (ob66 P) (.node (ob130 P) .nil .nil) .nil) (.node (ob98 P) .nil .nil)) (.node (ob50 P) (.node (ob82 P) (.node (ob146 P) .nil .nil) .nil) (.node (ob114 P) .nil .nil))) (.node (ob26 P) (.node (ob42 P) (.node (ob74 P) (.node (ob138 P) .nil .nil) .nil) (.node (ob106 P) .nil .nil)) (.node (ob58 P) (.node (ob90 P) (.node (ob154 P) .nil .nil) .nil) (.node (ob122 P) .nil .nil)))) (.node (ob14 P) (.node (ob22 P) (.node (ob38 P) (.node (ob70 P) (.node (ob134 P) .nil .nil) .nil) (.node (ob102 P) .nil .nil)) (.node (ob54 P) (.node (ob86 P) (.node (ob150 P) .nil .nil) .nil) (.node (ob118 P) .nil .nil))) (.node (ob30 P) (.node (ob46 P) (.node (ob78 P) (.node (ob142 P) .nil .nil) .nil) (.node (ob110 P) .nil .nil)) (.node (ob62 P) (.node (ob94 P) .nil .nil) (.node (ob126 P) .nil .nil)))))))
noncomputable def ste (w : World) (os : OsState) : SharedT := SharedT.mk (tre w.params) 155 {} #[] {} 796 os
noncomputable def trf (P : Params) : BT := (.node (ob0 P) (.node (ob1 P) (.node (ob3 P) (.node (ob7 P) (.node (ob15 P) (.node (ob31 P) (.node (ob63 P) (.node (ob127 P) .nil .nil) (.node (ob191 P) .nil .nil)) (.node (ob95 P) (.node (ob159 P) .nil .nil) .nil)) (.node (ob47 P) (.node (ob79 P) (.node (ob143 P) .nil .nil) .nil) (.node (ob111 P) (.node (ob175 P) .nil .nil) .nil))) (.node (ob23 P) (.node (ob39 P) (.node (ob71 P) (.node (ob135 P) .nil .nil) (.node (ob199 P) .nil .nil)) (.node (ob103 P) (.node (ob167 P) .nil .nil) .nil)) (.node (ob55 P) (.node (ob87 P) (.node (ob151 P) .nil .nil) .nil) (.node (ob119 P) (.node (ob183 P) .nil .nil) .nil)))) (.node (ob11 P) (.node (ob19 P) (.node (ob35 P) (.node (ob67 P) (.node (ob131 P) .nil .nil) (.node (ob195 P) .nil .nil)) (.node (ob99 P) (.node (ob163 P) .nil .nil) .nil)) (.node (ob51 P) (.node (ob83 P) (.node (ob147 P) .nil .nil) .nil) (.node (ob115 P) (.node (ob179 P) .nil .nil) .nil))) (.node (ob27 P) (.node (ob43 P) (.node (ob75 P) (.node (ob139 P) .nil .nil) (.node (ob203 P) .nil .nil)) (.node (ob107 P) (.node (ob171 P) .nil .nil) .nil)) (.node (ob59 P) (.node (ob91 P) (.node (ob155 P) .nil .nil) .nil) (.node (ob123 P) (.node (ob187 P) .nil .nil) .nil))))) (.node (ob5 P) (.node (ob9 P) (.node (ob17 P) (.node (ob33 P) (.node (ob65 P) (.node (ob129 P) .nil .nil) (.node (ob193 P) .nil .nil)) (.node (ob97 P) (.node (ob161 P) .nil .nil) .nil)) (.node (ob49 P) (.node (ob81 P) (.node (ob145 P) .nil .nil) .nil) (.node (ob113 P) (.node (ob177 P) .nil .nil) .nil))) (.node (ob25 P) (.node (ob41 P) (.node (ob73 P) (.node (ob137 P) .nil .nil) (.node (ob201 P) .nil .nil)) (.node (ob105 P) (.node (ob169 P) .nil .nil) .nil)) (.node (ob57 P) (.node (ob89 P) (.node (ob153 P) .nil .nil) .nil) (.node (ob121 P) (.node (ob185 P) .nil .nil) .nil)))) (.node (ob13 P) (.node (ob21 P) (.node (ob37 P) (.node (ob69 P) (.node (ob133 P) .nil .nil) (.node (ob197 P) .nil .nil)) (.node (ob101 P) (.node (ob165 P) .nil .nil) .nil)) (.node (ob53 P) (.node (ob85 P) (.node (ob149 P) .nil .nil) .nil) (.node (ob117 P) (.node (ob181 P) .nil .nil) .nil))) (.node (ob29 P) (.node (ob45 P) (.node (ob77 P) (.node (ob141 P) .nil .nil) .nil) (.node (ob109 P) (.node (ob173 P) .nil .nil) .nil)) (.node (ob61 P) (.node (ob93 P) (.node (ob157 P) .nil .nil) .nil) (.node (ob125 P) (.node (ob189 P) .nil .nil) .nil)))))) (.node (ob2 P) (.node (ob4 P) (.node (ob8 P) (.node (ob16 P) (.node (ob32 P) (.node (ob64 P) (.node (ob128 P) .nil .nil) (.node (ob192 P) .nil .nil)) (.node (ob96 P) (.node (ob160 P) .nil .nil) .nil)) (.node (ob48 P) (.node (ob80 P) (.node (ob144 P) .nil .nil) .nil) (.node (ob112 P) (.node (ob176 P) .nil .nil) .nil))) (.node (ob24 P) (.node (ob40 P) (.node (ob72 P) (.node (ob136 P) .nil .nil) (.node (ob200 P) .nil .nil)) (.node (ob104 P) (.node (ob168 P) .nil .nil) .nil)) (.node (ob56 P) (.node (ob88 P) (.node (ob152 P) .nil .nil) .nil) (.node (ob120 P) (.node (ob184 P) .nil .nil) .nil)))) (.node (ob12 P) (.node (ob20 P) (.node (ob36 P) (.node (ob68 P) (.node (ob132 P) .nil .nil) (.node (ob196 P) .nil .nil)) (.node (ob100 P) (.node (ob164 P) .nil .nil) .nil)) (.node (ob52 P) (.node (ob84 P) (.node (ob148 P) .nil .nil) .nil) (.node (ob116 P) (.node (ob180 P) .nil .nil) .nil))) (.node (ob28 P) (.node (ob44 P) (.node (ob76 P) (.node (ob140 P) .nil .nil) (.node (ob204 P) .nil .nil)) (.node (ob108 P) (.node (ob172 P) .nil .nil) .nil)) (.node (ob60 P) (.node (ob92 P) (.node (ob156 P) .nil .nil) .nil) (.node (ob124 P) (.node (ob188 P) .nil .nil) .nil))))) (.node (ob6 P) (.node (ob10 P) (.node (ob18 P) (.node (ob34 P) (.node (ob66 P) (.node (ob130 P) .nil .nil) (.node (ob194 P) .nil .nil)) (.node (ob98 P) (.node (ob162 P) .nil .nil) .nil)) (.node (ob50 P) (.node (ob82 P) (.node (ob146 P) .nil .nil) .nil) (.node (ob114 P) (.node (ob178 P) .nil .nil) .nil))) (.node (ob26 P) (.node (ob42 P) (.node (ob74 P) (.node (ob138 P) .nil .nil) (.node (ob202 P) .nil .nil)) (.node (ob106 P) (.node (ob170 P) .nil .nil) .nil)) (.node (ob58 P) (.node (ob90 P) (.node (ob154 P) .nil .nil) .nil) (.node (ob122 P) (.node (ob186 P) .nil .nil) .nil)))) (.node (ob14 P) (.node (ob22 P) (.node (ob38 P) (.node (ob70 P) (.node (ob134 P) .nil .nil) (.node (ob198 P) .nil .nil)) (.node (ob102 P) (.node (ob166 P) .nil .nil) .nil)) (.node (ob54 P) (.node (ob86 P) (.node (ob150 P) .nil .nil) .nil) (.node (ob118 P) (.node (ob182 P) .nil .nil) .nil))) (.node (ob30 P) (.node (ob46 P) (.node (ob78 P) (.node (ob142 P) .nil .nil) .nil) (.node (ob110 P) (.node (ob174 P) .nil .nil) .nil)) (.node (ob62 P) (.node (ob94 P) (.node (ob158 P) .nil .nil) .nil) (.node (ob126 P) (.node (ob190 P) .nil .nil) .nil)))))))
noncomputable def stf (w : World) (os : OsState) : SharedT := SharedT.mk (trf w.params) 205 {} #[] {} 865 os
noncomputable def KF (P : Params) : Frag := (nat_lit 2, ob2 P) :: (nat_lit 3, ob3 P) :: (nat_lit 37, ob37 P) :: (nat_lit 38, ob38 P) :: (nat_lit 39, ob39 P) :: (nat_lit 45, ob45 P) :: (nat_lit 46, ob46 P) :: (nat_lit 52, ob52 P) :: (nat_lit 53, ob53 P) :: (nat_lit 57, ob57 P) :: (nat_lit 58, ob58 P) :: (nat_lit 62, ob62 P) :: (nat_lit 63, ob63 P) :: (nat_lit 69, ob69 P) :: (nat_lit 70, ob70 P) :: (nat_lit 78, ob78 P) :: (nat_lit 87, ob87 P) :: (nat_lit 88, ob88 P) :: (nat_lit 94, ob94 P) :: (nat_lit 95, ob95 P) :: (nat_lit 97, ob97 P) :: (nat_lit 106, ob106 P) :: (nat_lit 107, ob107 P) :: (nat_lit 109, ob109 P) :: (nat_lit 118, ob118 P) :: (nat_lit 119, ob119 P) :: (nat_lit 133, ob133 P) :: (nat_lit 142, ob142 P) :: (nat_lit 143, ob143 P) :: (nat_lit 151, ob151 P) :: (nat_lit 160, ob160 P) :: (nat_lit 161, ob161 P) :: (nat_lit 167, ob167 P) :: (nat_lit 168, ob168 P) :: (nat_lit 174, ob174 P) :: (nat_lit 175, ob175 P) :: (nat_lit 181, ob181 P) :: (nat_lit 182, ob182 P) :: (nat_lit 186, ob186 P) :: (nat_lit 187, ob187 P) :: (nat_lit 191, ob191 P) :: (nat_lit 192, ob192 P) :: (nat_lit 198, ob198 P) :: (nat_lit 199, ob199 P) :: (nat_lit 203, ob203 P) :: (nat_lit 204, ob204 P) :: []
noncomputable def asK : List Addr := [2, 3, 37, 38, 39, 45, 46, 52, 53, 57, 58, 62, 63, 69, 70, 78, 87, 88, 94, 95, 97, 106, 107, 109, 118, 119, 133, 142, 143, 151, 160, 161, 167, 168, 174, 175, 181, 182, 186, 187, 191, 192, 198, 199, 203, 204]
noncomputable def qv : Program := view pw [0, 2, 3, 5, 6, 7, 9, 10, 11, 12, 14, 15, 16, 17, 18, 19, 20, 21, 22, 23, 24, 26, 27, 28, 29, 30, 31, 32]
noncomputable def loose : List Str := ["COMPILER_FLAG_NAMES", "_twin_re_1", "_twin_re_2", "b1_set", "c6_set", "c7_set", "c8_set", "c9_set"]
noncomputable def HK : Hook := kHook KF asK (fun _ => by kernel_rfl)
theorem byGet {P : World → Prop} (hf : ∀ w : World, P (w.withFollow "special-get-raises" false)) (ht : ∀ w : World, P (w.withFollow "special-get-raises" true)) (w : World) : P w := byRow2 "special-get-raises" hf ht w
noncomputable abbrev pq : Pos := { line := 0, col := 0, endLine := 0, endCol := 0 }
noncomputable abbrev annE : Option Value := some (.ref 6)
noncomputable def envE : Env := { scope := pw.main.scope, locals := mainNs, globals := mainNs, cells := [], code := .ref 30, frame := some 31 }
noncomputable def bE : List Stmt := behindTheImports pw
noncomputable def cE : Code := .body bE envE
noncomputable def lst (a b : Nat) : List Stmt := (bE.drop a).take b
theorem bE_split : bE = lst 0 13 ++ (lst 13 1 ++ (lst 14 8 ++ (lst 22 1 ++ (lst 23 9 ++ [])))) := by kernel_rfl
set_option maxHeartbeats 0 in
theorem hd_open : ∀ w : World, (fencedOpening treeTable pw w 14000).map (fun s => (s.heap, s.gens, s.drawn, s.toks)) = some (absHeap (trz w.params) 28 {}, #[], {}, 276) := fun w => by
  unfold fencedOpening
  rw [PySem.W.Fast.te10274390034422433532, PySem.W.Fast.te14289696077712309145, PySem.W.Fast.te1435165496053646825]
  kernel_rfl
set_option maxHeartbeats 0 in
theorem hd_size : ∀ w : World, ((absHeap (trz w.params) 28 {}).isNs mainGlobals && (#[] : Array GenState).size == 0, (absHeap (trz w.params) 28 {}).objs.size, (absHeap (trz w.params) 28 {}).nsMap mainGlobals "__annotations__") = (true, 28, annE) := fun w => by kernel_rfl
set_option maxHeartbeats 0 in
theorem hd_pre : ∀ (w : World) (os : OsState), topGo treeTable pw w 28 annE 12 (stz w os).abs (topStub pw) = some ((sta w os).abs, ⟨denote treeTable cE, cE, pq, [topFrame pq]⟩) := fun w os => by kernel_rfl
set_option maxHeartbeats 0 in
theorem hd_block : ∀ (w : World) (os : OsState), segRun treeTable pw w 28 annE 1 1 (sta w os).abs (blockOf bE envE cE pq [topFrame pq]) = some (.next, (sta w os).abs, cE, pq) := fun w os => by kernel_rfl
noncomputable abbrev pq0 : Pos := { line := 37, col := 0, endLine := 37, endCol := 8 }
set_option maxHeartbeats 0 in
theorem hd_p0f : ∀ w : World, ∀ os : OsState, segRunT treeTable pw (w.withFollow "special-get-raises" false) 28 annE 1 480 (sta (w.withFollow "special-get-raises" false) os) (piecesOf (lst 0 13) envE cE pq [topFrame pq]) = some (.next, stb (w.withFollow "special-get-raises" false) os, cE, pq0) := fun w os => by
  rw [tbF_eq]
  kernel_rfl
set_option maxHeartbeats 0 in
theorem hd_p0t : ∀ w : World, ∀ os : OsState, segRunT treeTable pw (w.withFollow "special-get-raises" true) 28 annE 1 480 (sta (w.withFollow "special-get-raises" true) os) (piecesOf (lst 0 13) envE cE pq [topFrame pq]) = some (.next, stb (w.withFollow "special-get-raises" true) os, cE, pq0) := fun w os => by
  rw [tbF_eq]
  kernel_rfl
theorem hd_p0 : ∀ w : World, ∀ os : OsState, segRunT treeTable pw (w) 28 annE 1 480 (sta (w) os) (piecesOf (lst 0 13) envE cE pq [topFrame pq]) = some (.next, stb (w) os, cE, pq0) := byGet hd_p0f hd_p0t
noncomputable abbrev pq1 : Pos := { line := 38, col := 0, endLine := 38, endCol := 6 }
set_option maxHeartbeats 0 in
theorem hd_p1f : ∀ w : World, ∀ os : OsState, segRunT treeTable pw (w.withFollow "special-get-raises" false) 28 annE 1 1010 (stb (w.withFollow "special-get-raises" false) os) (piecesOf (lst 13 1) envE cE pq0 [topFrame pq]) = some (.next, stc (w.withFollow "special-get-raises" false) os, cE, pq1) := fun w os => by
  rw [tbF_eq]
  kernel_rfl
set_option maxHeartbeats 0 in
theorem hd_p1t : ∀ w : World, ∀ os : OsState, segRunT treeTable pw (w.withFollow "special-get-raises" true) 28 annE 1 1010 (stb (w.withFollow "special-get-raises" true) os) (piecesOf (lst 13 1) envE cE pq0 [topFrame pq]) = some (.next, stc (w.withFollow "special-get-raises" true) os, cE, pq1) := fun w os => by
  rw [tbF_eq]
  kernel_rfl
theorem hd_p1 : ∀ w : World, ∀ os : OsState, segRunT treeTable pw (w) 28 annE 1 1010 (stb (w) os) (piecesOf (lst 13 1) envE cE pq0 [topFrame pq]) = some (.next, stc (w) os, cE, pq1) := byGet hd_p1f hd_p1t
noncomputable abbrev pq2 : Pos := { line := 55, col := 0, endLine := 56, endCol := 30 }
set_option maxHeartbeats 0 in
theorem hd_p2f : ∀ w : World, ∀ os : OsState, segRunT treeTable pw (w.withFollow "special-get-raises" false) 28 annE 1 1500 (stc (w.withFollow "special-get-raises" false) os) (piecesOf (lst 14 8) envE cE pq1 [topFrame pq]) = some (.next, std (w.withFollow "special-get-raises" false) os, cE, pq2) := fun w os => by
  rw [tbF_eq]
  kernel_rfl
set_option maxHeartbeats 0 in
theorem hd_p2t : ∀ w : World, ∀ os : OsState, segRunT treeTable pw (w.withFollow "special-get-raises" true) 28 annE 1 1500 (stc (w.withFollow "special-get-raises" true) os) (piecesOf (lst 14 8) envE cE pq1 [topFrame pq]) = some (.next, std (w.withFollow "special-get-raises" true) os, cE, pq2) := fun w os => by
  rw [tbF_eq]
  kernel_rfl
theorem hd_p2 : ∀ w : World, ∀ os : OsState, segRunT treeTable pw (w) 28 annE 1 1500 (stc (w) os) (piecesOf (lst 14 8) envE cE pq1 [topFrame pq]) = some (.next, std (w) os, cE, pq2) := byGet hd_p2f hd_p2t
noncomputable abbrev pq3 : Pos := { line := 57, col := 0, endLine := 57, endCol := 6 }
set_option maxHeartbeats 0 in
theorem hd_p3f : ∀ w : World, ∀ os : OsState, segRunT treeTable pw (w.withFollow "special-get-raises" false) 28 annE 1 3770 (std (w.withFollow "special-get-raises" false) os) (piecesOf (lst 22 1) envE cE pq2 [topFrame pq]) = some (.next, ste (w.withFollow "special-get-raises" false) os, cE, pq3) := fun w os => by
  rw [tbF_eq]
  kernel_rfl
set_option maxHeartbeats 0 in
theorem hd_p3t : ∀ w : World, ∀ os : OsState, segRunT treeTable pw (w.withFollow "special-get-raises" true) 28 annE 1 3770 (std (w.withFollow "special-get-raises" true) os) (piecesOf (lst 22 1) envE cE pq2 [topFrame pq]) = some (.next, ste (w.withFollow "special-get-raises" true) os, cE, pq3) := fun w os => by
  rw [tbF_eq]
  kernel_rfl
theorem hd_p3 : ∀ w : World, ∀ os : OsState, segRunT treeTable pw (w) 28 annE 1 3770 (std (w) os) (piecesOf (lst 22 1) envE cE pq2 [topFrame pq]) = some (.next, ste (w) os, cE, pq3) := byGet hd_p3f hd_p3t
noncomputable abbrev pq4 : Pos := { line := 124, col := 0, endLine := 162, endCol := 53 }
set_option maxHeartbeats 0 in
theorem hd_p4 : ∀ w : World, ∀ os : OsState, segRunT treeTable pw (w) 28 annE 1 260 (ste (w) os) (piecesOf (lst 23 9) envE cE pq3 [topFrame pq]) = some (.next, stf (w) os, cE, pq4) := fun w os => by
  rw [tbF_eq]
  kernel_rfl
set_option maxHeartbeats 0 in
theorem hd_fin : ∀ (w : World) (os : OsState), topRun treeTable pw w 28 annE 2 (stf w os).abs ⟨doneF .next, cE, pq4, [topFrame pq]⟩ = some (stf w os).abs := fun w os => by kernel_rfl
theorem hd_run (w : World) (os : OsState) : topRun treeTable pw w 28 annE (12 + (1 + (480 + (1010 + (1500 + (3770 + (260 + 2))))))) (stz w os).abs (topStub pw) = some (stf w os).abs := by
  have k5 := piece_nil (env := envE) (hd_fin w os)
  have k4 := piece_app (segRun_of (hd_p4 w os)) k5
  have k3 := piece_app (segRun_of (hd_p3 w os)) k4
  have k2 := piece_app (segRun_of (hd_p2 w os)) k3
  have k1 := piece_app (segRun_of (hd_p1 w os)) k2
  have k0 := piece_app (segRun_of (hd_p0 w os)) k1
  have kb : topRun treeTable pw w 28 annE (480 + (1010 + (1500 + (3770 + (260 + 2))))) (sta w os).abs (restOf bE envE cE pq [topFrame pq]) = some (stf w os).abs :=
    (congrArg (fun b => topRun treeTable pw w 28 annE (480 + (1010 + (1500 + (3770 + (260 + 2))))) (sta w os).abs (restOf b envE cE pq [topFrame pq])) bE_split).trans k0
  exact go_top (hd_pre w os) (piece_block (hd_block w os) kb)
set_option maxHeartbeats 0 in
theorem hd_looks : ∀ w : World, (fun os => ((staticsOk (importedModules pw.main.body) (absHeap (trz w.params) 28 {}) (absHeap (trf w.params) 205 {}) && namesBound pw (absHeap (trf w.params) 205 {}) && gensDone ⟨absHeap (trf w.params) 205 {}, #[], {}, 865, os⟩ && laidKept (absHeap (trz w.params) 28 {}) (absHeap (trf w.params) 205 {})),
    openSeen qv loose (importedModules pw.main.body) (fun s => xlAt qv [] s && recOk [] s) true ⟨absHeap (trf w.params) 205 {}, #[], {}, 865, os⟩, HK.obs ⟨absHeap (trf w.params) 205 {}, #[], {}, 865, os⟩)) = fun _ => (true, openGood qv loose, HK.val w) := fun w => by
  rw [PySem.W.Fast.te4187177175401517315]
  kernel_rfl
theorem left : LeftO pw qv loose (fun s => xlAt qv [] s && recOk [] s) HK.obs HK.val 14000 :=
  LeftO.of_pieces (H₀ := fun P => absHeap (trz P) 28 {}) (H₁ := fun P => absHeap (trf P) 205 {}) (gs₀ := #[]) (gs₁ := #[]) (d₀ := {}) (d₁ := {}) (k₀ := 276) (k₁ := 865) (m₀ := 28) (ann := annE) (M := 12 + (1 + (480 + (1010 + (1500 + (3770 + (260 + 2))))))) hd_open hd_size hd_run (by rfl) hd_looks
end Mine
end
section
open PySem PySem.W PyProof.Rows PySem.Calls
set_option maxRecDepth 100000
namespace Mine
noncomputable def Amb (w : World) (h : Heap) : Prop := (KF w.params).In h ∧ ∃ mean mg mb, Top qv (looseW qv loose) mean mg mb h
theorem Amb.keeps {w : World} {h h' : Heap} (x : Amb w h) (k : ∀ b o, h.get? b = some o → h'.get? b = some o) : Amb w h' :=
  ⟨x.1.keeps k, let ⟨a, b, c, t⟩ := x.2; ⟨a, b, c, t.keeps k⟩⟩
noncomputable abbrev AR (dp un : Nat) (fr : Option (List Env)) (gd : Option (List Code)) : Around := { handled := none, depth := dp, frames := fr, guards := gd, units := un }
noncomputable def PSpec (w : World) (f : Addr) (vs : List Value) (pre : Heap → Prop) (post : Value → Heap → Prop) : Prop :=
  ∀ (dp un : Nat) (fr : Option (List Env)) (gd : Option (List Code)) (s : Shared) (Q E : Value → Shared → Prop),
    Amb w s.heap → pre s.heap → dp + 8 < recursionLimit → un + 64 < cLine →
    (∀ v h' tk', (∀ b o, s.heap.get? b = some o → h'.get? b = some o) → post v h' → Q v { s with heap := h', toks := tk' }) →
    wpAny (model PySem.Challenge.rw_sr0008_01.prog w) (AR dp un fr gd) (call (.ref f) vs) Q E s
theorem fr_of_keeps {h₀ h h' : Heap} {L : Addr} {m : Str → Option Value} (F : Fr h₀ L h m) (hk : ∀ b o, h.get? b = some o → h'.get? b = some o) : Fr h₀ L h' m := F.keeps hk
theorem PSpec.use {w : World} {f : Addr} {vs : List Value} {pre : Heap → Prop} {post : Value → Heap → Prop} (S : PSpec w f vs pre post) {dp un : Nat} {fr : Option (List Env)} {gd : Option (List Code)} {s : Shared} {Q E : Value → Shared → Prop}
    {h₀ : Heap} {L : Addr} {m : Str → Option Value} {news : List (Addr × Obj)} {mean : ExcName → Option Value} {mg mb : Str → Option Value}
    (F : Fr h₀ L s.heap m) (X : (KF w.params).In h₀) (T : Top qv (looseW qv loose) mean mg mb h₀) (N : News h₀ L s.heap news) (hpre : pre s.heap) (hd : dp + 8 < recursionLimit) (hu : un + 64 < cLine)
    (h : ∀ v h' tk', Fr h₀ L h' m → News h₀ L h' news → (∀ b o, s.heap.get? b = some o → h'.get? b = some o) → post v h' → Q v { s with heap := h', toks := tk' }) :
    wpAny (model PySem.Challenge.rw_sr0008_01.prog w) (AR dp un fr gd) (call (.ref f) vs) Q E s :=
  S dp un fr gd s Q E ⟨X.keeps F.keep, _, _, _, T.keeps F.keep⟩ hpre hd hu fun v h' tk' hk hp => h v h' tk' (fr_of_keeps F hk) (N.grown hk) hk hp
theorem enterP (i c : Nat) {w : World} {f : Addr} {vs : List Value} {binds : List (Str × Value)} {name : Str} {pm : Value} {dp un : Nat} {fr : Option (List Env)} {gd : Option (List Code)} {s : Shared} {Q E : Value → Shared → Prop}
    (A : Amb w s.heap) (hd : dp + 8 < recursionLimit)
    (ho : (KF w.params).lookup f = some ⟨.type "function", none, .func (fnOf name name (fnP (stN i)) (fnB (stN i)) (fnS (stN i)) .none .none .none pm none (.ref c) .none), #[]⟩)
    (hcd : codeIn (KF w.params) (.ref c) name = true)
    (hbind : bindArgs (docDef name (fnP (stN i)) (fnB (stN i)) (fnS (stN i)) pm (.ref c) .none) ⟨vs, []⟩ = pure binds)
    (hloc : (binds.all fun x => decide ((fnS (stN i)).names.lookup x.1 = some .local)) = true)
    (hco : (fnS (stN i)).isCoroutine = false) (hgen : (fnS (stN i)).isGenerator = false) (hk : (fnS (stN i)).kind = .function)
    (hcell : ∀ x ∈ (fnS (stN i)).names, x.2 ≠ .cell)
    (h : ∀ mean mg mb g h₁ L, g = s.heap → (KF w.params).In g → Top qv (looseW qv loose) mean mg mb g → Fr g L h₁ (fun x => binds.reverse.lookup x) → News g L h₁ [] →
      wpAny (model PySem.Challenge.rw_sr0008_01.prog w) ((AR dp un fr gd).deeper (envOf name (fnS (stN i)) L f (.ref c))) (execs (fnB (stN i)) (envOf name (fnS (stN i)) L f (.ref c)))
        (fun fl s' => Q (match fl with | .ret v => v | _ => .none) s') (fun _ _ => False) { s with heap := h₁, toks := s.toks + binds.length }) :
    wpAny (model PySem.Challenge.rw_sr0008_01.prog w) (AR dp un fr gd) (call (.ref f) vs) Q E s := by
  obtain ⟨X, mean, mg, mb, T⟩ := A
  exact wpAny_call (call_plain_ret (by show dp < recursionLimit; omega) (X _ _ ho) rfl T.nolimit (codeRec_of X hcd) hbind (locs hloc) (fun h₁ F => h mean mg mb _ h₁ _ rfl X T F News.nil) hco hgen hk hcell)
end Mine
end
section
open PySem PySem.W PyProof.Rows PySem.Calls
set_option maxRecDepth 100000
namespace Mine
theorem N_list {g h : Heap} {L l : Addr} {vs : List Value} {n : Nat} {news : List (Addr × Obj)} (N : News g L h news) (hm : (l, ({ cls := .type "list", data := .seq vs.toArray n } : Obj)) ∈ news) : h.IsList l vs.toArray :=
  ⟨_, (N _ hm).1, rfl, n, rfl⟩
theorem len_N {prog : Program} {w : World} {A : Around} {g : Heap} {L l : Addr} {vs : List Value} {n : Nat} {news : List (Addr × Obj)} {s : Shared} {Q E : Value → Shared → Prop} (N : News g L s.heap news)
    (hm : (l, ({ cls := .type "list", data := .seq vs.toArray n } : Obj)) ∈ news) (hfit : vs.length ≤ sizeLine) (h : Q (.int vs.length (s.toks + 1)) { s with toks := s.toks + 1 + 1 }) :
    wpAny (model prog w) A (call (.builtin "len") [.ref l]) Q E s :=
  len_list (N_list N hm) (by rw [List.size_toArray]; have : sizeLine = 16777216 := by decide
                             omega) (by rw [List.size_toArray]; exact h)
theorem strsAre_len : ∀ {vs : List Value} {ys : List Str}, StrsAre vs ys → vs.length = ys.length
  | _, _, .nil => rfl
  | _, _, .cons _ _ h => by rw [List.length_cons, List.length_cons, strsAre_len h]
theorem splitMax_len (x y : Str) : (Txt.splitMax x y 2).length ≤ 3 := by
  unfold Txt.splitMax
  split
  · exact (by simp)
  · split
    · exact (by simp)
    · unfold Builtin.Str.partsBetween
      have := StrLaws.occ_length_le x y 0 x.length (limitOf x 2)
      have h2 : limitOf x 2 = 2 := rfl
      rw [h2] at this
      simp only [List.length_map, List.length_zip, List.length_cons, List.length_append, List.length_nil, h2]
      omega
noncomputable def IsStrs (h : Heap) (v : Value) (ys : List Str) : Prop := ∃ l vs n, v = .ref l ∧ h.get? l = some { cls := .type "list", data := .seq vs.toArray n } ∧ StrsAre vs ys
theorem IsStrs.keeps {h h' : Heap} {v : Value} {ys : List Str} (x : IsStrs h v ys) (k : ∀ b o, h.get? b = some o → h'.get? b = some o) : IsStrs h' v ys :=
  let ⟨l, vs, n, a, b, c⟩ := x; ⟨l, vs, n, a, k _ _ b, c⟩
end Mine
end
section
open PySem PySem.W PyProof.Rows PySem.Calls
set_option maxRecDepth 100000
namespace Mine
theorem enterC (i c : Nat) {w : World} {f : Addr} {vs : List Value} {binds : List (Str × Value)} {name : Str} {pm : Value} {dp un : Nat} {fr : Option (List Env)} {gd : Option (List Code)} {s : Shared} {Q E : Value → Shared → Prop}
    (A : Amb w s.heap) (hd : dp + 8 < recursionLimit)
    (ho : (KF w.params).lookup f = some ⟨.type "function", none, .func (fnOf name name (fnP (stN i)) (fnB (stN i)) (fnS (stN i)) .none .none .none pm none (.ref c) .none), #[]⟩)
    (hcd : codeIn (KF w.params) (.ref c) name = true)
    (hbind : bindArgs (docDef name (fnP (stN i)) (fnB (stN i)) (fnS (stN i)) pm (.ref c) .none) ⟨vs, []⟩ = pure binds)
    (hkind : ∀ x ∈ binds, (fnS (stN i)).names.lookup x.1 = some .local ∨ ((fnS (stN i)).names.lookup x.1 = some .cell ∧ ((cellsFrom (s.heap.objs.size + 1) (fnS (stN i)).names []).lookup x.1).isSome = true))
    (hnd : ((cellsFrom 0 (fnS (stN i)).names []).map (·.1)).Nodup)
    (hco : (fnS (stN i)).isCoroutine = false) (hgen : (fnS (stN i)).isGenerator = false) (hk : (fnS (stN i)).kind = .function)
    (h : ∀ mean mg mb g h₁ L tk cells, g = s.heap → (KF w.params).In g → Top qv (looseW qv loose) mean mg mb g → Fr g L h₁ (bindL (envOfC name (fnS (stN i)) L f (.ref c)).kindOf binds fun _ => none) → News g L h₁ cells →
      CellsAre (bindC (envOfC name (fnS (stN i)) L f (.ref c)).kindOf binds fun _ => none) (cellsFrom (L + 1) (fnS (stN i)).names []) cells →
      wpAny (model PySem.Challenge.rw_sr0008_01.prog w) ((AR dp un fr gd).deeper (envOfC name (fnS (stN i)) L f (.ref c))) (execs (fnB (stN i)) (envOfC name (fnS (stN i)) L f (.ref c)))
        (fun fl s' => Q (match fl with | .ret v => v | _ => .none) s') (fun _ _ => False) { s with heap := h₁, toks := tk }) :
    wpAny (model PySem.Challenge.rw_sr0008_01.prog w) (AR dp un fr gd) (call (.ref f) vs) Q E s := by
  obtain ⟨X, mean, mg, mb, T⟩ := A
  exact wpAny_call (call_cellsN_ret (by show dp < recursionLimit; omega) (X _ _ ho) rfl T.nolimit (codeRec_of X hcd) hbind hkind hnd (fun h₁ tk cells F N Y => h mean mg mb _ h₁ _ tk cells rfl X T F N Y) hco hgen hk)
end Mine
end
section
open PySem PySem.W PyProof.Rows PySem.Calls
set_option maxRecDepth 100000
namespace Mine
noncomputable def setOk (es : Array (Int × Value)) (t : SetTable) : Bool := (es.toList.all fun e => match e.2 with | .int i _ => e.1 == hashInt i && e.1 == i | _ => false) && t.fits es.size && decide (es.size < scanBound)
theorem setOf_lit {prog : Program} {w : World} {h : Heap} {a : Addr} {es : Array (Int × Value)} {ep : Nat} {t : SetTable} (ho : h.get? a = some ⟨.type "set", none, .set es ep t, #[]⟩) (ok : setOk es t = true) :
    h.SetOf (intKind prog w) a (fun k => (es.toList.map (·.1)).contains k) es.size := by
  unfold setOk at ok
  simp only [Bool.and_eq_true, List.all_eq_true, decide_eq_true_eq] at ok
  obtain ⟨⟨h1, h2⟩, h3⟩ := ok
  have key : ∀ e ∈ es.toList, ∃ t, e.2 = .int e.1 t ∧ e.1 = hashInt e.1 := by
    intro e he
    have q := h1 e he
    obtain ⟨n, v⟩ := e
    cases v with
    | int i t =>
      simp only [Bool.and_eq_true, beq_iff_eq] at q
      obtain ⟨q1, q2⟩ := q
      have q2 : n = i := q2
      subst q2
      exact ⟨t, rfl, q1⟩
    | _ => cases q
  refine ⟨_, es, ep, t, ho, ⟨rfl, rfl, rfl⟩, rfl, ?_, ?_, h3, h2, rfl⟩
  · intro e he
    obtain ⟨t, q1, q2⟩ := key e he
    refine ⟨⟨e.1, ?_, q2⟩, ?_⟩
    · rw [q1]; simp [intKind, Value.isInt]
    · rw [q1]; rfl
  · intro k
    simp only [List.contains_iff_mem, List.mem_map]
    constructor
    · rintro ⟨e, he, rfl⟩
      obtain ⟨t, q1, q2⟩ := key e he
      exact ⟨e, he, by rw [q1]; simp [intKind, Value.isInt]⟩
    · rintro ⟨e, he, hk⟩
      obtain ⟨t, q1, q2⟩ := key e he
      rw [q1] at hk
      simp [intKind, Value.isInt] at hk
      exact ⟨e, he, by omega⟩
theorem in_KF {w : World} {A : Around} {a : Addr} {es : Array (Int × Value)} {ep : Nat} {tab : SetTable} {k : Int} {t : Tok} {s : Shared} {Q E : Value → Shared → Prop} {g : Heap} {L : Addr} {m : Str → Option Value}
    (F : Fr g L s.heap m) (X : (KF w.params).In g) (ho : (KF w.params).lookup a = some ⟨.type "set", none, .set es ep tab, #[]⟩) (ok : setOk es tab = true)
    (h : Q (.bool ((es.toList.map (·.1)).contains k)) { s with toks := s.toks + 1 }) : wpAny (model PySem.Challenge.rw_sr0008_01.prog w) A (compareOp .In (.int k t) (.ref a)) Q E s :=
  wpAny_inSet_of (knd := intKind _ w) (k := k) (by simp [intKind, Value.isInt]) rfl (setOf_lit (F.keep _ _ (X _ _ ho)) ok) h
local macro_rules | `(tactic| walk_at "compareOp In int ref") => `(tactic| (k_here; (with_reducible show wpAny _ _ (compareOp CmpOp.In (Value.int _ _) (Value.ref _)) _ _ _); k_dflt (refine' in_KF ?k1 ?k2 ?k3 ?k4 ?_; (case k1 => k_asm); (case k2 => k_asm); (case k3 => k_is); (case k4 => kernel_rfl); k_whole)))
noncomputable def isC4 (c : Int) : Bool := if c < 64976 then false else if c < 65008 then true else (c % 65536 == 65534 || c % 65536 == 65535)
noncomputable def isB1 (c : Int) : Bool := [173, 847, 6150, 6155, 6156, 6157, 8203, 8204, 8205, 8288, 65279].contains c || (decide (65024 ≤ c) && decide (c < 65040))
noncomputable def isC6 (c : Int) : Bool := decide (65529 ≤ c) && decide (c < 65534)
noncomputable def isC7 (c : Int) : Bool := decide (12272 ≤ c) && decide (c < 12284)
noncomputable def isC8 (c : Int) : Bool := [832, 833, 8206, 8207].contains c || (decide (8234 ≤ c) && decide (c < 8239)) || (decide (8298 ≤ c) && decide (c < 8304))
noncomputable def isC9 (c : Int) : Bool := c == 917505 || (decide (917536 ≤ c) && decide (c < 917632))
theorem con_iff (l : List Int) (c : Int) : l.contains c = decide (c ∈ l) := by simp
theorem run_con (a : Int) (n : Nat) (c : Int) : ((List.range n).map fun (i : Nat) => a + (i : Int)).contains c = (decide (a ≤ c) && decide (c < a + (n : Int))) := by
  rw [Bool.eq_iff_iff]
  simp only [List.contains_iff_mem, List.mem_map, List.mem_range, Bool.and_eq_true, decide_eq_true_eq]
  constructor
  · rintro ⟨i, hi, rfl⟩
    omega
  · rintro ⟨h1, h2⟩
    exact ⟨(c - a).toNat, by omega, by omega⟩
theorem perm_con {l l' : List Int} (h : l.isPerm l' = true) (c : Int) : l.contains c = l'.contains c := by
  have hp := List.isPerm_iff.mp h
  rw [Bool.eq_iff_iff, List.contains_iff_mem, List.contains_iff_mem]
  exact hp.mem_iff
theorem app_con (a b : List Int) (c : Int) : (a ++ b).contains c = (a.contains c || b.contains c) := by
  rw [Bool.eq_iff_iff]
  simp only [List.contains_iff_mem, List.mem_append, Bool.or_eq_true]
theorem b1_con (c : Int) : ([173, 847, 6150, 6155, 6156, 6157, 8203, 8204, 8205, 8288, 65279] ++ (List.range 16).map fun (i : Nat) => (65024 : Int) + (i : Int)).contains c = isB1 c := by
  rw [app_con, run_con]
  rfl
theorem c6_con (c : Int) : ((List.range 5).map fun (i : Nat) => (65529 : Int) + (i : Int)).contains c = isC6 c := by
  rw [run_con]
  rfl
theorem c7_con (c : Int) : ((List.range 12).map fun (i : Nat) => (12272 : Int) + (i : Int)).contains c = isC7 c := by
  rw [run_con]
  rfl
theorem c8_con (c : Int) : (([832, 833, 8206, 8207] ++ (List.range 5).map fun (i : Nat) => (8234 : Int) + (i : Int)) ++ (List.range 6).map fun (i : Nat) => (8298 : Int) + (i : Int)).contains c = isC8 c := by
  rw [app_con, app_con, run_con, run_con]
  rfl
theorem isC4_1 {c : Int} (h : c < 64976) : isC4 c = false := by unfold isC4; rw [if_pos h]
theorem isC4_2 {c : Int} (h : ¬ c < 64976) (h2 : c < 65008) : isC4 c = true := by unfold isC4; rw [if_neg h, if_pos h2]
theorem isC4_3 {c : Int} (h : ¬ c < 64976) (h2 : ¬ c < 65008) : isC4 c = ([65534, 65535] : List Int).any fun x => x == Builtin.bitAnd c 65535 := by
  unfold isC4
  rw [if_neg h, if_neg h2, bitAnd_m16]
  simp only [List.any_cons, List.any_nil, Bool.or_false]
  rw [Bool.eq_iff_iff]
  simp only [Bool.or_eq_true, beq_iff_eq]
  omega
set_option maxHeartbeats 4000000 in
theorem c4_spec (w : World) (c : Nat) (tk : Tok) : PSpec w 95 [.str ⟨#[c]⟩ tk] (fun _ => True) (fun v _ => v = .bool (isC4 c)) := by
  unfold PSpec Amb
  k_fill
  intro dp un fr gd s Q E hA hpre hd hu hret
  refine enterP 16 94 (binds := [("code", .str ⟨#[c]⟩ tk)]) hA hd rfl rfl rfl rfl rfl rfl rfl (by decide) ?_
  intro mean mg mb g h₁ L hg X T F N
  k_steps
  all_goals (refine hret _ _ _ (fun b o e => Fr.keep (by assumption) b o (hg ▸ e)) ?_)
  all_goals (dsimp only; refine congrArg Value.bool ?_)
  · exact (isC4_1 (by with_reducible assumption)).symm
  · exact (isC4_2 (by with_reducible assumption) (by with_reducible assumption)).symm
  · exact (isC4_3 (by with_reducible assumption) (by with_reducible assumption)).symm
set_option maxHeartbeats 4000000 in
theorem b1_spec (w : World) (c : Nat) (tk : Tok) : PSpec w 88 [.str ⟨#[c]⟩ tk] (fun _ => True) (fun v _ => v = .bool (isB1 c)) := by
  unfold PSpec Amb
  k_fill
  intro dp un fr gd s Q E hA hpre hd hu hret
  refine enterP 15 87 (binds := [("code", .str ⟨#[c]⟩ tk)]) hA hd rfl rfl rfl rfl rfl rfl rfl (by decide) ?_
  intro mean mg mb g h₁ L hg X T F N
  k_steps
  refine hret _ _ _ (fun b o e => Fr.keep (by assumption) b o (hg ▸ e)) ?_
  dsimp only
  refine congrArg Value.bool ?_
  exact (perm_con (by decide +kernel) _).trans (b1_con _)
set_option maxHeartbeats 4000000 in
theorem c6_spec (w : World) (c : Nat) (tk : Tok) : PSpec w 107 [.str ⟨#[c]⟩ tk] (fun _ => True) (fun v _ => v = .bool (isC6 c)) := by
  unfold PSpec Amb
  k_fill
  intro dp un fr gd s Q E hA hpre hd hu hret
  refine enterP 18 106 (binds := [("code", .str ⟨#[c]⟩ tk)]) hA hd rfl rfl rfl rfl rfl rfl rfl (by decide) ?_
  intro mean mg mb g h₁ L hg X T F N
  k_steps
  refine hret _ _ _ (fun b o e => Fr.keep (by assumption) b o (hg ▸ e)) ?_
  dsimp only
  refine congrArg Value.bool ?_
  exact (perm_con (by decide +kernel) _).trans (c6_con _)
set_option maxHeartbeats 4000000 in
theorem c7_spec (w : World) (c : Nat) (tk : Tok) : PSpec w 119 [.str ⟨#[c]⟩ tk] (fun _ => True) (fun v _ => v = .bool (isC7 c)) := by
  unfold PSpec Amb
  k_fill
  intro dp un fr gd s Q E hA hpre hd hu hret
  refine enterP 20 118 (binds := [("code", .str ⟨#[c]⟩ tk)]) hA hd rfl rfl rfl rfl rfl rfl rfl (by decide) ?_
  intro mean mg mb g h₁ L hg X T F N
  k_steps
  refine hret _ _ _ (fun b o e => Fr.keep (by assumption) b o (hg ▸ e)) ?_
  dsimp only
  refine congrArg Value.bool ?_
  exact (perm_con (by decide +kernel) _).trans (c7_con _)
set_option maxHeartbeats 4000000 in
theorem c8_spec (w : World) (c : Nat) (tk : Tok) : PSpec w 143 [.str ⟨#[c]⟩ tk] (fun _ => True) (fun v _ => v = .bool (isC8 c)) := by
  unfold PSpec Amb
  k_fill
  intro dp un fr gd s Q E hA hpre hd hu hret
  refine enterP 22 142 (binds := [("code", .str ⟨#[c]⟩ tk)]) hA hd rfl rfl rfl rfl rfl rfl rfl (by decide) ?_
  intro mean mg mb g h₁ L hg X T F N
  k_steps
  refine hret _ _ _ (fun b o e => Fr.keep (by assumption) b o (hg ▸ e)) ?_
  dsimp only
  refine congrArg Value.bool ?_
  exact (perm_con (by decide +kernel) _).trans (c8_con _)
theorem isC9_iff (c : Int) : ((([917505] : List Int) ++ (List.range 96).map fun (i : Nat) => (917536 + (i : Int)))).contains c = isC9 c := by
  rw [con_iff]
  unfold isC9
  rw [Bool.eq_iff_iff]
  simp only [List.mem_append, List.mem_map, List.mem_range, List.mem_cons, List.not_mem_nil, or_false, decide_eq_true_eq, Bool.or_eq_true, Bool.and_eq_true, beq_iff_eq]
  constructor
  · rintro (h | ⟨i, hi, h⟩)
    · exact .inl h
    · right; omega
  · rintro (h | h)
    · exact .inl h
    · exact .inr ⟨(c - 917536).toNat, by omega, by omega⟩
set_option maxHeartbeats 4000000 in
theorem c9_spec (w : World) (c : Nat) (tk : Tok) : PSpec w 161 [.str ⟨#[c]⟩ tk] (fun _ => True) (fun v _ => v = .bool (isC9 c)) := by
  unfold PSpec Amb
  k_fill
  intro dp un fr gd s Q E hA hpre hd hu hret
  refine enterP 24 160 (binds := [("code", .str ⟨#[c]⟩ tk)]) hA hd rfl rfl rfl rfl rfl rfl rfl (by decide) ?_
  intro mean mg mb g h₁ L hg X T F N
  k_steps
  refine hret _ _ _ (fun b o e => Fr.keep (by assumption) b o (hg ▸ e)) ?_
  dsimp only
  refine congrArg Value.bool ?_
  rw [← isC9_iff]
  exact congrArg (fun l => List.contains l (c : Int)) (by decide +kernel)
end Mine
end
section
open PySem PySem.W PyProof.Rows PySem.Calls
set_option maxRecDepth 100000
namespace Mine
theorem getD_in (lo hi : Int) (h0 : lo ≤ 0) (h1 : 0 ≤ hi) : ∀ (l : List Int) (i : Nat), (l.all fun x => decide (lo ≤ x) && decide (x ≤ hi)) = true → lo ≤ l.getD i 0 ∧ l.getD i 0 ≤ hi
  | [], _, _ => by simp; omega
  | a :: l, 0, h => by simp only [List.all_cons, Bool.and_eq_true, decide_eq_true_eq] at h; simpa using h.1
  | a :: l, i + 1, h => by
    simp only [List.all_cons, Bool.and_eq_true] at h
    simpa using getD_in lo hi h0 h1 l i h.2
theorem flag_len : ∀ n : Nat, n < 30 → (Str.ofString "0x" ++ Txt.item (Str.ofString "1248") ((n : Int).fmod 4)).length + (Txt.mul (Str.ofString "0") ((n : Int).fdiv 4)).length ≤ sizeLine := by decide +kernel
theorem flag_len' {x : Int} (h0 : 0 ≤ x) (h1 : x < 30) : (Str.ofString "0x" ++ Txt.item (Str.ofString "1248") (x.fmod 4)).length + (Txt.mul (Str.ofString "0") (x.fdiv 4)).length ≤ sizeLine := by
  have := flag_len x.toNat (by omega)
  rw [show ((x.toNat : Nat) : Int) = x by omega] at this
  exact this
local macro_rules | `(tactic| walk_at "call builtin:chr") => `(tactic| ((with_reducible show wpAny _ _ (call (Value.builtin "chr") [Value.int (List.getD _ _ _) _]) _ _ _); refine chr_of_range (getD_in 0 1114111 (by decide) (by decide) _ _ (by decide)).1 (getD_in 0 1114111 (by decide) (by decide) _ _ (by decide)).2 ?_))
local macro_rules | `(tactic| walk_at "binaryOp Add str str") => `(tactic| ((with_reducible show wpAny _ _ (binaryOp Operator.Add (Value.str _ _) (Value.str (Txt.mul _ _) _)) _ _ _); refine PyProof.Rows.add_str ?_ (flag_len' (by with_reducible assumption) (by with_reducible assumption)); intro t' tk'))
noncomputable def signOf (x : Int) : Nat :=
  if x.fmod 9 = 0 then (if (x.fdiv 9).fmod 27 < 11 then ([173, 847, 6150, 6155, 6156, 6157, 8203, 8204, 8205, 8288, 65279].getD ((x.fdiv 9).fmod 27).toNat (0 : Int)).toNat else (65013 + (x.fdiv 9).fmod 27).toNat)
  else if x.fmod 9 = 1 then (if (x.fdiv 9).fmod 66 < 32 then (64976 + (x.fdiv 9).fmod 66).toNat else (65536 * (((x.fdiv 9).fmod 66).fdiv 2 - 16) + 65534 + ((x.fdiv 9).fmod 66).fmod 2).toNat)
  else if x.fmod 9 = 2 then (65529 + (x.fdiv 9).fmod 5).toNat
  else if x.fmod 9 = 3 then (12272 + (x.fdiv 9).fmod 12).toNat
  else if x.fmod 9 = 4 then ([832, 833, 8206, 8207, 8234, 8235, 8236, 8237, 8238, 8298, 8299, 8300, 8301, 8302, 8303].getD ((x.fdiv 9).fmod 15).toNat (0 : Int)).toNat
  else if x.fmod 9 = 5 then (if (x.fdiv 9).fmod 97 = 0 then 917505 else (917535 + (x.fdiv 9).fmod 97).toNat)
  else if x.fmod 9 = 6 then 46
  else if x.fmod 9 = 7 then (if (x.fdiv 9).fmod 2 = 0 then 13 else 10)
  else (97 + (x.fdiv 9).fmod 26).toNat
noncomputable def flagOf (x : Int) : Str := if x < 10 then [Str.ofString "OPTIMIZED", Str.ofString "NEWLOCALS", Str.ofString "VARARGS", Str.ofString "VARKEYWORDS",
              Str.ofString "NESTED", Str.ofString "GENERATOR", Str.ofString "NOFREE", Str.ofString "COROUTINE",
              Str.ofString "ITERABLE_COROUTINE", Str.ofString "ASYNC_GENERATOR"].getD x.toNat Str.empty
  else Str.ofString "0x" ++ Txt.item (Str.ofString "1248") (x.fmod 4) ++ Txt.mul (Str.ofString "0") (x.fdiv 4)
theorem dot_is : Str.ofString "." = ⟨#[46]⟩ := by decide +kernel
theorem crlf_item (q : Int) : Txt.item (Str.ofString "\x0d\n") (q.fmod 2) = ⟨#[if q.fmod 2 = 0 then 13 else 10]⟩ := by
  have h0 := Int.fmod_nonneg_of_pos q (show (0 : Int) < 2 by decide)
  have h1 := Int.fmod_lt_of_pos q (show (0 : Int) < 2 by decide)
  rcases (show q.fmod 2 = 0 ∨ q.fmod 2 = 1 by omega) with h | h <;> rw [h] <;> decide +kernel
set_option maxHeartbeats 8000000 in
theorem sign_spec (w : World) (x : Int) (h0 : 0 ≤ x) (h1 : x < 1000000) (tk : Tok) : PSpec w 168 [.int x tk] (fun _ => True) (fun v _ => ∃ t, v = .str ⟨#[signOf x]⟩ t) := by
  unfold PSpec Amb
  k_fill
  intro dp un fr gd s Q E hA hpre hd hu hret
  refine enterP 26 167 (binds := [("x", .int x tk)]) hA hd rfl rfl rfl rfl rfl rfl rfl (by decide) ?_
  intro mean mg mb g h₁ L hg X T F N
  k_steps
  all_goals (refine hret _ _ _ (fun b o e => Fr.keep (by assumption) b o (hg ▸ e)) ?_)
  all_goals (clear hret; dsimp only)
  all_goals (refine ⟨_, congrArg (fun a => Value.str a _) ?_⟩)
  all_goals (try rw [dot_is])
  all_goals (try rw [crlf_item])
  all_goals (refine congrArg (fun a => Str.mk #[a]) ?_; unfold signOf)
  all_goals ((repeat' split) <;> first | rfl | (exfalso; omega))
set_option maxHeartbeats 8000000 in
theorem flag_spec (w : World) (x : Int) (h0 : 0 ≤ x) (h1 : x < 30) (tk : Tok) : PSpec w 182 [.int x tk] (fun _ => True) (fun v _ => ∃ t, v = .str (flagOf x) t) := by
  unfold PSpec Amb
  k_fill
  intro dp un fr gd s Q E hA hpre hd hu hret
  refine enterP 28 181 (binds := [("place", .int x tk)]) hA hd rfl rfl rfl rfl rfl rfl rfl (by decide) ?_
  intro mean mg mb g h₁ L hg X T F N
  k_steps
  all_goals (refine hret _ _ _ (fun b o e => Fr.keep (by assumption) b o (hg ▸ e)) ?_)
  all_goals (clear hret; dsimp only)
  all_goals (refine ⟨_, congrArg (fun a => Value.str a _) ?_⟩)
  all_goals unfold flagOf
  · rw [if_pos (by with_reducible assumption)]
  · rw [if_neg (by with_reducible assumption)]
end Mine
end
section
open PySem PySem.W PyProof.Rows PySem.Calls
set_option maxRecDepth 100000
namespace Mine
local macro_rules | `(tactic| walk_at "call builtin:len") => `(tactic| ((with_reducible show wpAny _ _ (call (Value.builtin "len") [Value.ref _]) _ _ _); refine len_N (by assumption) (by k_mem) (by rw [strsAre_len (by with_reducible assumption)]; refine Nat.le_trans (by (with_reducible rename List.map _ _ = Txt.splitMax _ _ _ => he); rw [he]; exact splitMax_len _ _) (by decide)) ?_))
theorem tick_is : Str.ofString "'" = ⟨#[39]⟩ := by decide +kernel
end Mine
end
section
open PySem PySem.Sre
set_option maxRecDepth 100000
namespace Mine
noncomputable def code1 : Array Nat := #[14, 4, 0, 1, 1, 6, 1, 16, 46, 1]
theorem runFor_done : ∀ (n : Nat) (m : M), m.outcome.isSome = true → m.runFor n = m
  | 0, m, h => rfl
  | n + 1, m, h => by unfold M.runFor; rw [if_pos h]
theorem runFor_add : ∀ (a b : Nat) (m : M), m.runFor (a + b) = (m.runFor a).runFor b
  | 0, b, m => by rw [Nat.zero_add]; rfl
  | a + 1, b, m => by
    rw [show a + 1 + b = (a + b) + 1 by omega]
    conv => lhs; unfold M.runFor
    conv => rhs; rw [show m.runFor (a + 1) = if m.outcome.isSome = true then m else m.step.runFor a from rfl]
    by_cases h : m.outcome.isSome = true
    · rw [if_pos h, if_pos h, runFor_done _ _ h]
    · rw [if_neg h, if_neg h, runFor_add a b]
theorem runFor_step {m : M} (h : m.outcome = none) (n : Nat) : m.runFor (n + 1) = m.step.runFor n := by
  conv => lhs; unfold M.runFor
  rw [if_neg (by rw [h]; decide)]
noncomputable def S1 (text : Array Nat) (lim s : Nat) (first : Bool) (seen : Seen) : M :=
  { code := code1, text, lim, start := s, lastStart := lim, pc := 5, pos := s, handed := s, outermost := first, marks := #[], frames := [{ wait := .nextStart, pc := 5, pos := s, outermost := first }], weight := 1, seen }
theorem search1 (text : Array Nat) (lim s : Nat) (h : s < lim) : forSearch code1 text 0 s lim false = S1 text lim s true (({} : Seen).add 14) := by
  unfold forSearch
  have e : (header code1) = (1, 5) := by decide +kernel
  have e2 : ((decide (s > lim) || decide (lim - s < (header code1).1)) = true) = False := by
    rw [e]; simp; omega
  simp only [e2, if_false]
  unfold M.attemptFrom
  have e3 : ∀ m : M, m.code = code1 → m.hasFirstSet = false := by
    intro m hm; unfold M.hasFirstSet; rw [hm]; decide +kernel
  kernel_rfl
noncomputable def hit1 (text : Array Nat) (s : Nat) : Bool := (s == 0 || text.getD (s - 1) 0 == 10) && text.getD s 0 == 46
noncomputable def sn1 (seen : Seen) : Seen := (seen.add 6).add 44
noncomputable def sn2 (seen : Seen) : Seen := (sn1 seen).add 16
theorem s1_at (text : Array Nat) (lim s : Nat) (f : Bool) (seen : Seen) : (S1 text lim s f seen).step =
    if (s == 0 || text.getD (s - 1) 0 == 10) = true then { S1 text lim s f seen with pc := 7, seen := sn1 seen } else { S1 text lim s f seen with answer := some false, seen := sn1 seen } := by kernel_rfl
theorem s1_lit (text : Array Nat) (lim s : Nat) (f : Bool) (seen : Seen) : ({ S1 text lim s f seen with pc := 7, seen := sn1 seen } : M).step =
    if s ≥ lim then { S1 text lim s f seen with pc := 7, answer := some false, seen := sn2 seen } else
    match (text.getD s 0 == 46) with
    | true => { S1 text lim s f seen with pc := 9, pos := s + 1, seen := sn2 seen }
    | false => { S1 text lim s f seen with pc := 7, answer := some false, seen := sn2 seen } := by kernel_rfl
theorem s1_ok (text : Array Nat) (lim s : Nat) (f : Bool) (seen : Seen) : ({ S1 text lim s f seen with pc := 9, pos := s + 1, seen := sn2 seen } : M).step =
    if (f && ((false && (s + 1 != lim)) || (false && (s + 1 == s)))) = true then { S1 text lim s f seen with pc := 9, pos := s + 1, seen := (sn2 seen).add 1, answer := some false } else { S1 text lim s f seen with pc := 9, pos := s + 1, handed := s + 1, seen := (sn2 seen).add 1, answer := some true } := by kernel_rfl
theorem s1_yes (text : Array Nat) (lim s pc pos hd : Nat) (f : Bool) (seen seen' : Seen) : ({ S1 text lim s f seen with pc := pc, pos := pos, handed := hd, seen := seen', answer := some true } : M).step =
    { S1 text lim s f seen with pc := 5, pos := s, handed := hd, seen := seen', frames := [], weight := 0, answer := some true } := by kernel_rfl
theorem s1_yes2 (text : Array Nat) (lim s hd : Nat) (f : Bool) (seen seen' : Seen) : ({ S1 text lim s f seen with pc := 5, pos := s, handed := hd, seen := seen', frames := [], weight := 0, answer := some true } : M).step =
    { S1 text lim s f seen with pc := 5, pos := s, handed := hd, seen := seen', frames := [], weight := 0, answer := some true, outcome := some .matched } := by kernel_rfl
theorem s1_no (text : Array Nat) (lim s pc : Nat) (f : Bool) (seen seen' : Seen) : ({ S1 text lim s f seen with pc := pc, seen := seen', answer := some false } : M).step =
    if s < lim then S1 text lim (s + 1) false seen' else { S1 text lim s f seen with pc := 5, pos := s, seen := seen', frames := [], weight := 0, answer := some false } := by kernel_rfl
theorem s1_no2 (text : Array Nat) (lim s : Nat) (f : Bool) (seen seen' : Seen) : ({ S1 text lim s f seen with pc := 5, pos := s, seen := seen', frames := [], weight := 0, answer := some false } : M).step =
    { S1 text lim s f seen with pc := 5, pos := s, seen := seen', frames := [], weight := 0, answer := some false, outcome := some .failed } := by kernel_rfl
noncomputable def find1 (text : Array Nat) (lim : Nat) : Nat → Nat → Option Nat
  | 0, _ => none
  | d + 1, s => if hit1 text s = true then some s else find1 text lim d (s + 1)
noncomputable def Fin1 (o : Option Nat) (w : Nat) (m : M) : Prop := match o with
  | some a => m.outcome = some .matched ∧ m.start = a ∧ m.handed = a + w
  | none => m.outcome = some .failed
theorem run1 (text : Array Nat) (lim : Nat) : ∀ (d s : Nat) (f : Bool) (seen : Seen), s + d = lim → ∃ k, k ≤ 4 * d + 5 ∧ Fin1 (find1 text lim d s) 1 ((S1 text lim s f seen).runFor k)
  | d, s, f, seen, hs => by
    have st0 : (S1 text lim s f seen).outcome = none := rfl
    have no : ∀ (pc : Nat) (seen' : Seen) (j : Nat), j ≤ 2 → (d = 0 ∨ hit1 text s = false) → (∀ n, (S1 text lim s f seen).runFor (n + j) = ({ S1 text lim s f seen with pc := pc, seen := seen', answer := some false } : M).runFor n) →
        ∃ k, k ≤ 4 * d + 5 ∧ Fin1 (find1 text lim d s) 1 ((S1 text lim s f seen).runFor k) := by
      intro pc seen' j hj hmiss hrun
      cases d with
      | zero =>
        refine ⟨2 + j, by omega, ?_⟩
        rw [hrun, runFor_step rfl, s1_no, if_neg (by omega), runFor_step rfl, s1_no2]
        exact rfl
      | succ d =>
        have hm : hit1 text s = false := hmiss.resolve_left (by omega)
        obtain ⟨k, hk, hf⟩ := run1 text lim d (s + 1) false seen' (by omega)
        refine ⟨k + 1 + j, by omega, ?_⟩
        rw [hrun, runFor_step rfl, s1_no, if_pos (by omega)]
        unfold find1
        rw [if_neg (by rw [hm]; decide)]
        exact hf
    by_cases h1 : (s == 0 || text.getD (s - 1) 0 == 10) = true
    · have r1 : ∀ n, (S1 text lim s f seen).runFor (n + 1) = ({ S1 text lim s f seen with pc := 7, seen := sn1 seen } : M).runFor n := fun n => by
        rw [runFor_step st0, s1_at, if_pos h1]
      cases d with
      | zero =>
        refine no 7 (sn2 seen) 2 (by omega) (.inl rfl) fun n => ?_
        rw [show n + 2 = (n + 1) + 1 by omega, r1, runFor_step rfl, s1_lit, if_pos (by omega)]
      | succ d =>
        cases h2 : (text.getD s 0 == 46) with
        | false =>
          refine no 7 (sn2 seen) 2 (by omega) (.inr (by unfold hit1; rw [h2, Bool.and_false])) fun n => ?_
          rw [show n + 2 = (n + 1) + 1 by omega, r1, runFor_step rfl, s1_lit, if_neg (by omega), h2]
        | true =>
          refine ⟨5, by omega, ?_⟩
          rw [show (5 : Nat) = 4 + 1 by omega, r1, runFor_step rfl, s1_lit, if_neg (by omega), h2]
          dsimp only
          rw [runFor_step rfl, s1_ok, if_neg (by cases f <;> simp), runFor_step rfl, s1_yes, runFor_step rfl, s1_yes2]
          unfold find1
          rw [if_pos (by unfold hit1; rw [h1, h2]; rfl)]
          exact ⟨rfl, rfl, rfl⟩
    · refine no 5 (sn1 seen) 1 (by omega) (.inr (by unfold hit1; rw [Bool.eq_false_iff.mpr h1]; rfl)) fun n => ?_
      rw [runFor_step st0, s1_at, if_neg h1]
      rfl
end Mine
end
section
open PySem PySem.Sre
set_option maxRecDepth 100000
namespace Mine
noncomputable def code2 : Array Nat := #[14, 9, 4, 1, 2, 16, 10, 16, 13, 0, 7, 7, 16, 13, 16, 10, 15, 18, 5, 16, 10, 15, 13, 11, 16, 13, 5, 5, 0, 16, 10, 1, 15, 2, 0, 1]
noncomputable def X2 (text : Array Nat) (lim a : Nat) (pc pos hd wt : Nat) (fr : List Sre.Frame) (om : Bool) (ans : Option Bool) (seen : Seen) : M :=
  { code := code2, text, lim, start := a, lastStart := lim, pc, pos, handed := hd, outermost := om, marks := #[], frames := fr, weight := wt, answer := ans, seen }
noncomputable def F0 (a : Nat) : Sre.Frame := { wait := .nextStart, pc := 10, pos := a, outermost := true }
noncomputable def FB (pc a : Nat) : Sre.Frame := { wait := .nextBranch, pc := pc, pos := a, outermost := true }
noncomputable def FL (a : Nat) : Sre.Frame := { wait := .lookNot, pc := 26, pos := a, outermost := true }
section
variable (text : Array Nat) (lim a pos hd wt : Nat) (fr : List Sre.Frame) (om : Bool) (seen : Seen) (a1 : Nat)
theorem x_b : (X2 text lim a 10 a a 1 [F0 a] true none seen).step = X2 text lim a 12 a a 2 [FB 11 a, F0 a] true none (seen.add 7) := by kernel_rfl
theorem x_lit13 (pc : Nat) (h : pc = 12 ∨ pc = 24) : (X2 text lim a pc pos hd wt fr om none seen).step = if pos ≥ lim then X2 text lim a pc pos hd wt fr om (some false) (seen.add 16) else
    match (text.getD pos 0 == 13) with | true => X2 text lim a (pc + 2) (pos + 1) hd wt fr om none (seen.add 16) | false => X2 text lim a pc pos hd wt fr om (some false) (seen.add 16) := by
  rcases h with rfl | rfl <;> kernel_rfl
theorem x_lit10 (pc : Nat) (h : pc = 14 ∨ pc = 19 ∨ pc = 29) : (X2 text lim a pc pos hd wt fr om none seen).step = if pos ≥ lim then X2 text lim a pc pos hd wt fr om (some false) (seen.add 16) else
    match (text.getD pos 0 == 10) with | true => X2 text lim a (pc + 2) (pos + 1) hd wt fr om none (seen.add 16) | false => X2 text lim a pc pos hd wt fr om (some false) (seen.add 16) := by
  rcases h with rfl | rfl | rfl <;> kernel_rfl
theorem x_jump (pc : Nat) (h : pc = 16 ∨ pc = 21 ∨ pc = 32) : (X2 text lim a pc pos hd wt fr om none seen).step = X2 text lim a 35 pos hd wt fr om none (seen.add 15) := by
  rcases h with rfl | rfl | rfl <;> kernel_rfl
theorem x_ok : (X2 text lim a 35 pos hd wt fr true none seen).step = X2 text lim a 35 pos pos wt fr true (some true) (seen.add 1) := by kernel_rfl
theorem x_yesB (pc fpc : Nat) : (X2 text lim a pc pos hd wt (FB fpc a :: fr) om (some true) seen).step = X2 text lim a fpc a hd (wt - 1) fr true (some true) seen := by kernel_rfl
theorem x_yes0 (pc : Nat) : (X2 text lim a pc pos hd wt (F0 a :: fr) om (some true) seen).step = X2 text lim a 10 a hd (wt - 1) fr true (some true) seen := by kernel_rfl
theorem x_end (pc : Nat) (b : Bool) : (X2 text lim a pc pos hd wt [] om (some b) seen).step = { X2 text lim a pc pos hd wt [] om (some b) seen with outcome := some (if b then .matched else .failed) } := by kernel_rfl
theorem x_noB (pc : Nat) (h : wt = 2) : (X2 text lim a pc pos hd wt (FB 11 a :: fr) om (some false) seen).step = X2 text lim a 19 a a 2 (FB 18 a :: fr) true none seen := by subst h; kernel_rfl
theorem x_noB2 (pc : Nat) (h : wt = 2) : (X2 text lim a pc pos hd wt (FB 18 a :: fr) om (some false) seen).step = X2 text lim a 24 a a 2 (FB 23 a :: fr) true none seen := by subst h; kernel_rfl
theorem x_not (h : wt = 2) : (X2 text lim a 26 pos hd wt fr true none seen).step = X2 text lim a 29 pos pos 3 (FL pos :: fr) false none (seen.add 5) := by subst h; kernel_rfl
theorem x_lookNo (pc : Nat) (h : wt = 3) : (X2 text lim a pc pos hd wt (FL a1 :: fr) om (some false) seen).step = X2 text lim a 32 a1 hd 2 fr true none seen := by subst h; kernel_rfl
end
noncomputable def nl (c : Nat) : Bool := c == 10 || c == 13
noncomputable def next2 (text : Array Nat) : Nat → Nat → Option Nat
  | 0, _ => none
  | d + 1, s => if nl (text.getD s 0) = true then some s else next2 text d (s + 1)
theorem inSet2 (c : Nat) (seen : Seen) : inSet code2 c code2.size 5 true seen = if c == 10 then .ok (true, seen.add 16) else if c == 13 then .ok (true, (seen.add 16).add 16) else .ok (false, ((seen.add 16).add 16).add 0) := by kernel_rfl
theorem adm (m : M) (hc : m.code = code2) : ∀ (d s : Nat) (seen : Seen) (fuel : Nat), s + d = m.lim → d < fuel → ∃ seen', M.admitted m fuel s seen = .ok (next2 m.text d s, seen')
  | d, s, seen, 0, _, h => absurd h (Nat.not_lt_zero _)
  | 0, s, seen, fuel + 1, hs, _ => ⟨seen, by unfold M.admitted; rw [if_pos (by omega)]; rfl⟩
  | d + 1, s, seen, fuel + 1, hs, hf => by
    unfold M.admitted
    rw [if_neg (by omega), hc, inSet2]
    unfold next2 nl
    cases h1 : (m.text.getD s 0 == 10) with
    | true => exact ⟨_, rfl⟩
    | false =>
      cases h2 : (m.text.getD s 0 == 13) with
      | true => exact ⟨_, rfl⟩
      | false =>
        obtain ⟨seen', e⟩ := adm m hc d (s + 1) (((seen.add 16).add 16).add 0) fuel (by omega) (by omega)
        refine ⟨seen', ?_⟩
        simpa using e
theorem search2 (text : Array Nat) (lim s : Nat) (h : s < lim) : ∃ seen', forSearch code2 text 0 s lim false = match next2 text (lim - s) s with
    | some a => X2 text lim a 10 a a 1 [F0 a] true none seen'
    | none => X2 text lim s 10 s s 0 [] true (some false) seen' := by
  have e : forSearch code2 text 0 s lim false = if (decide (s > lim) || decide (lim - s < 1)) = true then (X2 text lim s 10 s s 0 [] true (some false) (({} : Seen).add 14) : M).say false else
      match M.admitted (X2 text lim s 10 s s 0 [] true none (({} : Seen).add 14)) (lim + 1 - s) s (({} : Seen).add 14) with
      | .ok (some a, seen) => X2 text lim a 10 a a 1 [F0 a] true none seen
      | .ok (none, seen) => X2 text lim s 10 s s 0 [] true (some false) seen
      | .error why => (X2 text lim s 10 s s 0 [] true none (({} : Seen).add 14)).stick why := by
    have e0 : (decide (s > lim) || decide (lim - s < 1)) = false := by simp; omega
    rw [if_neg (by rw [e0]; decide)]
    unfold forSearch
    have eh : (header code2) = (1, 10) := by decide +kernel
    have e2 : ((decide (s > lim) || decide (lim - s < (header code2).1)) = true) = False := by
      rw [eh]; simp; omega
    simp only [e2, if_false]
    kernel_rfl
  obtain ⟨seen', ea⟩ := adm (X2 text lim s 10 s s 0 [] true none (({} : Seen).add 14)) rfl (lim - s) s (({} : Seen).add 14) (lim + 1 - s) (by show s + (lim - s) = lim; omega) (by omega)
  refine ⟨seen', ?_⟩
  rw [e, if_neg (by simp; omega), ea]
  show (match (.ok (next2 text (lim - s) s, seen') : Except String (Option Nat × Seen)) with | .ok (some a, seen) => _ | .ok (none, seen) => _ | .error why => _) = _
  cases next2 text (lim - s) s <;> rfl
noncomputable def wide2 (text : Array Nat) (lim a : Nat) : Nat := if text.getD a 0 = 13 ∧ a + 1 < lim ∧ text.getD (a + 1) 0 = 10 then 2 else 1
theorem run2 (text : Array Nat) (lim a : Nat) (seen : Seen) (ha : a < lim) (hn : nl (text.getD a 0) = true) : ∃ k, k ≤ 16 ∧ Fin1 (some a) (wide2 text lim a) ((X2 text lim a 10 a a 1 [F0 a] true none seen).runFor k) := by
  have tail : ∀ (pos fpc : Nat) (seen : Seen), pos = a + wide2 text lim a → ∀ pc, (pc = 16 ∨ pc = 21 ∨ pc = 32) → ∀ hd, Fin1 (some a) (wide2 text lim a) ((X2 text lim a pc pos hd 2 [FB fpc a, F0 a] true none seen).runFor 5) := by
    intro pos fpc seen hp pc hpc hd
    rw [runFor_step rfl, x_jump (h := hpc), runFor_step rfl, x_ok, runFor_step rfl, x_yesB, runFor_step rfl, x_yes0, runFor_step rfl, x_end]
    subst hp
    exact ⟨rfl, rfl, rfl⟩
  have s1 : ∀ n, (X2 text lim a 10 a a 1 [F0 a] true none seen).runFor (n + 1) = (X2 text lim a 12 a a 2 [FB 11 a, F0 a] true none (seen.add 7)).runFor n := fun n => by rw [runFor_step rfl, x_b]
  unfold nl at hn
  cases h13 : (text.getD a 0 == 13) with
  | true =>
    have e13 : text.getD a 0 = 13 := beq_iff_eq.mp h13
    by_cases h10 : a + 1 < lim ∧ text.getD (a + 1) 0 = 10
    · have hw : wide2 text lim a = 2 := if_pos ⟨e13, h10⟩
      refine ⟨8, by omega, ?_⟩
      rw [show (8 : Nat) = 7 + 1 by omega, s1, runFor_step rfl, x_lit13 (h := .inl rfl), if_neg (by omega), h13]
      dsimp only
      rw [runFor_step rfl, x_lit10 (h := .inl rfl), if_neg (by omega), beq_iff_eq.mpr h10.2]
      dsimp only
      exact tail _ _ _ (by omega) _ (.inl rfl) _
    · have hw : wide2 text lim a = 1 := if_neg fun q => h10 q.2
      have miss : ∀ pc hd wt fr om seen, (pc = 14 ∨ pc = 19 ∨ pc = 29) → (X2 text lim a pc (a + 1) hd wt fr om none seen).step = X2 text lim a pc (a + 1) hd wt fr om (some false) (seen.add 16) := by
        intro pc hd wt fr om seen hpc
        rw [x_lit10 (h := hpc)]
        by_cases hl : a + 1 ≥ lim
        · rw [if_pos hl]
        · rw [if_neg hl, beq_eq_false_iff_ne.mpr fun q => h10 ⟨by omega, q⟩]
      refine ⟨15, by omega, ?_⟩
      rw [show (15 : Nat) = 14 + 1 by omega, s1, runFor_step rfl, x_lit13 (h := .inl rfl), if_neg (by omega), h13]
      dsimp only
      rw [runFor_step rfl, miss 14 _ _ _ _ _ (.inl rfl), runFor_step rfl, x_noB (h := rfl), runFor_step rfl, x_lit10 (h := .inr (.inl rfl)), if_neg (by omega), beq_eq_false_iff_ne.mpr (by omega : text.getD a 0 ≠ 10)]
      dsimp only
      rw [runFor_step rfl, x_noB2 (h := rfl), runFor_step rfl, x_lit13 (h := .inr rfl), if_neg (by omega), h13]
      dsimp only
      rw [runFor_step rfl, x_not (h := rfl), runFor_step rfl, miss 29 _ _ _ _ _ (.inr (.inr rfl)), runFor_step rfl, x_lookNo (h := rfl)]
      exact tail _ _ _ (by omega) _ (.inr (.inr rfl)) _
  | false =>
    have e10 : text.getD a 0 = 10 := by
      rw [h13, Bool.or_false] at hn
      exact beq_iff_eq.mp hn
    have hw : wide2 text lim a = 1 := if_neg fun q => by omega
    refine ⟨9, by omega, ?_⟩
    rw [show (9 : Nat) = 8 + 1 by omega, s1, runFor_step rfl, x_lit13 (h := .inl rfl), if_neg (by omega), h13]
    dsimp only
    rw [runFor_step rfl, x_noB (h := rfl), runFor_step rfl, x_lit10 (h := .inr (.inl rfl)), if_neg (by omega), beq_iff_eq.mpr e10]
    dsimp only
    exact tail _ _ _ (by omega) _ (.inr (.inl rfl)) _
end Mine
end
section
open PySem PySem.W PyProof.Rows PySem.Calls PySem.Builtin.Re
set_option maxRecDepth 100000
namespace Mine
theorem p_ga : typeLookup (.type "re.Pattern") "__getattribute__" = pure (some (.builtin "object.__getattribute__")) := by rw [typeLookup_type, builtinLookup_eq_fast]; kernel_rfl
theorem p_canon : (Manifest.canonical "object.__getattribute__" != "object.__getattribute__") = false := by decide +kernel
theorem p_gn : typeLookup (.type "re.Pattern") "__getattr__" = pure none := by rw [typeLookup_type, builtinLookup_eq_fast]; kernel_rfl
theorem p_sub : Slot "re.Pattern" "sub" "re.Pattern.sub" :=
  .of (owner := "re.Pattern") (n := "sub") (by rw [typeLookup_type, builtinLookup_eq_fast]; kernel_rfl) (by decide +kernel) (by decide +kernel) (by decide +kernel)
    (by first | exact .inl (by decide +kernel) | exact .inr (by decide +kernel)) (by rw [isSubtype_type]; kernel_rfl)
theorem p_type : typeOf (.builtin "re.Pattern.sub") = pure (.type "method_descriptor") := by show builtinType _ = _; rw [builtinType_eq_fast]; kernel_rfl
theorem p_entry : entryFor table "re.Pattern.sub" = some Builtin.«re.Pattern.sub» := entryFor_of_tree (by kernel_rfl)
theorem p_loop : entryFor table "re.Pattern.sub.loop" = some Builtin.«re.Pattern.sub.loop» := entryFor_of_tree (by kernel_rfl)
theorem p_plainl : plainId "re.Pattern.sub.loop" = true := by decide +kernel
theorem p_args (a b c : Value) : argsOk "re.Pattern.sub" ⟨[a, b, c], []⟩ := by
  unfold argsOk; kernel_rfl
theorem p_strcall : typeLookup (.type "str") "__call__" = pure none := by rw [typeLookup_type, builtinLookup_eq_fast]; kernel_rfl
section
variable {M : Model} {A : Around} {E : Value → Shared → Prop} {s : Shared}
theorem getMethod_sub {p : Addr} {o : Obj} {pl : Sem Bool} {Q : Value × List Value → Shared → Prop} (ho : s.heap.get? p = some o) (hc : o.cls = .type "re.Pattern") (hd : o.dict = none)
    (h : Q (.builtin "re.Pattern.sub", [.ref p]) s) : wpAny M A (getMethod (.ref p) "sub" pl) Q E s := by
  have hT : s.TypeIs (.ref p) "re.Pattern" := ⟨o, ho, hc⟩
  unfold getMethod
  refine wpAny_bind (wpAny_specialOf hT p_ga ?_)
  show wpAny M A (if (Manifest.canonical "object.__getattribute__" != "object.__getattribute__") = true then _ else _) Q E s
  rw [p_canon, if_neg Bool.false_ne_true]
  refine wpAny_bind (wpAny_specialOf hT p_gn ?_)
  refine wpAny_bind (wpAny_specialOf hT p_sub.lookup ?_)
  refine wpAny_bind (wpAny_of_eq p_type ?_)
  refine wpAny_bind (wpAny_load ho ?_)
  rw [hd]
  exact wpAny_bind (wpAny_rule (wpAny_pure h))
noncomputable def OutIs (o : Option (Nat × Nat)) (m : Sre.M) : Prop := match o with
  | some (a, e) => m.outcome = some .matched ∧ m.start = a ∧ m.handed = e
  | none => m.outcome = some .failed
theorem OutIs.isSome {o : Option (Nat × Nat)} {m : Sre.M} (h : OutIs o m) : m.outcome.isSome = true := by
  match o, h with
  | some (a, e), h => rw [h.1]; rfl
  | none, h => rw [show m.outcome = _ from h]; rfl
theorem drive {o : Option (Nat × Nat)} {Q : Sre.M → Shared → Prop} (hQ : ∀ m, OutIs o m → Q m s) : ∀ (T k : Nat) (m : Sre.M), k ≤ 4 * T → 0 < T → OutIs o (m.runFor k) → wpAny M A (reDrive T m) Q E s
  | 0, k, m, hk, hT, h => absurd hT (Nat.lt_irrefl _)
  | T + 1, k, m, hk, hT, h => by
    unfold reDrive
    show wpAny M A (if (m.runFor 4).outcome.isSome = true then pure (m.runFor 4) else do rule "sre.turn"; reDrive T (m.runFor 4)) Q E s
    have fin : ∀ n, (m.runFor k).runFor n = m.runFor k := fun n => runFor_done n _ h.isSome
    by_cases h4 : (m.runFor 4).outcome.isSome = true
    · rw [if_pos h4]
      refine wpAny_pure (hQ _ ?_)
      have e : m.runFor (k + 4) = m.runFor (4 + k) := by rw [Nat.add_comm]
      rw [runFor_add, runFor_add, fin, runFor_done _ _ h4] at e
      exact e ▸ h
    · rw [if_neg h4]
      refine wpAny_bind (wpAny_rule ?_)
      by_cases hk4 : k ≤ 4
      · exfalso
        have e := runFor_add k (4 - k) m
        rw [show k + (4 - k) = 4 by omega, fin] at e
        exact h4 (e ▸ h.isSome)
      · refine drive hQ T (k - 4) _ (by omega) (by omega) ?_
        rw [← runFor_add, show 4 + (k - 4) = k by omega]
        exact h
theorem toEnd {o : Option (Nat × Nat)} {k : Nat} {m : Sre.M} {Q : Option Sre.M → Shared → Prop} (hk : k ≤ 2 ^ 60) (h : OutIs o (m.runFor k))
    (hQ : ∀ r, (match o with | some (a, e) => ∃ m', r = some m' ∧ m'.start = a ∧ m'.handed = e | none => r = none) → Q r s) : wpAny M A (reRunToEnd m) Q E s := by
  unfold reRunToEnd
  have go : ∀ T, T = 2 ^ 64 → wpAny M A (reDrive T m) (fun m' s' => s' = s ∧ OutIs o m') E s := fun T hT => drive (fun m' h' => ⟨rfl, h'⟩) T k m (by rw [hT]; omega) (by rw [hT]; omega) h
  refine wpAny_bind (wpAny_mono (go _ rfl) (fun m' s' hm => ?_) fun _ _ h' => h')
  obtain ⟨rfl, hm⟩ := hm
  refine wpAny_bind ?_
  refine wpAny_forIn_list _ (fun _ _ s'' => s'' = s') _ (fun x rest b s'' hs => ?_) (fun b s'' hs => ?_) _ _ rfl
  · subst hs
    split
    · exact wpAny_bind (wpAny_rule (wpAny_pure rfl))
    · exact wpAny_pure rfl
  · subst hs
    match o, hm, hQ with
    | some (a, e), hm, hQ =>
      rw [hm.1]
      exact wpAny_pure (hQ _ ⟨_, rfl, hm.2⟩)
    | none, hm, hQ =>
      rw [show m'.outcome = _ from hm]
      exact wpAny_pure (hQ _ rfl)
end
end Mine
end
section
open PySem PySem.W PyProof.Rows PySem.Calls PySem.Builtin.Re
set_option maxRecDepth 100000
namespace Mine
noncomputable def Runs (code text : Array Nat) (find : Nat → Option (Nat × Nat)) : Prop :=
  ∀ s, s ≤ text.size → (∃ k, k ≤ 2 ^ 60 ∧ OutIs (find s) ((Sre.forSearch code text 0 s text.size false).runFor k)) ∧ ∀ a e, find s = some (a, e) → s ≤ a ∧ a < e ∧ e ≤ text.size
noncomputable def subL (text : Array Nat) (find : Nat → Option (Nat × Nat)) (r : Str) : Nat → Nat → List Str
  | 0, _ => []
  | f + 1, s => match find s with
    | some (a, e) => (if s < a then [⟨text.extract s a⟩] else []) ++ r :: subL text find r f e
    | none => if s < text.size then [⟨text.extract s text.size⟩] else []
noncomputable def PatAt (h : Heap) (p : Addr) (code : Array Nat) : Prop := ∃ pat fl q items, h.get? p = some ⟨.type "re.Pattern", none, .fields #[pat, fl, .int 0 0, .none, .none, .ref q, .int 0 0], #[]⟩ ∧
  h.get? q = some ⟨.type "tuple", none, .seq items 0, #[]⟩ ∧ (items.map reRawOf).map (·.toNat) = code
theorem PatAt.keeps {h h' : Heap} {p : Addr} {code : Array Nat} (x : PatAt h p code) (k : ∀ b o, h.get? b = some o → h'.get? b = some o) : PatAt h' p code :=
  let ⟨a, b, c, d, e, f, g⟩ := x; ⟨a, b, c, d, k _ _ e, k _ _ f, g⟩
theorem strsAre_push {acc : Array Value} {ys : List Str} (h : StrsAre acc.toList ys) (y : Str) (t : Tok) : StrsAre (acc.push (.str y t)).toList (ys ++ [y]) := by
  rw [Array.toList_push]
  exact StrsAre.append' h (.cons _ _ .nil)
section
variable {prog : Program} {w : World} {A : Around} {E : Value → Shared → Prop} {s : Shared}
theorem whole {p : Addr} {code : Array Nat} {x : Str} {t : Tok} {Q : ReTarget → Shared → Prop} (hp : PatAt s.heap p code)
    (h : Q { pattern := .ref p, string := .str x t, code := code, text := x.cps, kind := 0, groups := 0, pos := 0, lim := x.cps.size } s) : wpAny (model prog w) A (reWholeTarget (.ref p) (.str x t)) Q E s := by
  obtain ⟨pat, fl, q, items, e1, e2, e3⟩ := hp
  unfold reWholeTarget
  refine wpAny_bind (wpAny_fieldsOf e1 rfl ?_)
  refine wpAny_bind (wpAny_pure ?_)
  show wpAny (model prog w) A (reNoCollectionInside (.str x t) 0 >>= fun _ => reRawItems (.ref q) >>= fun y => pure _) Q E s
  refine wpAny_bind (wpAny_pure ?_)
  refine wpAny_bind ?_
  unfold reRawItems
  refine wpAny_bind (wpAny_seqItems e2 rfl ?_)
  refine wpAny_pure (wpAny_pure ?_)
  show Q { pattern := .ref p, string := .str x t, code := (items.map reRawOf).map (·.toNat), text := x.cps, kind := 0, groups := 0, pos := 0, lim := x.cps.size } s
  rw [e3]
  exact h
theorem slice {text : Array Nat} {a b : Nat} {Q : Value → Shared → Prop} (hs : text.size ≤ sizeLine) (h : Q (.str ⟨text.extract a b⟩ s.toks) { s with toks := s.toks + 1 }) : wpAny (model prog w) A (reSlice text 0 a b) Q E s := by
  show wpAny _ _ (mkStr _) _ _ _
  refine wpAny_mkStr h ?_
  show (text.extract a b).size ≤ sizeLine
  rw [Array.size_extract]; omega
theorem sub_loop {p : Addr} {D : Addr} {code : Array Nat} {x r : Str} {t tr : Tok} {find : Nat → Option (Nat × Nat)} {R : Result → Shared → Prop} (s₀ : Shared) (hr : Runs code x.cps find) (hx : x.cps.size ≤ 1000) (hrl : r.length ≤ 2)
    (hp : PatAt s₀.heap p code) (hD : s₀.heap.objs.size = D)
    (Y : List Str) (hR : ∀ (h' : Heap) (tk tk' : Tok), (∀ b o, s₀.heap.get? b = some o → h'.get? b = some o) → R (.ok (.ret (.str (Txt.join ⟨#[]⟩ Y) tk))) { s₀ with heap := h', toks := tk' }) :
    ∀ (f i : Nat) (n : Nat) (acc : Array Value) (c : Nat) (ys : List Str) (h : Heap) (tk : Tok), x.cps.size < i + f → i ≤ x.cps.size → h.get? D = some ⟨.type "list", none, .seq acc c, #[]⟩ → StrsAre acc.toList ys → acc.size ≤ 2 * i → (ys.map (·.length)).sum ≤ 2 * i →
      (∀ b o, s₀.heap.get? b = some o → h.get? b = some o) → ys ++ subL x.cps find r f i = Y →
      codeAny (model prog w) A (.builtin "re.Pattern.sub.loop" ⟨[.ref p, .str x t, .str r tr, rawInt 0, rawInt 0, .int (n : Int) 0, rawInt (i : Int), rawInt (i : Int), .bool false, .ref D, .bool false], []⟩) R { s₀ with heap := h, toks := tk }
  | 0, i, n, acc, c, ys, h, tk, hf, hi, hD', hys, ha, hw, hk, he => absurd hf (by omega)
  | f + 1, i, n, acc, c, ys, h, tk, hf, hi, hD', hys, ha, hw, hk, he => by
    have hbase : ∀ b o, s₀.heap.get? b = some o → b ≠ D := fun b o hb e => by
      rw [e, ← hD, Heap.get?_none_of_le (Nat.le_refl _)] at hb
      cases hb
    have hsl : x.cps.size ≤ sizeLine := by unfold sizeLine; omega
    refine codeAny_builtin p_loop ?_
    rw [Around.under_plainId p_plainl _]
    show wpAny _ A.in1 (reWholeTarget (.ref p) (.str x t) >>= _) _ _ _
    refine wpAny_bind (whole (hp.keeps hk) ?_)
    show wpAny _ A.in1 (reNextFound { pattern := .ref p, string := .str x t, code := code, text := x.cps, kind := 0, groups := 0, pos := 0, lim := x.cps.size } ((i : Int).toNat) false >>= _) _ _ _
    obtain ⟨⟨k, hk60, hout⟩, hbd⟩ := hr i hi
    refine wpAny_bind (toEnd (o := find i) hk60 (by rw [Int.toNat_natCast]; exact hout) fun res hres => ?_)
    unfold subL at he
    cases hfind : find i with
    | some ae =>
      obtain ⟨a, e⟩ := ae
      rw [hfind] at hres he
      obtain ⟨m, rfl, hm1, hm2⟩ := hres
      obtain ⟨hia, hae, hex⟩ := hbd a e hfind
      dsimp only at he
      have rest : ∀ (acc' : Array Value) (c' : Nat) (ys' : List Str) (h' : Heap) (tk' : Tok), h'.get? D = some ⟨.type "list", none, .seq acc' c', #[]⟩ → StrsAre acc'.toList ys' → acc'.size + 1 ≤ 2 * e → (ys'.map (·.length)).sum + 2 ≤ 2 * e → (∀ b o, s₀.heap.get? b = some o → h'.get? b = some o) →
          ys' ++ (r :: subL x.cps find r f e) = Y →
          wpAny (model prog w) A.in1 (updateSeq D (·.push (.str r tr)) >>= fun _ => again (.builtin "re.Pattern.sub.loop" ⟨[.ref p, .str x t, .str r tr, rawInt 0, rawInt 0, rawInt ((n : Int) + 1), rawInt m.handed, rawInt m.handed, .bool (m.handed == a), .ref D, .bool false], []⟩))
            (fun fin s' => match fin with | .done f => R (.ok f) s' | .again c' => c'.quiet = true ∧ codeAny (model prog w) A c' R s') (fun e s' => R (.error e) s') { s₀ with heap := h', toks := tk' } := by
        intro acc' c' ys' h' tk' hD2 hys' ha' hw' hk' he'
        refine wpAny_bind (wpAny_updateSeq hD2 rfl ?_ (by unfold sizeLine; omega) (by rw [Array.size_push]; unfold sizeLine; omega))
        refine wpAny_pure ⟨plainId_quiet p_plainl _, ?_⟩
        have hb : (m.handed == a) = false := by rw [hm2]; exact beq_eq_false_iff_ne.mpr (by omega)
        rw [hb, hm2]
        refine sub_loop s₀ hr hx hrl hp hD Y hR f e (n + 1) (acc'.push (.str r tr)) _ (ys' ++ [r]) _ _ (by omega) hex (Heap.get?_update_self _ hD2 rfl) (strsAre_push hys' _ _) (by rw [Array.size_push]; omega) ?_ (fun b o hb' => ?_) ?_
        · rw [List.map_append, List.sum_append]; simp; omega
        · exact (Heap.get?_update_other _ _ (Ne.symm (hbase b o hb'))).trans (hk' b o hb')
        · rw [List.append_assoc]; exact he'
      show wpAny _ A.in1 (if ((i : Int).toNat) < m.start then (reSlice x.cps 0 ((i : Int).toNat) m.start >>= fun z => updateSeq D (·.push z) >>= fun _ => _) else _) _ _ _
      rw [Int.toNat_natCast, hm1]
      by_cases hlt : i < a
      · rw [if_pos hlt]
        rw [if_pos hlt] at he
        refine wpAny_bind (slice hsl ?_)
        refine wpAny_bind (wpAny_updateSeq hD' rfl ?_ (by unfold sizeLine; omega) (by rw [Array.size_push]; unfold sizeLine; omega))
        refine rest (acc.push (.str ⟨x.cps.extract i a⟩ tk)) (if (acc.push (.str ⟨x.cps.extract i a⟩ tk)).size == acc.size then c else c + 1) (ys ++ [⟨x.cps.extract i a⟩]) _ _ ?_ (strsAre_push hys _ _) (by rw [Array.size_push]; omega) ?_ (fun b o hb' => ?_) ?_
        · exact Heap.get?_update_self (Obj.mapSeq (·.push (.str ⟨x.cps.extract i a⟩ tk))) hD' rfl
        · have : (⟨x.cps.extract i a⟩ : Str).length ≤ a - i := by show (x.cps.extract i a).size ≤ _; rw [Array.size_extract]; omega
          rw [List.map_append, List.sum_append]; simp; omega
        · exact (Heap.get?_update_other _ _ (Ne.symm (hbase b o hb'))).trans (hk b o hb')
        · rw [← he]; simp
      · rw [if_neg hlt]
        rw [if_neg hlt] at he
        exact rest _ _ ys _ _ hD' hys (by omega) (by omega) hk (by rw [← he]; rfl)
    | none =>
      rw [hfind] at hres he
      subst hres
      dsimp only at he
      have rest : ∀ (acc' : Array Value) (c' : Nat) (ys' : List Str) (h' : Heap) (tk' : Tok), h'.get? D = some ⟨.type "list", none, .seq acc' c', #[]⟩ → StrsAre acc'.toList ys' → acc'.size ≤ 2 * x.cps.size + 1 → (ys'.map (·.length)).sum ≤ 4 * x.cps.size → (∀ b o, s₀.heap.get? b = some o → h'.get? b = some o) →
          ys' = Y →
          wpAny (model prog w) A.in1 (reSlice x.cps 0 0 0 >>= fun joiner => seqItems? (.ref D) >>= fun its => if (its.getD #[]).isEmpty = true then ret joiner else call (.builtin "str.join") [joiner, .ref D] >>= fun text => ret text)
            (fun fin s' => match fin with | .done f => R (.ok f) s' | .again c' => c'.quiet = true ∧ codeAny (model prog w) A c' R s') (fun e s' => R (.error e) s') { s₀ with heap := h', toks := tk' } := by
        intro acc' c' ys' h' tk' hD2 hys' ha' hw' hk' he'
        have e0 : (⟨x.cps.extract 0 0⟩ : Str) = ⟨#[]⟩ := by simp
        refine wpAny_bind (slice hsl ?_)
        rw [e0]
        refine wpAny_bind (wpAny_seqItems hD2 rfl ?_)
        show wpAny _ A.in1 (if acc'.isEmpty = true then _ else _) _ _ _
        by_cases hemp : acc'.isEmpty = true
        · rw [if_pos hemp]
          have hz : ys' = [] := by
            have : acc'.toList = [] := by simpa using hemp
            rw [this] at hys'; cases hys'; rfl
          refine wpAny_pure ?_
          have := hR h' tk' (tk' + 1) hk'
          rw [← he', hz] at this
          exact this
        · rw [if_neg hemp]
          refine wpAny_bind (join_listW (x := ⟨#[]⟩) ⟨_, hD2, rfl, _, rfl⟩ hys' (Nat.zero_le _) ?_ fun t' k' => wpAny_pure ?_)
          · have := hys'.length
            rw [Array.length_toList] at this
            omega
          · rw [he']
            exact hR _ _ _ hk'
      show wpAny _ A.in1 (if ((i : Int).toNat) < x.cps.size then (reSlice x.cps 0 ((i : Int).toNat) x.cps.size >>= fun z => updateSeq D (·.push z) >>= fun _ => _) else _) _ _ _
      rw [Int.toNat_natCast]
      by_cases hlt : i < x.cps.size
      · rw [if_pos hlt]
        rw [if_pos hlt] at he
        refine wpAny_bind (slice hsl ?_)
        refine wpAny_bind (wpAny_updateSeq hD' rfl ?_ (by unfold sizeLine; omega) (by rw [Array.size_push]; unfold sizeLine; omega))
        refine rest (acc.push (.str ⟨x.cps.extract i x.cps.size⟩ tk)) (if (acc.push (.str ⟨x.cps.extract i x.cps.size⟩ tk)).size == acc.size then c else c + 1) (ys ++ [⟨x.cps.extract i x.cps.size⟩]) _ _ ?_ (strsAre_push hys _ _) (by rw [Array.size_push]; omega) ?_ (fun b o hb' => ?_) he
        · exact Heap.get?_update_self (Obj.mapSeq (·.push (.str ⟨x.cps.extract i x.cps.size⟩ tk))) hD' rfl
        · have : (⟨x.cps.extract i x.cps.size⟩ : Str).length ≤ x.cps.size - i := by show (x.cps.extract i x.cps.size).size ≤ _; rw [Array.size_extract]; omega
          rw [List.map_append, List.sum_append]; simp; omega
        · exact (Heap.get?_update_other _ _ (Ne.symm (hbase b o hb'))).trans (hk b o hb')
      · rw [if_neg hlt]
        rw [if_neg hlt, List.append_nil] at he
        exact rest _ _ ys _ _ hD' hys (by omega) (by omega) hk he
theorem call_sub {p : Addr} {code : Array Nat} {x r : Str} {t tr : Tok} {find : Nat → Option (Nat × Nat)} {Q : Value → Shared → Prop} (hr : Runs code x.cps find) (hx : x.cps.size ≤ 1000) (hrl : r.length ≤ 2) (h92 : r.cps.contains 92 = false)
    (hp : PatAt s.heap p code)
    (hQ : ∀ (h' : Heap) (tk tk' : Tok), (∀ b o, s.heap.get? b = some o → h'.get? b = some o) → Q (.str (Txt.join ⟨#[]⟩ (subL x.cps find r (x.cps.size + 1) 0)) tk) { s with heap := h', toks := tk' }) :
    wpAny (model prog w) A (call (.builtin "re.Pattern.sub") [.ref p, .str r tr, .str x t]) Q E s := by
  have hT : s.TypeIs (.ref p) "re.Pattern" := let ⟨_, _, _, _, e, _⟩ := hp; ⟨_, e, rfl⟩
  refine wpAny_call (codeAny_call_builtin p_sub.plain p_entry (p_sub.check _ _ _ _ _ _ _ _ hT (p_args _ _ _) ?_))
  show wpAny _ _ (reNamed "re.Pattern.sub" "sub" ["repl", "string", "count"] 2 [.str r tr, .str x t] [] >>= _) _ _ _
  rw [show reNamed "re.Pattern.sub" "sub" ["repl", "string", "count"] 2 [.str r tr, .str x t] [] = pure [some (.str r tr), some (.str x t), none] by kernel_rfl]
  refine wpAny_bind (wpAny_pure ?_)
  refine wpAny_bind (wpAny_pure ?_)
  refine wpAny_bind (wpAny_specialOf (typeIs_str _ _ _) p_strcall ?_)
  refine wpAny_bind (wpAny_pure ?_)
  refine wpAny_bind (m := pure (!r.cps.contains 92)) (wpAny_pure ?_)
  rw [h92]
  refine wpAny_bind (m := holding [.str r tr] (reWholeTarget (.ref p) (.str x t))) (wpAny_holding (whole hp ?_))
  show wpAny _ _ (newList [] >>= _) _ _ _
  refine wpAny_bind (wpAny_newObj_type ?_)
  refine wpAny_pure ⟨plainId_quiet p_plainl _, ?_⟩
  refine sub_loop s hr hx hrl hp rfl _ (fun h' tk tk' hk => hQ h' tk tk' hk) (x.cps.size + 1) 0 0 #[] _ [] _ _ (by omega) (Nat.zero_le _) (Heap.get?_push_size _ rfl) .nil (Nat.zero_le _) (Nat.zero_le _) (fun b o e => Heap.get?_push_of_some _ e) rfl
end
end Mine
end
section
open PySem PySem.W PyProof.Rows PySem.Calls PySem.Builtin.Re
set_option maxRecDepth 100000
namespace Mine
noncomputable def d1 : Bool → List Nat → List Nat
  | _, [] => []
  | b, c :: cs => (if (b && c == 46) = true then [46, 46] else [c]) ++ d1 (c == 10) cs
noncomputable def nl2 : List Nat → List Nat
  | [] => []
  | 13 :: 10 :: cs => 13 :: 10 :: nl2 cs
  | c :: cs => (if nl c = true then [13, 10] else [c]) ++ nl2 cs
noncomputable def quoteL (l : List Nat) : List Nat := d1 true (nl2 l)
noncomputable def findH (hit : Nat → Bool) : Nat → Nat → Option Nat
  | 0, _ => none
  | d + 1, s => if hit s = true then some s else findH hit d (s + 1)
theorem find1_eq (text : Array Nat) (lim : Nat) : ∀ d s, find1 text lim d s = findH (hit1 text) d s
  | 0, _ => rfl
  | d + 1, s => by unfold find1 findH; rw [find1_eq text lim d]
theorem next2_eq (text : Array Nat) : ∀ d s, next2 text d s = findH (fun s => nl (text.getD s 0)) d s
  | 0, _ => rfl
  | d + 1, s => by unfold next2 findH; rw [next2_eq text d]
theorem findH_some {hit : Nat → Bool} : ∀ {d s a}, findH hit d s = some a → s ≤ a ∧ a < s + d ∧ hit a = true
  | 0, s, a, h => by cases h
  | d + 1, s, a, h => by
    unfold findH at h
    split at h
    · cases h; exact ⟨Nat.le_refl _, by omega, by assumption⟩
    · obtain ⟨x, y, z⟩ := findH_some h; exact ⟨by omega, by omega, z⟩
theorem flat_join (ys : List Str) : (Txt.join ⟨#[]⟩ ys).cps.toList = ys.flatMap (·.cps.toList) := by
  have go : ∀ (zs : List Str) (acc : Array Nat), (zs.foldl (fun acc p => acc ++ (⟨#[]⟩ : Str).cps ++ p.cps) acc).toList = acc.toList ++ zs.flatMap (·.cps.toList) := by
    intro zs
    induction zs with
    | nil => intro acc; simp
    | cons z zs ih => intro acc; rw [List.foldl_cons, ih]; simp
  unfold Txt.join Builtin.Str.glued
  rw [go]
  cases ys with
  | nil => rfl
  | cons y ys => simp
theorem flat_sub (text : Array Nat) (hit : Nat → Bool) (wide : Nat → Nat) (r : Str) (G : Nat → List Nat) (h0 : G text.size = []) (hm : ∀ s, s < text.size → hit s = false → G s = text.getD s 0 :: G (s + 1))
    (hh : ∀ s, s < text.size → hit s = true → G s = r.cps.toList ++ G (s + wide s)) (hw : ∀ s, s < text.size → hit s = true → 1 ≤ wide s ∧ s + wide s ≤ text.size) :
    ∀ f s, s ≤ text.size → text.size < s + f → (subL text (fun s => (findH hit (text.size - s) s).map fun a => (a, a + wide a)) r f s).flatMap (·.cps.toList) = G s := by
  have seg : ∀ d s, s + d = text.size → (∀ a, findH hit d s = some a → G s = (text.extract s a).toList ++ G a) ∧ (findH hit d s = none → G s = (text.extract s text.size).toList) := by
    intro d
    induction d with
    | zero => intro s hs; refine ⟨fun a h => (by cases h), fun _ => ?_⟩; rw [show s = text.size by omega, h0]; simp
    | succ d ih =>
      intro s hs
      obtain ⟨ih1, ih2⟩ := ih (s + 1) (by omega)
      unfold findH
      have hcons : ∀ b, s + 1 ≤ b → text.getD s 0 :: (text.extract (s + 1) b).toList = (text.extract s b).toList := by
        intro b hb
        have hlt : s < text.toList.length := by rw [Array.length_toList]; omega
        rw [Array.toList_extract, Array.toList_extract]
        simp only [List.extract_eq_take_drop]
        rw [show text.getD s 0 = text.toList[s] by rw [Array.getD_eq_getD_getElem?, Array.getElem?_eq_getElem (by omega)]; simp]
        rw [List.drop_eq_getElem_cons hlt, show b - s = (b - (s + 1)) + 1 by omega, List.take_succ_cons]
      by_cases hs1 : hit s = true
      · rw [if_pos hs1]
        refine ⟨fun a h => ?_, fun h => (by cases h)⟩
        cases h
        simp
      · rw [if_neg hs1]
        have hms := hm s (by omega) (by simpa using hs1)
        refine ⟨fun a h => ?_, fun h => ?_⟩
        · have hsa := findH_some h
          rw [hms, ih1 a h, ← hcons a (by omega)]; rfl
        · rw [hms, ih2 h, ← hcons _ (by omega)]
  intro f
  induction f with
  | zero => intro s h1 h2; omega
  | succ f ih =>
    intro s h1 h2
    obtain ⟨s1, s2⟩ := seg (text.size - s) s (by omega)
    unfold subL
    cases hf : findH hit (text.size - s) s with
    | none =>
      show (if s < text.size then [_] else []).flatMap _ = _
      rw [s2 hf]
      by_cases hlt : s < text.size
      · rw [if_pos hlt]; simp
      · rw [if_neg hlt, show s = text.size by omega]; simp
    | some a =>
      show ((if s < a then [_] else []) ++ r :: subL text _ r f (a + wide a)).flatMap _ = _
      have ha := findH_some hf
      have hwa := hw a (by omega) ha.2.2
      rw [List.flatMap_append, List.flatMap_cons, ih (a + wide a) hwa.2 (by omega), s1 a hf, hh a (by omega) ha.2.2]
      by_cases hlt : s < a
      · rw [if_pos hlt]; simp
      · rw [if_neg hlt, show s = a by omega]; simp
theorem end1 (text : Array Nat) : OutIs none ((Sre.forSearch code1 text 0 text.size text.size false).runFor 1) := by
  have e : (Sre.header code1) = (1, 5) := by decide +kernel
  have e2 : ((decide (text.size > text.size) || decide (text.size - text.size < (Sre.header code1).1)) = true) = True := by
    rw [e]; simp
  show ((Sre.forSearch code1 text 0 text.size text.size false).runFor 1).outcome = some .failed
  unfold Sre.forSearch
  simp only [e2, if_true]
  kernel_rfl
theorem end2 (text : Array Nat) : OutIs none ((Sre.forSearch code2 text 0 text.size text.size false).runFor 1) := by
  have e : (Sre.header code2) = (1, 10) := by decide +kernel
  have e2 : ((decide (text.size > text.size) || decide (text.size - text.size < (Sre.header code2).1)) = true) = True := by
    rw [e]; simp
  show ((Sre.forSearch code2 text 0 text.size text.size false).runFor 1).outcome = some .failed
  unfold Sre.forSearch
  simp only [e2, if_true]
  kernel_rfl
theorem outIs_of_fin {o : Option Nat} {w : Nat} {m : Sre.M} (h : Fin1 o w m) : OutIs (o.map fun a => (a, a + w)) m := by
  cases o <;> exact h
theorem runs1 (text : Array Nat) (hs : text.size ≤ 1000) : Runs code1 text (fun s => (findH (hit1 text) (text.size - s) s).map fun a => (a, a + 1)) := by
  intro s hsl
  refine ⟨?_, fun a e h => ?_⟩
  · by_cases hlt : s < text.size
    · obtain ⟨k, hk, hf⟩ := run1 text text.size (text.size - s) s true (({} : Sre.Seen).add 14) (by omega)
      refine ⟨k, by omega, ?_⟩
      rw [search1 text _ s hlt]
      rw [find1_eq] at hf
      exact outIs_of_fin hf
    · have : s = text.size := by omega
      subst this
      refine ⟨1, by omega, ?_⟩
      dsimp only
      rw [Nat.sub_self]
      exact end1 text
  · simp only [Option.map_eq_some_iff] at h
    obtain ⟨b, hb, he⟩ := h
    cases he
    have := findH_some hb
    omega
theorem wide2_pos (text : Array Nat) (a : Nat) (h : a < text.size) : 1 ≤ wide2 text text.size a ∧ a + wide2 text text.size a ≤ text.size := by
  by_cases q : text.getD a 0 = 13 ∧ a + 1 < text.size ∧ text.getD (a + 1) 0 = 10
  · rw [show wide2 text text.size a = 2 from if_pos q]; omega
  · rw [show wide2 text text.size a = 1 from if_neg q]; omega
theorem runs2 (text : Array Nat) (hs : text.size ≤ 1000) : Runs code2 text (fun s => (findH (fun s => nl (text.getD s 0)) (text.size - s) s).map fun a => (a, a + wide2 text text.size a)) := by
  intro s hsl
  refine ⟨?_, fun a e h => ?_⟩
  · by_cases hlt : s < text.size
    · obtain ⟨seen, hf⟩ := search2 text text.size s hlt
      rw [hf, next2_eq]
      cases hn : findH (fun s => nl (text.getD s 0)) (text.size - s) s with
      | none =>
        refine ⟨1, by omega, ?_⟩
        dsimp only
        rw [hn]
        show Sre.M.outcome _ = _
        kernel_rfl
      | some a =>
        have ha := findH_some hn
        obtain ⟨k, hk, h2⟩ := run2 text text.size a seen (by omega) ha.2.2
        refine ⟨k, by omega, ?_⟩
        dsimp only
        rw [hn]
        exact outIs_of_fin h2
    · have : s = text.size := by omega
      subst this
      refine ⟨1, by omega, ?_⟩
      dsimp only
      rw [Nat.sub_self]
      exact end2 text
  · simp only [Option.map_eq_some_iff] at h
    obtain ⟨b, hb, he⟩ := h
    cases he
    have := findH_some hb
    have := wide2_pos text a (by omega)
    omega
theorem drop_cons (text : Array Nat) (s : Nat) (h : s < text.size) : text.toList.drop s = text.getD s 0 :: text.toList.drop (s + 1) := by
  have hlt : s < text.toList.length := by rw [Array.length_toList]; omega
  rw [show text.getD s 0 = text.toList[s] by rw [Array.getD_eq_getD_getElem?, Array.getElem?_eq_getElem (by omega)]; simp, List.drop_eq_getElem_cons hlt]
theorem drop_size (text : Array Nat) : text.toList.drop text.size = [] := by simp
theorem nl2_cons (c : Nat) (cs : List Nat) (h : ¬ (c = 13 ∧ ∃ t, cs = 10 :: t)) : nl2 (c :: cs) = (if nl c = true then [13, 10] else [c]) ++ nl2 cs := by
  rw [nl2]
  intro t h1 h2
  exact h ⟨h1, t, h2⟩
theorem sub2_flat (text : Array Nat) : (subL text (fun s => (findH (fun s => nl (text.getD s 0)) (text.size - s) s).map fun a => (a, a + wide2 text text.size a)) ⟨#[13, 10]⟩ (text.size + 1) 0).flatMap (·.cps.toList) = nl2 text.toList := by
  rw [flat_sub text _ _ _ (fun s => nl2 (text.toList.drop s)) (by rw [drop_size]; rfl) ?_ ?_ (fun s h _ => wide2_pos text s h) _ _ (Nat.zero_le _) (by omega)]
  · rfl
  · intro s hs hn
    rw [drop_cons text s hs, nl2_cons _ _ ?_, if_neg (by rw [hn]; decide)]
    · rfl
    · rintro ⟨h, -⟩
      rw [h] at hn
      exact absurd hn (by decide)
  · intro s hs hn
    rw [drop_cons text s hs]
    by_cases h2 : text.getD s 0 = 13 ∧ s + 1 < text.size ∧ text.getD (s + 1) 0 = 10
    · rw [show wide2 text text.size s = 2 from if_pos h2, drop_cons text (s + 1) h2.2.1, h2.1, h2.2.2]
      rfl
    · rw [show wide2 text text.size s = 1 from if_neg h2, nl2_cons _ _ ?_, if_pos hn]
      rintro ⟨h, t, ht⟩
      refine h2 ⟨h, ?_⟩
      by_cases hs1 : s + 1 < text.size
      · rw [drop_cons text (s + 1) hs1] at ht
        exact ⟨hs1, (List.cons.inj ht).1⟩
      · rw [List.drop_eq_nil_of_le (by rw [Array.length_toList]; omega)] at ht
        cases ht
theorem sub1_flat (text : Array Nat) : (subL text (fun s => (findH (hit1 text) (text.size - s) s).map fun a => (a, a + 1)) ⟨#[46, 46]⟩ (text.size + 1) 0).flatMap (·.cps.toList) = d1 true text.toList := by
  rw [flat_sub text _ (fun _ => 1) _ (fun s => d1 (s == 0 || text.getD (s - 1) 0 == 10) (text.toList.drop s)) (by rw [drop_size]; cases (text.size == 0 || text.getD (text.size - 1) 0 == 10) <;> rfl) ?_ ?_ (fun s h _ => ⟨Nat.le_refl _, h⟩) _ _ (Nat.zero_le _) (by omega)]
  · rfl
  · intro s hs hn
    rw [drop_cons text s hs]
    conv => lhs; unfold d1
    rw [if_neg (by unfold hit1 at hn; rw [hn]; decide)]
    rfl
  · intro s hs hn
    rw [drop_cons text s hs]
    conv => lhs; unfold d1
    unfold hit1 at hn
    rw [if_pos hn]
    have : text.getD s 0 = 46 := by
      rw [Bool.and_eq_true] at hn
      exact beq_iff_eq.mp hn.2
    rfl
end Mine
end
section
local macro_rules | `(tactic| walk_at "zz idle") => `(tactic| skip)
open PySem PySem.W PyProof.Rows PySem.Calls
set_option maxRecDepth 100000
namespace Mine
theorem pat1 {P : Params} {h : Heap} (x : (KF P).In h) : PatAt h 58 code1 :=
  ⟨.str (PySem.Str.mk #[40, 63, 109, 41, 94, 92, 46]) 349, .int 40 362, 57, #[(.int 14 0), (.int 4 0), (.int 0 0), (.int 1 0), (.int 1 0), (.int 6 0), (.int 1 0), (.int 16 0), (.int 46 0), (.int 1 0)], x 58 _ (by kernel_rfl), x 57 _ (by kernel_rfl), by kernel_rfl⟩
theorem pat2 {P : Params} {h : Heap} (x : (KF P).In h) : PatAt h 63 code2 :=
  ⟨.str (PySem.Str.mk #[40, 63, 58, 92, 114, 92, 110, 124, 92, 110, 124, 92, 114, 40, 63, 33, 92, 110, 41, 41]) 365, .int 32 404, 62, #[(.int 14 0), (.int 9 0), (.int 4 0), (.int 1 0), (.int 2 0), (.int 16 0), (.int 10 0), (.int 16 0), (.int 13 0), (.int 0 0), (.int 7 0), (.int 7 0), (.int 16 0), (.int 13 0), (.int 16 0), (.int 10 0), (.int 15 0), (.int 18 0), (.int 5 0), (.int 16 0), (.int 10 0), (.int 15 0), (.int 13 0), (.int 11 0), (.int 16 0), (.int 13 0), (.int 5 0), (.int 5 0), (.int 0 0), (.int 16 0), (.int 10 0), (.int 1 0), (.int 15 0), (.int 2 0), (.int 0 0), (.int 1 0)], x 63 _ (by kernel_rfl), x 62 _ (by kernel_rfl), by kernel_rfl⟩
noncomputable def sub2 (x : Str) : Str := Txt.join ⟨#[]⟩ (subL x.cps (fun s => (findH (fun s => nl (x.cps.getD s 0)) (x.cps.size - s) s).map fun a => (a, a + wide2 x.cps x.cps.size a)) ⟨#[13, 10]⟩ (x.cps.size + 1) 0)
noncomputable def sub1 (x : Str) : Str := Txt.join ⟨#[]⟩ (subL x.cps (fun s => (findH (hit1 x.cps) (x.cps.size - s) s).map fun a => (a, a + 1)) ⟨#[46, 46]⟩ (x.cps.size + 1) 0)
theorem sub2_is (x : Str) : (sub2 x).cps.toList = nl2 x.cps.toList := by unfold sub2; rw [flat_join, sub2_flat]
theorem sub1_is (x : Str) : (sub1 x).cps.toList = d1 true x.cps.toList := by unfold sub1; rw [flat_join, sub1_flat]
theorem nl2_len : ∀ l : List Nat, (nl2 l).length ≤ 2 * l.length
  | [] => Nat.zero_le _
  | c :: cs => by
    by_cases h : c = 13 ∧ ∃ t, cs = 10 :: t
    · obtain ⟨rfl, t, rfl⟩ := h
      have := nl2_len t
      show (13 :: 10 :: nl2 t).length ≤ _
      simp only [List.length_cons]; omega
    · rw [nl2_cons c cs h]
      have := nl2_len cs
      simp only [List.length_append, List.length_cons]
      split <;> simp <;> omega
theorem sub2_len {x : Str} (h : x.length ≤ 100) : (sub2 x).length ≤ 1000 := by
  have e : (sub2 x).cps.size = (nl2 x.cps.toList).length := by rw [← sub2_is, Array.length_toList]
  have h2 := nl2_len x.cps.toList
  have h3 : x.cps.toList.length = x.cps.size := Array.length_toList
  have h4 : x.cps.size ≤ 100 := h
  show (sub2 x).cps.size ≤ 1000
  omega
section
variable {prog : Program} {w : World} {A : Around} {E : Value → Shared → Prop} {s : Shared} {h₀ : Heap} {L : Addr} {m : Str → Option Value} {news : List (Addr × Obj)} {P : Params} {x r : Str} {t tr : Tok} {Q : Value → Shared → Prop}
theorem k_sub2 (F : Fr h₀ L s.heap m) (N : News h₀ L s.heap news) (X : (KF P).In h₀) (hr : r = ⟨#[13, 10]⟩) (hx : x.length ≤ 1000)
    (hQ : ∀ h' tk tk', Fr h₀ L h' m → News h₀ L h' news → Q (.str (sub2 x) tk) { s with heap := h', toks := tk' }) :
    wpAny (model prog w) A (call (.builtin "re.Pattern.sub") [.ref (nat_lit 63), .str r tr, .str x t]) Q E s := by
  subst hr
  exact call_sub (runs2 _ hx) hx (by decide) (by decide +kernel) ((pat2 X).keeps F.keep) fun h' tk tk' hk => hQ h' tk tk' (F.keeps hk) (N.grown hk)
theorem k_sub1 (F : Fr h₀ L s.heap m) (N : News h₀ L s.heap news) (X : (KF P).In h₀) (hr : r = ⟨#[46, 46]⟩) (hx : x.length ≤ 1000)
    (hQ : ∀ h' tk tk', Fr h₀ L h' m → News h₀ L h' news → Q (.str (sub1 x) tk) { s with heap := h', toks := tk' }) :
    wpAny (model prog w) A (call (.builtin "re.Pattern.sub") [.ref (nat_lit 58), .str r tr, .str x t]) Q E s := by
  subst hr
  exact call_sub (runs1 _ hx) hx (by decide) (by decide +kernel) ((pat1 X).keeps F.keep) fun h' tk tk' hk => hQ h' tk tk' (F.keeps hk) (N.grown hk)
end
theorem at63 {P : Params} {h : Heap} (x : (KF P).In h) : h.get? (nat_lit 63) = some (ob63 P) := x 63 _ (by kernel_rfl)
theorem at58 {P : Params} {h : Heap} (x : (KF P).In h) : h.get? (nat_lit 58) = some (ob58 P) := x 58 _ (by kernel_rfl)
local macro_rules | `(tactic| walk_at "getMethod ref") => `(tactic| (first | (refine getMethod_sub (p := nat_lit 63) (Fr.keep (by with_reducible assumption) _ _ (at63 (by with_reducible assumption))) rfl rfl ?_) | (refine getMethod_sub (p := nat_lit 58) (Fr.keep (by with_reducible assumption) _ _ (at58 (by with_reducible assumption))) rfl rfl ?_)))
local macro_rules | `(tactic| walk_at "call builtin:re.Pattern.sub") => `(tactic| (first | refine k_sub2 (by with_reducible assumption) (by with_reducible assumption) (by with_reducible assumption) (by decide +kernel) (Nat.le_trans (by with_reducible assumption) (by decide)) (fun h' tk1 tk2 F N => ?_) | refine k_sub1 (by with_reducible assumption) (by with_reducible assumption) (by with_reducible assumption) (by decide +kernel) (sub2_len (by with_reducible assumption)) (fun h' tk1 tk2 F N => ?_)))
set_option maxHeartbeats 8000000 in
theorem quote_spec (w : World) (x : Str) (hx : x.length ≤ 100) (tk : Tok) : PSpec w 70 [.str x tk] (fun _ => True) (fun v _ => ∃ y t, v = .str y t ∧ y.cps.toList = quoteL x.cps.toList) := by
  unfold PSpec Amb
  k_fill
  intro dp un fr gd s Q E hA hpre hd hu hret
  refine enterP 12 69 (binds := [("data", .str x tk)]) hA hd rfl rfl rfl rfl rfl rfl rfl (by decide) ?_
  intro mean mg mb g h₁ L hg X T F N
  k_steps
  refine hret _ _ _ (fun b o e => Fr.keep (by with_reducible assumption) b o (hg ▸ e)) ?_
  exact ⟨_, _, rfl, by rw [sub1_is, sub2_is]; rfl⟩
end Mine
end
section
open PySem PySem.W PyProof.Rows PySem.Calls PySem.Builtin
set_option maxRecDepth 100000
namespace Mine
noncomputable def ListIt (o : Obj) (l : Addr) (i : Nat) : Prop := o.cls = .type "list_iterator" ∧ o.data = .fields #[.ref l, .int i 0]
section
variable {prog : Program} {w : World} {A : Around} {E : Value → Shared → Prop} {s : Shared} {h₀ : Heap} {L : Addr} {m : Str → Option Value} {news : List (Addr × Obj)} {g : Obj → List (Addr × Obj)}
theorem lst_special {it l : Addr} {i : Nat} {items : Array Value} {x : Value} {Q : Option Value → Shared → Prop} (hit : s.heap.IsListIter it l i) (hl : s.heap.IsList l items) (hx : items[i]? = some x)
    (hQ : ∀ h', h'.IsListIter it l (i + 1) → Heap.SameBut it s.heap h' → Q (some x) { s with heap := h' }) : wpAny (model prog w) A (callSpecial? (.ref it) (Str.ofString "__next__")) Q E s := by
  obtain ⟨o, ho, hc, hd⟩ := id hit
  obtain ⟨ol, hol, _, nl, hdl⟩ := hl
  refine wpAny_callSpecial?_slot (name := Str.ofString "__next__") hit.typeIs slot_listiter_next
    (wpAny_call_entry slot_listiter_next hit.typeIs entry_listiter_next ?_ (args_listiter_next _))
  show wpAny _ _ (field (.ref it) 0 >>= _) _ _ s
  refine wpAny_bind (wpAny_field ho hd (x := .ref l) rfl ?_)
  show wpAny _ _ (if (Value.ref l == Value.none) = true then _ else _) _ _ s
  rw [if_neg (show ¬ ((Value.ref l == Value.none) = true) from Bool.false_ne_true)]
  show wpAny _ _ (field (.ref it) 1 >>= _) _ _ s
  refine wpAny_bind (wpAny_field ho hd (x := .int i 0) rfl ?_)
  show wpAny _ _ (seqItems? (.ref l) >>= _) _ _ s
  refine wpAny_bind (wpAny_seqItems hol hdl ?_)
  simp only [Int.toNat_natCast, hx]
  refine wpAny_bind (wpAny_setField ho hd (by simp) (wpAny_pure ⟨x, rfl, hQ _ ?_ (Heap.SameBut.update ..)⟩))
  exact ⟨_, Heap.get?_update_self _ ho (Obj.isFreed_of_fields (Obj.data_mapFields hd _)), (Obj.cls_mapFields ..).trans hc, by
    rw [Obj.data_mapFields hd]; simp [rawInt]⟩
theorem k_next {it l : Addr} {io : Obj} {i : Nat} {items : Array Value} {x : Value} {Q : Value → Shared → Prop} (F : Fr h₀ L s.heap m) (N : News h₀ L s.heap news) (U : UpdF it io news g) (hi : ListIt io l i) (hl : h₀.IsList l items) (hx : items[i]? = some x)
    (h : ∀ h' o', Fr h₀ L h' m → News h₀ L h' (g o') → ListIt o' l (i + 1) → Q x { s with heap := h' }) : wpAny (model prog w) A (call (.builtin "next") [.ref it]) Q E s := by
  obtain ⟨pre, post, hl', hg, a, b⟩ := U.split
  have hmem : (it, io) ∈ news := by rw [hl']; exact List.mem_append_right _ (.head _)
  have hm := N (it, io) hmem
  have hit : s.heap.IsListIter it l i := ⟨io, hm.1, hi.1, hi.2⟩
  refine call_function_entry (by decide +kernel) (by decide +kernel) kdk_entry_next (kdk_args_next _) ?_
  unfold Builtin.«next»
  refine wpAny_bind (m := someArgs "next" 1 2 _) (wpAny_of_eq (a := [Value.ref it]) (by first | rfl | kernel_rfl!) ?_)
  dsimp only
  refine wpAny_bind (wpAny_specialOf (name := Str.ofString "__next__") hit.typeIs slot_listiter_next.lookup ?_)
  refine wpAny_ite_split (fun hab => absurd hab (by decide)) (fun _ => ?_)
  refine wpAny_bind (lst_special hit (hl.at fun o e => F.keep l o e) hx fun h' hit' hs => ?_)
  obtain ⟨o', ho', hc', hd'⟩ := hit'
  exact wpAny_pure ⟨_, rfl, h h' o' (F.change hs hm.2.1 hm.2.2) (hg o' ▸ (show News h₀ L s.heap (pre ++ (it, io) :: post) from hl' ▸ N).setIn a b hs ho') ⟨hc', hd'⟩⟩
end
noncomputable def MSpec (w : World) (f : Addr) (vs : List Value) (it : Addr) (pre : Heap → Prop) (post : Value → Heap → Prop) : Prop :=
  ∀ (dp un : Nat) (fr : Option (List Env)) (gd : Option (List Code)) (s : Shared) (h₀ : Heap) (Q E : Value → Shared → Prop),
    Amb w h₀ → (∀ b o, h₀.get? b = some o → s.heap.get? b = some o) → h₀.get? it = none → pre s.heap → dp + 8 < recursionLimit → un + 64 < cLine →
    (∀ v h' tk', (∀ b o, b ≠ it → s.heap.get? b = some o → h'.get? b = some o) → post v h' → Q v { s with heap := h', toks := tk' }) →
    wpAny (model PySem.Challenge.rw_sr0008_01.prog w) (AR dp un fr gd) (call (.ref f) vs) Q E s
theorem enterM (i c : Nat) {w : World} {f it : Addr} {io : Obj} {vs : List Value} {binds : List (Str × Value)} {name : Str} {pm : Value} {dp un : Nat} {fr : Option (List Env)} {gd : Option (List Code)} {s : Shared} {h₀ : Heap} {Q E : Value → Shared → Prop}
    (A : Amb w h₀) (hst : ∀ b o, h₀.get? b = some o → s.heap.get? b = some o) (hit : h₀.get? it = none) (hio : s.heap.get? it = some io) (hd : dp + 8 < recursionLimit)
    (ho : (KF w.params).lookup f = some ⟨.type "function", none, .func (fnOf name name (fnP (stN i)) (fnB (stN i)) (fnS (stN i)) .none .none .none pm none (.ref c) .none), #[]⟩)
    (hcd : codeIn (KF w.params) (.ref c) name = true)
    (hbind : bindArgs (docDef name (fnP (stN i)) (fnB (stN i)) (fnS (stN i)) pm (.ref c) .none) ⟨vs, []⟩ = pure binds)
    (hloc : (binds.all fun x => decide ((fnS (stN i)).names.lookup x.1 = some .local)) = true)
    (hco : (fnS (stN i)).isCoroutine = false) (hgen : (fnS (stN i)).isGenerator = false) (hk : (fnS (stN i)).kind = .function)
    (hcell : ∀ x ∈ (fnS (stN i)).names, x.2 ≠ .cell)
    (h : ∀ mean mg mb g h₁ L, g = hideAll s.heap [it] → (KF w.params).In g → Top qv (looseW qv loose) mean mg mb g → Fr g L h₁ (fun x => binds.reverse.lookup x) → News g L h₁ [(it, io)] →
      wpAny (model PySem.Challenge.rw_sr0008_01.prog w) ((AR dp un fr gd).deeper (envOf name (fnS (stN i)) L f (.ref c))) (execs (fnB (stN i)) (envOf name (fnS (stN i)) L f (.ref c)))
        (fun fl s' => Q (match fl with | .ret v => v | _ => .none) s') (fun _ _ => False) { s with heap := h₁, toks := s.toks + binds.length }) :
    wpAny (model PySem.Challenge.rw_sr0008_01.prog w) (AR dp un fr gd) (call (.ref f) vs) Q E s := by
  obtain ⟨X, mean, mg, mb, T⟩ := A
  have st : ∀ b o, h₀.get? b = some o → (hideAll s.heap [it]).get? b = some o := fun b o e => hideAll_get _ (hst b o e) fun q => by
    rw [List.mem_singleton.mp q, hit] at e; cases e
  refine wpAny_call (call_plain_ret (by show dp < recursionLimit; omega) ((X.keeps hst) _ _ ho) rfl (T.keeps hst).nolimit (codeRec_of (X.keeps hst) hcd) hbind (locs hloc) (fun h₁ F => ?_) hco hgen hk hcell)
  exact h mean mg mb _ h₁ _ rfl (X.keeps st) (T.keeps st) ⟨F.ns, fun b o e => F.keep b o (of_hideAll _ e), Nat.le_trans (Nat.le_of_eq (hideAll_size _ _)) F.above⟩
    (fun p hp => by obtain rfl := List.mem_singleton.mp hp; exact ⟨F.keep _ _ hio, Nat.ne_of_lt (Heap.lt_size hio), hideAll_none _ (List.mem_singleton.mpr rfl)⟩)
end Mine
end
section
open PySem PySem.W PyProof.Rows PySem.Calls
set_option maxRecDepth 100000
namespace Mine
section
variable {prog : Program} {w : World} {A : Around} {E : Value → Shared → Prop} {env : Env} {h₀ : Heap} {Q : Flow → Shared → Prop}
noncomputable def EndM (s : Shared) (h₀ : Heap) (L : Addr) (own : Addr × Obj) (J : (Str → Option Value) → List (Addr × Obj) → Prop) (Q : Flow → Shared → Prop) (f : Flow) (s₃ : Shared) : Prop := match f with
  | .ret v => Q (.ret v) s₃
  | .brk => Q .next s₃
  | _ => ∃ h tk m news, s₃ = { s with heap := h, toks := tk } ∧ Fr h₀ L h m ∧ News h₀ L h (own :: news) ∧ (∀ p ∈ news, own.1 ≠ p.1) ∧ J m news
theorem loop_mine {x : Str} {px : Pos} {body orelse : List Stmt} {I : Addr} {fp : List Addr} {n : Nat} {P : Nat → Value → Prop} {St : Nat → Heap → Prop} (s : Shared) (W : Walks prog w A I fp [I] n P St) (hI : ∀ i h, St i h → ∃ o, h.get? I = some o)
    (need : List (Addr × Obj)) (hfp : ∀ b ∈ fp, b ≠ I → (∃ o, h₀.get? b = some o) ∨ ∃ o, (b, o) ∈ need) (J : Nat → (Str → Option Value) → List (Addr × Obj) → Prop) (hneed : ∀ i m news, J i m news → ∀ p ∈ need, p ∈ news)
    (hIL : I ≠ env.locals) (hnew : h₀.get? I = none) {m : Str → Option Value} {news : List (Addr × Obj)} {h : Heap} {tk : Tok} (hst : St 0 h) (F : Fr h₀ env.locals h m) (N : News h₀ env.locals h news) (hoff : ∀ p ∈ news, I ≠ p.1) (h0 : J 0 m news)
    (turn : ∀ i v oI m₁ news₁ h tk, i < n → P i v → J i m₁ news₁ → Fr h₀ env.locals h m₁ → News h₀ env.locals h ((I, oI) :: news₁) → (∀ p ∈ news₁, I ≠ p.1) →
      wpAny (model prog w) A (storeName env x v) (fun _ s₂ => wpAny (model prog w) A (execs body env) (EndM s h₀ env.locals (I, oI) (J (i + 1)) Q) (fun _ _ => False) s₂) (fun _ _ => False) { s with heap := h, toks := tk })
    (done : ∀ m₁ news₁ h tk, J n m₁ news₁ → Fr h₀ env.locals h m₁ → News h₀ env.locals h news₁ → wpAny (model prog w) A (execs orelse env) Q (fun _ _ => False) { s with heap := h, toks := tk }) :
    codeAny (model prog w) A (.forLoop (.Name x px) (.ref I) body orelse env) (fun r s' => match r with | .ok f => Q f s' | .error e => E e s') { s with heap := h, toks := tk } := by
  refine codeAny_forLoop (fun k s' => ∃ h' tk m' news' i, s' = { s with heap := h', toks := tk } ∧ St i h' ∧ Fr h₀ env.locals h' m' ∧ News h₀ env.locals h' news' ∧ (∀ p ∈ news', I ≠ p.1) ∧ J i m' news' ∧ i ≤ n ∧ k = n + 1 - i) ?_ (n + 1)
    ⟨h, tk, m, news, 0, rfl, hst, F, N, hoff, h0, Nat.zero_le _, rfl⟩
  rintro k s' ⟨h', tk, m', news', i, rfl, hst', F', N', hoff', hJ, hi, rfl⟩
  have next : ∀ h₁ : Heap, (∀ b o, b ∉ [I] → h'.get? b = some o → h₁.get? b = some o) → Fr h₀ env.locals h₁ m' ∧ News h₀ env.locals h₁ news' := fun h₁ hk₁ => by
    have nI : ∀ b, b ≠ I → b ∉ [I] := fun b hb hm => hb (List.mem_singleton.mp hm)
    refine ⟨⟨F'.ns.at' fun o e => hk₁ _ o (nI _ (Ne.symm hIL)) e, fun b o e => hk₁ b o (nI _ fun q => ?_) (F'.keep b o e), F'.above⟩, fun p hp => ⟨hk₁ _ _ (nI _ (Ne.symm (hoff' p hp))) (N' p hp).1, (N' p hp).2⟩⟩
    rw [q, hnew] at e
    cases e
  by_cases hlt : i < n
  · refine W.item i _ _ _ hlt hst' fun v h₁ tk₁ hP hst₁ hk₁ => ?_
    obtain ⟨F₁, N₁⟩ := next h₁ hk₁
    obtain ⟨oI, hoI⟩ := hI _ _ hst₁
    have N₁' : News h₀ env.locals h₁ ((I, oI) :: news') := fun p hp => by
      rcases List.mem_cons.mp hp with rfl | hp
      · exact ⟨hoI, hIL, hnew⟩
      · exact N₁ p hp
    refine wpAny_assign_Name (wpAny_mono (turn i v oI m' news' h₁ tk₁ hlt hP hJ F₁ N₁' hoff') (fun _ s₂ h₂ => wpAny_mono h₂ (fun f s₃ h₃ => ?_) fun _ _ e => e.elim) fun _ _ e => e.elim)
    have fin : (∃ h tk m news, s₃ = { s with heap := h, toks := tk } ∧ Fr h₀ env.locals h m ∧ News h₀ env.locals h ((I, oI) :: news) ∧ (∀ p ∈ news, I ≠ p.1) ∧ J (i + 1) m news) →
        ∃ k, k < n + 1 - i ∧ ∃ h' tk m' news' i, s₃ = { s with heap := h', toks := tk } ∧ St i h' ∧ Fr h₀ env.locals h' m' ∧ News h₀ env.locals h' news' ∧ (∀ p ∈ news', I ≠ p.1) ∧ J i m' news' ∧ i ≤ n ∧ k = n + 1 - i := by
      rintro ⟨h₃', tk₃, m₃, news₃, rfl, F₃, N₃, off₃, J₃⟩
      refine ⟨n + 1 - (i + 1), by omega, h₃', tk₃, m₃, news₃, i + 1, rfl, W.frame _ _ _ hst₁ fun b hb o e => ?_, F₃, fun p hp => N₃ p (List.mem_cons_of_mem _ hp), off₃, J₃, hlt, rfl⟩
      by_cases hbI : b = I
      · subst hbI
        rw [hoI] at e
        cases e
        exact (N₃ _ List.mem_cons_self).1
      · rcases hfp b hb hbI with ⟨o', ho'⟩ | ⟨o', ho'⟩
        · have := F₁.keep b o' ho'
          rw [e] at this
          cases this
          exact F₃.keep b o ho'
        · have := (N₁ _ (hneed _ _ _ hJ _ ho')).1
          rw [e] at this
          cases this
          exact (N₃ _ (List.mem_cons_of_mem _ (hneed _ _ _ J₃ _ ho'))).1
    cases f with
    | ret v => exact h₃
    | brk => exact h₃
    | cont => exact fin h₃
    | next => exact fin h₃
  · have hin : i = n := by omega
    subst hin
    refine W.done _ _ _ hst' fun h₁ tk₁ hk₁ => ?_
    obtain ⟨F₁, N₁⟩ := next h₁ hk₁
    exact wpAny_mono (done m' news' h₁ tk₁ hJ F₁ N₁) (fun _ _ e => e) fun _ _ e => e.elim
theorem For_mine {x : Str} {px pos : Pos} {iter : Expr} {body orelse : List Stmt} {s : Shared}
    (h : wpAny (model prog w) A (eval iter env) (fun xv s₁ => wpAny (model prog w) A (pyIter xv) (fun it s₂ => codeAny (model prog w) A (.forLoop (.Name x px) it body orelse env) (fun r s' => match r with | .ok f => Q f s' | .error e => cameBackBy (model prog w) A env E e s') s₂) E s₁) E s)
    (hs : ∀ x, foldedSetIterable iter env x = pure x := by intro _; rfl) : wpAny (model prog w) A (exec (.For (.Name x px) iter body orelse pos) env) Q E s := wpAny_For h hs
theorem range_mine {x : Str} {px : Pos} {body orelse : List Stmt} {r : Addr} {a b : Int} {t u v : Tok} {n : Nat} {s : Shared} {m : Str → Option Value} {news : List (Addr × Obj)} (J : Nat → (Str → Option Value) → List (Addr × Obj) → Prop)
    (hh : A.handled = none) (hr : IsRange s.heap r a b 1 t u v) (hsmall : Builtin.Range.small a b 1 = true) (hn : Builtin.Range.rangeSize a b 1 = (n : Int)) (F : Fr h₀ env.locals s.heap m) (N : News h₀ env.locals s.heap news) (h0 : J 0 m news)
    (turn : ∀ i t I oI m₁ news₁ h tk, i < n → J i m₁ news₁ → Fr h₀ env.locals h m₁ → News h₀ env.locals h ((I, oI) :: news₁) → (∀ p ∈ news₁, I ≠ p.1) →
      wpAny (model prog w) A (storeName env x (.int (a + (i : Int)) t)) (fun _ s₂ => wpAny (model prog w) A (execs body env) (EndM s h₀ env.locals (I, oI) (J (i + 1)) Q) (fun _ _ => False) s₂) (fun _ _ => False) { s with heap := h, toks := tk })
    (done : ∀ m₁ news₁ h tk, J n m₁ news₁ → Fr h₀ env.locals h m₁ → News h₀ env.locals h news₁ → wpAny (model prog w) A (execs orelse env) Q (fun _ _ => False) { s with heap := h, toks := tk }) :
    wpAny (model prog w) A (pyIter (.ref r)) (fun it s₂ => codeAny (model prog w) A (.forLoop (.Name x px) it body orelse env) (fun r s' => match r with | .ok f => Q f s' | .error e => cameBackBy (model prog w) A env E e s') s₂) E s := by
  refine wpAny_pyIter_range hr hsmall ?_
  have W := Walks.range (prog := prog) (w := w) hh s.heap.objs.size a 1 n
  refine loop_mine s W (fun i h st => ⟨_, st⟩) [] (fun b hb hbI => absurd (List.mem_singleton.mp hb) hbI) J (fun _ _ _ _ _ hp => nomatch hp) (fun e => absurd F.ns.lt (e ▸ Nat.lt_irrefl _)) (next_is_new F) (by show IsRangeIter _ _ _ _ _; rw [hn]; simpa using Heap.get?_push_size _ rfl) (F.push _) (fun p hp => ⟨Heap.get?_push_of_some _ (N p hp).1, (N p hp).2⟩)
    (fun p hp hI => absurd (Heap.lt_size (N p hp).1) (hI ▸ Nat.lt_irrefl _)) h0 (fun i v oI m₁ news₁ h tk hi hP hJ F₁ N₁ off => ?_) done
  obtain ⟨t', rfl⟩ := hP
  rw [Int.mul_one]
  exact turn i t' _ oI m₁ news₁ h tk hi hJ F₁ N₁ off
end
end Mine
end
section
open PySem PySem.W PyProof.Rows PySem.Calls PySem.Spec PyProof.V
set_option maxRecDepth 100000
namespace Mine
noncomputable def K39 : List (Int × Value) := (1, .str "OPTIMIZED" 297) :: (2, .str "NEWLOCALS" 299) :: (4, .str "VARARGS" 301) :: (8, .str "VARKEYWORDS" 303) :: (16, .str "NESTED" 305) :: (32, .str "GENERATOR" 307) :: (64, .str "NOFREE" 309) :: (128, .str "COROUTINE" 311) :: (256, .str "ITERABLE_COROUTINE" 313) :: (512, .str "ASYNC_GENERATOR" 315) :: []
noncomputable def D39 : List (PyData × PyData) := (.int 1, .str "OPTIMIZED") :: (.int 2, .str "NEWLOCALS") :: (.int 4, .str "VARARGS") :: (.int 8, .str "VARKEYWORDS") :: (.int 16, .str "NESTED") :: (.int 32, .str "GENERATOR") :: (.int 64, .str "NOFREE") :: (.int 128, .str "COROUTINE") :: (.int 256, .str "ITERABLE_COROUTINE") :: (.int 512, .str "ASYNC_GENERATOR") :: []
theorem flat39 : FlatPairs PyData.int K39 D39 := by
  unfold K39 D39
  repeat (first | exact .nil | refine .cons (Flat.str _ _) ?_)
theorem at39 {P : Params} {h : Heap} (x : (KF P).In h) : h.get? (nat_lit 39) = some (ob39 P) := x 39 _ (by kernel_rfl)
theorem tab39 {prog : Program} {w : World} {P : Params} {h : Heap} (x : (KF P).In h) : IntTab prog w h (nat_lit 39) D39 := by
  refine TabAt.ofObj (kvs := K39) (by decide +kernel) (at39 x) ?_ flat39
  refine ⟨_, _, ⟨rfl, rfl, rfl⟩, rfl, ?_, ?_, by decide +kernel⟩
  · intro e he
    have : ∀ e ∈ [(⟨1, .int 1 296, .str "OPTIMIZED" 297⟩ : DictEntry), ⟨2, .int 2 298, .str "NEWLOCALS" 299⟩, ⟨4, .int 4 300, .str "VARARGS" 301⟩, ⟨8, .int 8 302, .str "VARKEYWORDS" 303⟩, ⟨16, .int 16 304, .str "NESTED" 305⟩, ⟨32, .int 32 306, .str "GENERATOR" 307⟩, ⟨64, .int 64 308, .str "NOFREE" 309⟩, ⟨128, .int 128 310, .str "COROUTINE" 311⟩, ⟨256, .int 256 312, .str "ITERABLE_COROUTINE" 313⟩, ⟨512, .int 512 314, .str "ASYNC_GENERATOR" 315⟩], ∃ k, Value.isInt k e.key = true ∧ e.hash = hashInt k := by
      intro e he
      simp only [List.mem_cons, List.not_mem_nil, or_false] at he
      rcases he with rfl | rfl | rfl | rfl | rfl | rfl | rfl | rfl | rfl | rfl
      · exact ⟨1, by decide +kernel, by decide +kernel⟩
      · exact ⟨2, by decide +kernel, by decide +kernel⟩
      · exact ⟨4, by decide +kernel, by decide +kernel⟩
      · exact ⟨8, by decide +kernel, by decide +kernel⟩
      · exact ⟨16, by decide +kernel, by decide +kernel⟩
      · exact ⟨32, by decide +kernel, by decide +kernel⟩
      · exact ⟨64, by decide +kernel, by decide +kernel⟩
      · exact ⟨128, by decide +kernel, by decide +kernel⟩
      · exact ⟨256, by decide +kernel, by decide +kernel⟩
      · exact ⟨512, by decide +kernel, by decide +kernel⟩
    exact this e (by simpa using he)
  · refine .cons (by kernel_rfl) rfl (.cons (by kernel_rfl) rfl (.cons (by kernel_rfl) rfl (.cons (by kernel_rfl) rfl (.cons (by kernel_rfl) rfl (.cons (by kernel_rfl) rfl (.cons (by kernel_rfl) rfl (.cons (by kernel_rfl) rfl (.cons (by kernel_rfl) rfl (.cons (by kernel_rfl) rfl .nil)))))))))
noncomputable def name39 (k : Int) (d : Str) : Str := match Spec.lookup (.int k) D39 with | some (.str y) => y | _ => d
theorem name39_of {k : Int} {d : Str} {v : Value} (h : Flat v ((Spec.lookup (.int k) D39).getD (.str d))) : ∃ t, v = .str (name39 k d) t := by
  unfold name39
  have : Spec.lookup (.int k) D39 = none ∨ ∃ y, Spec.lookup (.int k) D39 = some (.str y) := by
    unfold D39
    simp only [Spec.lookup]
    repeat' split
    all_goals first | exact .inl rfl | exact .inr ⟨_, rfl⟩
  rcases this with e | ⟨y, e⟩ <;> rw [e] at h ⊢ <;> exact Flat.str_inv h
theorem call_get39 {prog : Program} {w : World} {P : Params} {A : Around} {E : Value → Shared → Prop} {s : Shared} {g : Heap} {L : Addr} {m : Str → Option Value} {k : Int} {tk u : Tok} {d : Str} {Q : Value → Shared → Prop} (F : Fr g L s.heap m) (x : (KF P).In g)
    (hQ : ∀ t, Q (.str (name39 k d) t) { s with toks := s.toks + 1 }) : wpAny (model prog w) A (call (.builtin "dict.get") [.ref (nat_lit 39), .int k tk, .str d u]) Q E s :=
  call_get2_intTab ((tab39 x).keep F.keep) (Flat.str _ _) fun v hv => by obtain ⟨t, rfl⟩ := name39_of hv; exact hQ t
theorem name39_is : ∀ i : Nat, i < 30 → name39 (1 * 2 ^ (0 + (i : Int)).toNat) (baseText "0x" 16 (1 * 2 ^ (0 + (i : Int)).toNat)) = flagOf (i : Int) := by decide +kernel
end Mine
end
section
open PySem PySem.W PyProof.Rows PySem.Calls PySem.Spec PyProof.V
set_option maxRecDepth 100000
namespace Mine
noncomputable def flagName (i : Nat) : Str := flagOf (i : Int)
noncomputable def namesTo (n i : Nat) : List Str := ((List.range i).filter fun k => n / 2 ^ k % 2 == 1).map flagName
noncomputable def prettyL (n : Nat) : List Str := if n = 0 then [Str.ofString "0x0"] else namesTo n 30
theorem ifs2 {α : Type} {m : Str → Option α} {a b : Str} {va vb : Option α} (ha : m a = va) (hb : m b = vb) : m = fun y => if y = a then va else if y = b then vb else m y := by
  funext y
  by_cases h1 : y = a
  · rw [if_pos h1, h1, ha]
  · rw [if_neg h1]
    by_cases h2 : y = b
    · rw [if_pos h2, h2, hb]
    · rw [if_neg h2]
theorem sh (i : Nat) : (1 : Int) * 2 ^ (0 + (i : Int)).toNat = 2 ^ i := by rw [Int.one_mul, Int.zero_add, Int.toNat_natCast]
theorem and_pow (q i : Nat) : Builtin.bitAnd ((q * 2 ^ i : Nat) : Int) (1 * 2 ^ (0 + (i : Int)).toNat) = ((q % 2 * 2 ^ i : Nat) : Int) := by
  rw [sh, kbt_bit]
  have e : ((q * 2 ^ i : Nat) : Int) / 2 ^ i % 2 = ((q % 2 : Nat) : Int) := by
    have : (2 : Int) ^ i = ((2 ^ i : Nat) : Int) := by push_cast; rfl
    rw [this]
    norm_cast
    rw [Nat.mul_div_cancel _ (Nat.two_pow_pos i)]
  rw [e]; push_cast; rfl
theorem half (n i : Nat) : n / 2 ^ (i + 1) = n / 2 ^ i / 2 := by rw [Nat.pow_succ, Nat.div_div_eq_div_mul]
theorem keep_pow (n i : Nat) (h : n / 2 ^ i % 2 = 0) : n / 2 ^ i * 2 ^ i = n / 2 ^ (i + 1) * 2 ^ (i + 1) := by
  rw [half, Nat.pow_succ, Nat.mul_comm (2 ^ i) 2, ← Nat.mul_assoc]
  congr 1
  omega
theorem xor_pow (n i : Nat) (h : n / 2 ^ i % 2 = 1) : Builtin.bitXor ((n / 2 ^ i * 2 ^ i : Nat) : Int) (1 * 2 ^ (0 + (i : Int)).toNat) = ((n / 2 ^ (i + 1) * 2 ^ (i + 1) : Nat) : Int) := by
  rw [bitXor_and, and_pow, h, sh]
  have e : n / 2 ^ i * 2 ^ i = n / 2 ^ (i + 1) * 2 ^ (i + 1) + 2 ^ i := by
    rw [half, Nat.pow_succ, Nat.mul_comm (2 ^ i) 2, ← Nat.mul_assoc, ← Nat.succ_mul]
    congr 1
    omega
  rw [e]; push_cast; omega
theorem bit_of_and {n i : Nat} (h : Builtin.bitAnd ((n / 2 ^ i * 2 ^ i : Nat) : Int) (1 * 2 ^ (0 + (i : Int)).toNat) ≠ 0) : n / 2 ^ i % 2 = 1 := by
  rw [and_pow] at h
  rcases Nat.mod_two_eq_zero_or_one (n / 2 ^ i) with e | e
  · rw [e] at h; simp at h
  · exact e
theorem nobit_of_and {n i : Nat} (h : Builtin.bitAnd ((n / 2 ^ i * 2 ^ i : Nat) : Int) (1 * 2 ^ (0 + (i : Int)).toNat) = 0) : n / 2 ^ i % 2 = 0 := by
  rw [and_pow] at h
  rcases Nat.mod_two_eq_zero_or_one (n / 2 ^ i) with e | e
  · exact e
  · rw [e] at h
    have := Nat.two_pow_pos i
    omega
theorem names_succ (n i : Nat) : namesTo n (i + 1) = namesTo n i ++ if n / 2 ^ i % 2 = 1 then [flagName i] else [] := by
  unfold namesTo
  rw [List.range_succ, List.filter_append, List.map_append]
  congr 1
  by_cases h : n / 2 ^ i % 2 = 1 <;> simp [h]
theorem names_same (n : Nat) : ∀ (d i : Nat), n < 2 ^ i → namesTo n (i + d) = namesTo n i
  | 0, i, h => rfl
  | d + 1, i, h => by
    rw [← Nat.add_assoc, names_succ, names_same n d i h]
    have : n / 2 ^ (i + d) = 0 := Nat.div_eq_of_lt (Nat.lt_of_lt_of_le h (Nat.pow_le_pow_right (by decide) (Nat.le_add_right _ _)))
    rw [this]; simp
theorem pretty_of {n i : Nat} (hi : i < 32) (hb : n / 2 ^ i % 2 = 1) (h0 : n / 2 ^ (i + 1) * 2 ^ (i + 1) = 0) (h1 : n < 1073741824) : namesTo n (i + 1) = prettyL n := by
  have hlt : n < 2 ^ (i + 1) := by
    rcases Nat.eq_zero_or_pos (n / 2 ^ (i + 1)) with e | e
    · exact (Nat.div_eq_zero_iff_lt (Nat.two_pow_pos _)).mp e
    · have := Nat.mul_pos e (Nat.two_pow_pos (i + 1)); omega
  have hn : n ≠ 0 := by rintro rfl; simp at hb
  unfold prettyL
  rw [if_neg hn]
  by_cases h : i + 1 ≤ 30
  · obtain ⟨d, hd⟩ := Nat.le.dest h
    rw [← hd, names_same n d _ hlt]
  · obtain ⟨d, hd⟩ := Nat.le.dest (show 30 ≤ i + 1 by omega)
    rw [← hd, names_same n d 30 (by simpa using h1)]
theorem flag_lens : ∀ i : Nat, i < 30 → (flagOf (i : Int)).length ≤ 20 := by decide +kernel
theorem names_weight (n : Nat) (h1 : n < 1073741824) : ((prettyL n).map (·.length)).sum + (prettyL n).length ≤ 1048576 := by
  unfold prettyL
  split
  · decide +kernel
  · have : ∀ l : List Nat, (∀ k ∈ l, k < 30) → ((l.map flagName).map (·.length)).sum ≤ 20 * l.length := by
      intro l
      induction l with
      | nil => intro _; simp
      | cons a l ih =>
        intro h
        have h1 := flag_lens a (h a List.mem_cons_self)
        have h2 := ih fun k hk => h k (List.mem_cons_of_mem _ hk)
        simp only [List.map_cons, List.sum_cons, List.length_cons]
        show (flagOf (a : Int)).length + _ ≤ _
        omega
    unfold namesTo
    have hl : ((List.range 30).filter fun k => n / 2 ^ k % 2 == 1).length ≤ 30 := by
      have := List.length_filter_le (fun k => n / 2 ^ k % 2 == 1) (List.range 30)
      rwa [List.length_range] at this
    have := this ((List.range 30).filter fun k => n / 2 ^ k % 2 == 1) (fun k hk => by simpa using (List.mem_filter.mp hk).1)
    rw [List.length_map]
    omega
theorem hex_fits : ∀ i : Nat, i < 32 → (baseText "0x" 16 (1 * 2 ^ (0 + (i : Int)).toNat)).length ≤ sizeLine := by decide +kernel
noncomputable def JP (D : Addr) (n i : Nat) (m : Str → Option Value) (news : List (Addr × Obj)) : Prop :=
  ∃ (m0 : Str → Option Value) (tF : Tok) (acc : Array Value) (c : Nat), m = (fun y => if y = Str.ofString "flags" then some (.int ((n / 2 ^ i * 2 ^ i : Nat) : Int) tF) else if y = Str.ofString "names" then some (.ref D) else m0 y) ∧ news = [(D, W.listOf acc c)] ∧ StrsAre acc.toList (namesTo n i) ∧ acc.size ≤ i ∧ (n = 0 ∨ 2 ^ i ≤ n)
theorem lt_of_bit {n i : Nat} (h1 : n < 1073741824) (hi : i < 32) (hb : n / 2 ^ i % 2 = 1) : i < 30 := by
  by_cases h : i < 30
  · exact h
  · have : n / 2 ^ i = 0 := Nat.div_eq_of_lt (Nat.lt_of_lt_of_le h1 (Nat.le_trans (by decide : 1073741824 ≤ 2 ^ 30) (Nat.pow_le_pow_right (by decide) (by omega))))
    rw [this] at hb; simp at hb
theorem pushed {n i : Nat} {acc : Array Value} {t : Tok} (h1 : n < 1073741824) (hi : i < 32) (hb : n / 2 ^ i % 2 = 1) (h : StrsAre acc.toList (namesTo n i)) :
    StrsAre (acc.push (.str (name39 (1 * 2 ^ (0 + (i : Int)).toNat) (baseText "0x" 16 (1 * 2 ^ (0 + (i : Int)).toNat))) t)).toList (namesTo n (i + 1)) := by
  rw [names_succ, if_pos hb, name39_is i (lt_of_bit h1 hi hb)]
  exact strsAre_push h _ _
section
local macro_rules | `(tactic| walk_at "exec For Name Call cons cons") => `(tactic| refine For_mine ?_)
local macro_rules | `(tactic| walk_at "call builtin:hex") => `(tactic| first | refine P.hex_of_int ?_ (hex_fits _ (by with_reducible assumption)) | refine P.hex_of_int ?_ (by decide +kernel))
local macro_rules | `(tactic| walk_at "call builtin:dict.get") => `(tactic| (refine call_get39 (by with_reducible assumption) (by with_reducible assumption) ?_; intro t39))
local macro_rules | `(tactic| walk_at "call builtin:str.join") => `(tactic| (refine join_listW (News.isList (by with_reducible assumption) (by k_mem)) (by with_reducible assumption) (by decide) (by with_reducible assumption) ?_; intro tJ kJ))
set_option maxHeartbeats 8000000 in
theorem pretty_spec (w : World) (n : Nat) (tk : Tok) (h1 : n < 1073741824) : PSpec w 46 [.int (n : Int) tk] (fun _ => True) (fun v _ => ∃ t, v = .str (Txt.join (Str.ofString ", ") (prettyL n)) t) := by
  unfold PSpec Amb
  k_fill
  intro dp un fr gd s Q E hA hpre hd hu hret
  refine enterP 6 45 (binds := [("flags", .int (n : Int) tk)]) hA hd rfl rfl rfl rfl rfl rfl rfl (by decide) ?_
  intro mean mg mb g h₁ L hg X T F N
  k_steps
  rename_i D hh l1 hb F0 N0 hc tkk t1 u1 v1 r1 F1 N1 k1
  refine range_mine (n := 32) (JP D n) rfl r1 (by decide) (by rfl) F1 N1 ?_ ?_ ?_
  · exact ⟨_, _, _, _, ifs2 (by simp; rfl) rfl, rfl, .nil, Nat.le_refl _, by omega⟩
  · rintro i t I oI _ _ h2 tk2 hi ⟨m0, tF, acc, c, rfl, rfl, hacc, hsz, hlow⟩ F2 N2 off
    have hs1 : acc.size ≤ sizeLine := by unfold sizeLine; omega
    have hs2 : acc.size + 1 ≤ sizeLine := by unfold sizeLine; omega
    have off1 : I ≠ D := off _ List.mem_cons_self
    k_steps
    · (with_reducible rename Builtin.bitAnd _ _ ≠ 0 => hbit)
      (with_reducible rename Builtin.bitXor _ _ ≠ 0 => hxor)
      have hb := bit_of_and hbit
      rw [xor_pow n i hb] at hxor
      (with_reducible rename Fr _ _ _ _ => kF)
      (with_reducible rename News _ _ _ _ => kN)
      refine ⟨_, _, _, _, rfl, kF, kN, fun p hp => (List.mem_singleton.mp hp) ▸ off1, ?_⟩
      refine ⟨_, _, _, _, ifs2 ((if_pos rfl).trans (congrArg (fun z => some (Value.int z _)) (xor_pow n i hb))) (by kernel_rfl), rfl, pushed h1 hi hb hacc, by rw [Array.size_push]; omega, ?_⟩
      right
      have : n / 2 ^ (i + 1) ≠ 0 := fun e => hxor (by rw [e]; simp)
      rcases Nat.lt_or_ge n (2 ^ (i + 1)) with q | q
      · exact absurd (Nat.div_eq_of_lt q) this
      · exact q
    · (with_reducible rename Builtin.bitAnd _ _ ≠ 0 => hbit)
      (with_reducible rename Builtin.bitXor _ _ = 0 => hxor)
      have hb := bit_of_and hbit
      rw [xor_pow n i hb] at hxor
      have hp := pretty_of hi hb (by exact_mod_cast hxor) h1
      have hacc' := fun t => pushed (t := t) h1 hi hb hacc
      rw [hp] at hacc'
      dsimp only [EndM]
      k_steps
      (with_reducible rename Fr _ _ _ _ => kF)
      (with_reducible rename News _ _ _ _ => kN)
      refine join_listW (News.isList kN (by k_mem)) (hacc' _) (by decide) (names_weight n h1) ?_
      intro tJ kJ
      exact hret _ _ _ (fun b o e => Fr.keep kF b o (hg ▸ e)) ⟨_, rfl⟩
    · (with_reducible rename Builtin.bitAnd _ _ = 0 => hbit)
      have hb := nobit_of_and hbit
      (with_reducible rename Fr _ _ _ _ => kF)
      (with_reducible rename News _ _ _ _ => kN)
      refine ⟨_, _, _, _, rfl, kF, kN, fun p hp => (List.mem_singleton.mp hp) ▸ off1, ?_⟩
      refine ⟨_, _, _, _, ifs2 (a := Str.ofString "flags") (b := Str.ofString "names") (va := some (Value.int _ tF)) ?_ (by kernel_rfl), rfl, by rw [names_succ, if_neg (by omega), List.append_nil]; exact hacc, by omega, ?_⟩
      · rw [← keep_pow n i hb]
        kernel_rfl
      · rcases hlow with e | e
        · exact .inl e
        · right
          have : 1 ≤ n / 2 ^ i := (Nat.le_div_iff_mul_le (Nat.two_pow_pos i)).mpr (by omega)
          have h2 : 2 ≤ n / 2 ^ i := by omega
          have := (Nat.le_div_iff_mul_le (Nat.two_pow_pos i)).mp h2
          rw [Nat.pow_succ]; omega
  · rintro _ _ h2 tk2 ⟨m0, tF, acc, c, rfl, rfl, hacc, hsz, hlow⟩ F2 N2
    have hn : n = 0 := by
      rcases hlow with e | e
      · exact e
      · exfalso; have : (2 : Nat) ^ 32 = 4294967296 := by decide
        omega
    subst hn
    have hs1 : acc.size ≤ sizeLine := by unfold sizeLine; omega
    have hs2 : acc.size + 1 ≤ sizeLine := by unfold sizeLine; omega
    k_steps
    (with_reducible rename Fr _ _ _ _ => kF)
    (with_reducible rename News _ _ _ _ => kN)
    have hz : namesTo 0 32 = [] := by decide +kernel
    rw [hz] at hacc
    refine join_listW (News.isList kN (by k_mem)) (strsAre_push hacc _ _) (by decide) (by decide +kernel) ?_
    intro tJ kJ
    exact hret _ _ _ (fun b o e => Fr.keep kF b o (hg ▸ e)) ⟨_, rfl⟩
end
end Mine
end
section
open PySem PySem.W PyProof.Rows PySem.Calls
set_option maxRecDepth 100000
namespace Mine
theorem bitOr_eq (x y : Int) : Builtin.bitOr x y = x + y - Builtin.bitAnd x y := by
  have h := bitXor_and x y
  unfold Builtin.bitXor at h
  omega
theorem and_low (v b : Int) (hv : 0 ≤ v) (hb : 0 ≤ b ∧ b < 64) : Builtin.bitAnd (v * 64) b = 0 := by
  have e : Builtin.bitAnd (v * 64) b = (((v * 64).toNat &&& b.toNat : Nat) : Int) := by
    unfold Builtin.bitAnd
    rw [decide_eq_true (show 0 ≤ v * 64 by omega), decide_eq_true hb.1]
  rw [e]
  have : (v * 64).toNat &&& b.toNat = 0 := by
    have e1 : (v * 64).toNat = v.toNat * 2 ^ 6 := by omega
    have e2 : b.toNat < 2 ^ 6 := by omega
    rw [e1]
    refine Nat.eq_of_testBit_eq fun i => ?_
    rw [Nat.testBit_and, Nat.zero_testBit]
    by_cases hi : i < 6
    · rw [Nat.testBit_mul_two_pow]
      simp; omega
    · rw [Nat.testBit_lt_two_pow (Nat.lt_of_lt_of_le e2 (Nat.pow_le_pow_right (by decide) (by omega))), Bool.and_false]
  rw [this]; rfl
theorem or6 {v b : Int} (hv : 0 ≤ v ∧ v < 1073741824) (hb : 0 ≤ b ∧ b < 64) : Builtin.bitOr (v * 64) b = v * 64 + b := by
  rw [bitOr_eq, and_low v b hv.1 hb]; omega
theorem a63 {a : Int} (h : 0 ≤ a ∧ a < 64) : Builtin.bitAnd (a + 64) 63 = a := by rw [bitAnd_m6]; omega
theorem b63 {a : Int} (h : 0 ≤ a ∧ a < 64) : Builtin.bitAnd a 63 = a := by rw [bitAnd_m6]; omega
theorem a64 {a : Int} (h : 0 ≤ a ∧ a < 64) : Builtin.bitAnd (a + 64) 64 = 64 := by
  rw [show (64 : Int) = 2 ^ 6 by decide, kbt_bit]
  omega
theorem b64 {a : Int} (h : 0 ≤ a ∧ a < 64) : Builtin.bitAnd a 64 = 0 := by
  rw [show (64 : Int) = 2 ^ 6 by decide, kbt_bit]
  omega
section
variable {prog : Program} {w : World} {A : Around} {E : Value → Shared → Prop} {s : Shared} {x y z : Int} {t u : Tok} {Q : Value → Shared → Prop}
theorem and_eq (e : Builtin.bitAnd x y = z) (h : Q (.int z s.toks) { s with toks := s.toks + 1 }) : wpAny (model prog w) A (binaryOp .BitAnd (.int x t) (.int y u)) Q E s := and_int (by rw [e]; exact h)
theorem ior_eq (e : Builtin.bitOr x y = z) (h : Q (.int z s.toks) { s with toks := s.toks + 1 }) : wpAny (model prog w) A (inplaceOp .BitOr (.int x t) (.int y u)) Q E s := ior_int (by rw [e]; exact h)
theorem shl6 (hx : 0 ≤ x ∧ x < 1073741824) (h : Q (.int (x * 64) s.toks) { s with toks := s.toks + 1 }) : wpAny (model prog w) A (inplaceOp .LShift (.int x t) (.int 6 u)) Q E s :=
  ilshift_int_small (by decide) (by decide) (by omega) h
end
section
local macro_rules | `(tactic| walk_at "exec While") => `(tactic| refine whl_start 100 ?_)
local macro_rules | `(tactic| walk_at "call builtin:next") => `(tactic| (refine' k_next ?F ?N ?U ?i ?a ?x ?_; (case F => with_reducible assumption); (case N => with_reducible assumption); (case U => k_updF); (case i => with_reducible assumption); (case a => with_reducible assumption); (case x => with_reducible assumption); intro h' o' F' N' hi'; (try dsimp only at N')))
local macro_rules | `(tactic| walk_at "binaryOp BitAnd int int") => `(tactic| first | refine and_eq (a63 (by with_reducible assumption)) ?_ | refine and_eq (a64 (by with_reducible assumption)) ?_ | refine and_eq (b63 (by with_reducible assumption)) ?_ | refine and_eq (b64 (by with_reducible assumption)) ?_)
local macro_rules | `(tactic| walk_at "inplaceOp BitOr int int") => `(tactic| refine ior_eq (or6 (by with_reducible assumption) (by with_reducible assumption)) ?_)
local macro_rules | `(tactic| walk_at "inplaceOp LShift int int") => `(tactic| refine shl6 (by with_reducible assumption) ?_)
set_option maxHeartbeats 8000000 in
theorem varint_spec (w : World) (it ax : Addr) (its : Array Value) (a b c d e : Int) (t0 t1 t2 t3 t4 : Tok) (ha : 0 ≤ a ∧ a < 64) (hb : 0 ≤ b ∧ b < 64) (hc : 0 ≤ c ∧ c < 64) (hdd : 0 ≤ d ∧ d < 64) (he : 0 ≤ e ∧ e < 64)
    (i0 : its[0]? = some (.int (a + 64) t0)) (i1 : its[1]? = some (.int (b + 64) t1)) (i2 : its[2]? = some (.int (c + 64) t2)) (i3 : its[3]? = some (.int (d + 64) t3)) (i4 : its[4]? = some (.int e t4)) :
    MSpec w 53 [.ref it] it (fun h => (∃ io, h.get? it = some io ∧ ListIt io ax 0) ∧ ax ≠ it ∧ h.IsList ax its) (fun v _ => ∃ t, v = .int ((((a * 64 + b) * 64 + c) * 64 + d) * 64 + e) t) := by
  unfold MSpec Amb
  k_fill
  intro dp un fr gd s h₀ Q E hA hst hit hpre hd hu hret
  obtain ⟨⟨io, hio, hi0⟩, hne, hl⟩ := hpre
  refine enterM 7 52 (binds := [("iterator", .ref it)]) hA hst hit hio hd rfl rfl rfl rfl rfl rfl rfl (by decide) ?_
  intro mean mg mb g h₁ L hg X T F N
  have hlg : g.IsList ax its := by
    rw [hg]; exact hl.at fun o e => hideAll_get _ e (fun q => hne (List.mem_singleton.mp q))
  clear hl
  have v1 : 0 ≤ a ∧ a < 1073741824 := by omega
  have v2 : 0 ≤ a * 64 + b ∧ a * 64 + b < 1073741824 := by omega
  have v3 : 0 ≤ (a * 64 + b) * 64 + c ∧ (a * 64 + b) * 64 + c < 1073741824 := by omega
  have v4 : 0 ≤ ((a * 64 + b) * 64 + c) * 64 + d ∧ ((a * 64 + b) * 64 + c) * 64 + d < 1073741824 := by omega
  k_steps
  (with_reducible rename Fr _ _ _ _ => kF)
  exact hret _ _ _ (fun b o hb e => Fr.keep kF b o (by rw [hg]; exact hideAll_get _ e (fun q => hb (List.mem_singleton.mp q)))) ⟨_, rfl⟩
end
end Mine
end
section
open PySem PySem.W PyProof.Rows PySem.Calls
set_option maxRecDepth 100000
namespace Mine
section
variable {prog : Program} {w : World} {A : Around} {E : Value → Shared → Prop} {env : Env} {h₀ : Heap} {Q : Flow → Shared → Prop}
theorem list_mine {x : Str} {px : Pos} {body orelse : List Stmt} {l : Addr} {vs : Array Value} {s : Shared} {m : Str → Option Value} {news : List (Addr × Obj)} (J : Nat → (Str → Option Value) → List (Addr × Obj) → Prop)
    (hh : A.handled = none) (hl : h₀.IsList l vs) (F : Fr h₀ env.locals s.heap m) (N : News h₀ env.locals s.heap news) (h0 : J 0 m news)
    (turn : ∀ i v I oI m₁ news₁ h tk, vs[i]? = some v → J i m₁ news₁ → Fr h₀ env.locals h m₁ → News h₀ env.locals h ((I, oI) :: news₁) → (∀ p ∈ news₁, I ≠ p.1) →
      wpAny (model prog w) A (storeName env x v) (fun _ s₂ => wpAny (model prog w) A (execs body env) (EndM s h₀ env.locals (I, oI) (J (i + 1)) Q) (fun _ _ => False) s₂) (fun _ _ => False) { s with heap := h, toks := tk })
    (done : ∀ m₁ news₁ h tk, J vs.size m₁ news₁ → Fr h₀ env.locals h m₁ → News h₀ env.locals h news₁ → wpAny (model prog w) A (execs orelse env) Q (fun _ _ => False) { s with heap := h, toks := tk }) :
    wpAny (model prog w) A (pyIter (.ref l)) (fun it s₂ => codeAny (model prog w) A (.forLoop (.Name x px) it body orelse env) (fun r s' => match r with | .ok f => Q f s' | .error e => cameBackBy (model prog w) A env E e s') s₂) E s := by
  have hls : s.heap.IsList l vs := hl.at fun o e => F.keep l o e
  obtain ⟨ol, hol, _⟩ := id hl
  have hlt : l < h₀.objs.size := Heap.lt_size hol
  have hne : l ≠ s.heap.objs.size := Nat.ne_of_lt (Nat.lt_trans (Nat.lt_of_lt_of_le hlt F.above) F.ns.lt)
  refine wpAny_pyIter_list hls ?_
  have W := Walks.list (prog := prog) (w := w) hh s.heap.objs.size l hne vs
  refine loop_mine s W (fun i h st => let ⟨o, ho, _⟩ := st.1; ⟨o, ho⟩) [] (fun b hb hbI => ?_) J (fun _ _ _ _ _ hp => nomatch hp) (fun e => absurd F.ns.lt (e ▸ Nat.lt_irrefl _)) (next_is_new F)
    ⟨⟨_, Heap.get?_push_size _ rfl, rfl, rfl⟩, hls.at fun o e => Heap.get?_push_of_some _ e⟩ (F.push _) (fun p hp => ⟨Heap.get?_push_of_some _ (N p hp).1, (N p hp).2⟩)
    (fun p hp hI => absurd (Heap.lt_size (N p hp).1) (hI ▸ Nat.lt_irrefl _)) h0 (fun i v oI m₁ news₁ h tk hi hP hJ F₁ N₁ off => turn i v _ oI m₁ news₁ h tk hP hJ F₁ N₁ off) done
  rcases List.mem_cons.mp hb with e | hb
  · exact absurd e hbI
  · exact .inl ⟨ol, (List.mem_singleton.mp hb) ▸ hol⟩
end
theorem ifs1 {α : Type} {m : Str → Option α} {a : Str} {va : Option α} (ha : m a = va) : m = fun y => if y = a then va else m y := by
  funext y
  by_cases h1 : y = a
  · rw [if_pos h1, h1, ha]
  · rw [if_neg h1]
noncomputable def popI (x : Int) : Int := (List.map (fun k' : Int => (x.fdiv (2 ^ k'.toNat)).fmod 2) (rangeKs 0 6)).sum
set_option maxHeartbeats 8000000 in
theorem bits_spec (w : World) (x : Int) (h0 : 0 ≤ x) (h1 : x < 64) (tk : Tok) : PSpec w 187 [.int x tk] (fun _ => True) (fun v _ => ∃ t, v = .int (popI x) t) := by
  unfold PSpec Amb
  k_fill
  intro dp un fr gd s Q E hA hpre hd hu hret
  refine enterC 29 186 (binds := [("mask", .int x tk)]) hA hd rfl rfl rfl (by intro y hy; cases hy with | head => exact .inr ⟨rfl, rfl⟩ | tail _ hy => cases hy) (by decide +kernel) rfl rfl rfl ?_
  intro mean mg mb g h₁ L tk' cells hg X T F N Y
  obtain ⟨o', hE', d1'⟩ := CellsAre.one Y
  subst hE'
  clear Y
  k_steps
  (with_reducible rename Fr _ _ _ _ => kF)
  exact hret _ _ _ (fun b o e => Fr.keep kF b o (hg ▸ e)) ⟨_, rfl⟩
end Mine
end
section
open PySem PySem.W PyProof.Rows PySem.Calls
set_option maxRecDepth 100000
namespace Mine
theorem ifs4 {α : Type} {m : Str → Option α} {a b c d : Str} {va vb vc vd : Option α} (ha : m a = va) (hb : m b = vb) (hc : m c = vc) (hd : m d = vd) : m = fun y => if y = a then va else if y = b then vb else if y = c then vc else if y = d then vd else m y := by
  funext y
  by_cases h1 : y = a
  · rw [if_pos h1, h1, ha]
  · rw [if_neg h1]
    by_cases h2 : y = b
    · rw [if_pos h2, h2, hb]
    · rw [if_neg h2]
      by_cases h3 : y = c
      · rw [if_pos h3, h3, hc]
      · rw [if_neg h3]
        by_cases h4 : y = d
        · rw [if_pos h4, h4, hd]
        · rw [if_neg h4]
noncomputable def PSpecD (w : World) (f : Addr) (vs : List Value) (pre : Heap → Prop) (post : Value → Heap → Prop) : Prop :=
  ∀ (dp un : Nat) (fr : Option (List Env)) (gd : Option (List Code)) (s : Shared) (Q E : Value → Shared → Prop),
    Amb w s.heap → pre s.heap → dp + 16 < recursionLimit → un + 96 < cLine →
    (∀ v h' tk', (∀ b o, s.heap.get? b = some o → h'.get? b = some o) → post v h' → Q v { s with heap := h', toks := tk' }) →
    wpAny (model PySem.Challenge.rw_sr0008_01.prog w) (AR dp un fr gd) (call (.ref f) vs) Q E s
theorem PSpecD.use {w : World} {f : Addr} {vs : List Value} {pre : Heap → Prop} {post : Value → Heap → Prop} (S : PSpecD w f vs pre post) {dp un : Nat} {fr : Option (List Env)} {gd : Option (List Code)} {s : Shared} {Q E : Value → Shared → Prop}
    {h₀ : Heap} {L : Addr} {m : Str → Option Value} {news : List (Addr × Obj)} {mean : ExcName → Option Value} {mg mb : Str → Option Value}
    (F : Fr h₀ L s.heap m) (X : (KF w.params).In h₀) (T : Top qv (looseW qv loose) mean mg mb h₀) (N : News h₀ L s.heap news) (hpre : pre s.heap) (hd : dp + 16 < recursionLimit) (hu : un + 96 < cLine)
    (h : ∀ v h' tk', Fr h₀ L h' m → News h₀ L h' news → (∀ b o, s.heap.get? b = some o → h'.get? b = some o) → post v h' → Q v { s with heap := h', toks := tk' }) :
    wpAny (model PySem.Challenge.rw_sr0008_01.prog w) (AR dp un fr gd) (call (.ref f) vs) Q E s :=
  S dp un fr gd s Q E ⟨X.keeps F.keep, _, _, _, T.keeps F.keep⟩ hpre hd hu fun v h' tk' hk hp => h v h' tk' (fr_of_keeps F hk) (N.grown hk) hk hp
theorem call_pretty {w : World} {n : Nat} {tk : Tok} {dp un : Nat} {fr : Option (List Env)} {gd : Option (List Code)} {env : Env} {s : Shared} {Q E : Value → Shared → Prop} {h₀ : Heap} {L : Addr} {m : Str → Option Value} {news : List (Addr × Obj)} {mean : ExcName → Option Value} {mg mb : Str → Option Value}
    (F : Fr h₀ L s.heap m) (X : (KF w.params).In h₀) (T : Top qv (looseW qv loose) mean mg mb h₀) (N : News h₀ L s.heap news) (hn : n < 1073741824) (hd : dp + 16 < recursionLimit) (hu : un + 96 < cLine)
    (h : ∀ t h' tk', Fr h₀ L h' m → News h₀ L h' news → Q (.str (Txt.join (Str.ofString ", ") (prettyL n)) t) { s with heap := h', toks := tk' }) :
    wpAny (model PySem.Challenge.rw_sr0008_01.prog w) ((AR dp un fr gd).deeper env) (call (.ref (nat_lit 46)) [.int (n : Int) tk]) Q E s :=
  PSpec.use (dp := dp + 1) (pretty_spec w n tk hn) F X T N trivial (by omega) (by show un + 3 + 64 < cLine; omega) fun v h' tk' F' N' _ hp => by obtain ⟨t, rfl⟩ := hp; exact h t h' tk' F' N'
noncomputable def metTo (ms : List Nat) (g : Nat) : Nat → Nat
  | 0 => 0
  | i + 1 => if g / 2 ^ i % 2 = 1 then metTo ms g i ||| ms.getD i 0 else metTo ms g i
noncomputable def manyTo (g : Nat) : Nat → Nat
  | 0 => 0
  | i + 1 => if g / 2 ^ i % 2 = 1 then manyTo g i + 1 else manyTo g i
noncomputable def wantTo (ms : List Nat) : Nat → Int
  | 0 => 0
  | k + 1 => max (wantTo ms k) ((manyTo (k + 1) 5 : Int) - (if metTo ms (k + 1) 5 = 0 then 0 else ((prettyL (metTo ms (k + 1) 5)).length : Int)))
theorem bitOr_nat : ∀ a : Nat, a < 64 → ∀ b : Nat, b < 64 → Builtin.bitOr (a : Int) (b : Int) = ((a ||| b : Nat) : Int) := by decide +kernel
theorem or_lt : ∀ a : Nat, a < 64 → ∀ b : Nat, b < 64 → a ||| b < 64 := by decide +kernel
theorem split_len : ∀ m : Nat, m < 64 → ((Txt.split (Txt.join (Str.ofString ", ") (prettyL m)) (Str.ofString ", ")).length = (prettyL m).length) ∧ ((Txt.join (Str.ofString ", ") (prettyL m) == Str.ofString "0x0") = decide (m = 0)) ∧ (Txt.join (Str.ofString ", ") (prettyL m)).length ≤ 200 := by decide +kernel
theorem bit_F (k i : Nat) : ((1 + (k : Int)).fdiv (2 ^ (0 + (i : Int)).toNat)).fmod 2 = (((k + 1) / 2 ^ i % 2 : Nat) : Int) := by
  have e : (0 + (i : Int)).toNat = i := by omega
  have e2 : (1 + (k : Int)) = ((k + 1 : Nat) : Int) := by omega
  have e3 : (2 : Int) ^ i = ((2 ^ i : Nat) : Int) := by push_cast; rfl
  rw [e, e2, e3, Int.fdiv_eq_ediv_of_nonneg _ (Int.natCast_nonneg _), Int.fmod_eq_emod_of_nonneg _ (by decide)]
  norm_cast
theorem getD_lt {ms : List Nat} (hb : ∀ m ∈ ms, m < 64) (i : Nat) : ms.getD i 0 < 64 := by
  rw [List.getD_eq_getElem?_getD]
  cases h : ms[i]? with
  | none => decide
  | some m => exact hb m (List.mem_of_getElem? h)
theorem getD_cast (ms : List Nat) (i : Nat) : (ms.map fun (m : Nat) => (m : Int)).getD (0 + (i : Int)).toNat 0 = ((ms.getD i 0 : Nat) : Int) := by
  rw [show (0 + (i : Int)).toNat = i by omega, List.getD_eq_getElem?_getD, List.getD_eq_getElem?_getD, List.getElem?_map]
  cases ms[i]? <;> rfl
theorem metTo_lt {ms : List Nat} (hb : ∀ m ∈ ms, m < 64) (g : Nat) : ∀ i, metTo ms g i < 64
  | 0 => by unfold metTo; decide
  | i + 1 => by
    unfold metTo
    split
    · exact or_lt _ (metTo_lt hb g i) _ (getD_lt hb i)
    · exact metTo_lt hb g i
theorem met_step {ms : List Nat} (hb : ∀ m ∈ ms, m < 64) {k i : Nat} (h : ((1 + (k : Int)).fdiv (2 ^ (0 + (i : Int)).toNat)).fmod 2 = 1) :
    Builtin.bitOr ((metTo ms (k + 1) i : Nat) : Int) ((ms.map fun (m : Nat) => (m : Int)).getD (0 + (i : Int)).toNat 0) = ((metTo ms (k + 1) (i + 1) : Nat) : Int) ∧ ((manyTo (k + 1) i : Nat) : Int) + 1 = ((manyTo (k + 1) (i + 1) : Nat) : Int) := by
  rw [bit_F] at h
  have h' : (k + 1) / 2 ^ i % 2 = 1 := by omega
  rw [getD_cast, bitOr_nat _ (metTo_lt hb _ _) _ (getD_lt hb i)]
  conv => rhs; rhs; rw [manyTo, if_pos h']
  conv => lhs; rhs; rw [metTo, if_pos h']
  exact ⟨rfl, by push_cast; rfl⟩
theorem met_stay {ms : List Nat} {k i : Nat} (h : ((1 + (k : Int)).fdiv (2 ^ (0 + (i : Int)).toNat)).fmod 2 ≠ 1) :
    metTo ms (k + 1) i = metTo ms (k + 1) (i + 1) ∧ manyTo (k + 1) i = manyTo (k + 1) (i + 1) := by
  rw [bit_F] at h
  have h' : ¬ (k + 1) / 2 ^ i % 2 = 1 := by omega
  constructor
  · conv => rhs; rw [metTo, if_neg h']
  · conv => rhs; rw [manyTo, if_neg h']
theorem want_a {ms : List Nat} {k : Nat} {l : List (Str × Tok)} (hm : metTo ms (k + 1) 5 < 64) (hn : (Txt.join (Str.ofString ", ") (prettyL (metTo ms (k + 1) 5)) != Str.ofString "0x0") = true) (hl : List.map (fun x => x.1) l = Txt.split (Txt.join (Str.ofString ", ") (prettyL (metTo ms (k + 1) 5))) (Str.ofString ", ")) :
    (if ((manyTo (k + 1) 5 : Nat) : Int) - (l.length : Int) > wantTo ms k then ((manyTo (k + 1) 5 : Nat) : Int) - (l.length : Int) else wantTo ms k) = wantTo ms (k + 1) := by
  have h1 := split_len _ hm
  have h2 := congrArg List.length hl
  rw [List.length_map, h1.1] at h2
  have h3 : ¬ metTo ms (k + 1) 5 = 0 := by
    intro e
    unfold bne at hn
    rw [h1.2.1, e] at hn
    exact absurd hn (by decide)
  rw [h2]
  conv => rhs; unfold wantTo
  rw [if_neg h3]
  split <;> omega
theorem want_b {ms : List Nat} {k : Nat} (hm : metTo ms (k + 1) 5 < 64) (hn : (Txt.join (Str.ofString ", ") (prettyL (metTo ms (k + 1) 5)) != Str.ofString "0x0") = false) :
    (if ((manyTo (k + 1) 5 : Nat) : Int) - 0 > wantTo ms k then ((manyTo (k + 1) 5 : Nat) : Int) - 0 else wantTo ms k) = wantTo ms (k + 1) := by
  have h1 := split_len _ hm
  have h3 : metTo ms (k + 1) 5 = 0 := by
    unfold bne at hn
    rw [h1.2.1] at hn
    simpa using hn
  conv => rhs; unfold wantTo
  rw [if_pos h3]
  split <;> omega
theorem ifs5 {α : Type} {m : Str → Option α} {a b c d e : Str} {va vb vc vd ve : Option α} (ha : m a = va) (hb : m b = vb) (hc : m c = vc) (hd : m d = vd) (he : m e = ve) : m = fun y => if y = a then va else if y = b then vb else if y = c then vc else if y = d then vd else if y = e then ve else m y := by
  funext y
  by_cases h1 : y = a
  · rw [if_pos h1, h1, ha]
  · rw [if_neg h1]
    by_cases h2 : y = b
    · rw [if_pos h2, h2, hb]
    · rw [if_neg h2]
      by_cases h3 : y = c
      · rw [if_pos h3, h3, hc]
      · rw [if_neg h3]
        by_cases h4 : y = d
        · rw [if_pos h4, h4, hd]
        · rw [if_neg h4]
          by_cases h5 : y = e
          · rw [if_pos h5, h5, he]
          · rw [if_neg h5]
noncomputable def JO (ms : List Nat) (l : Addr) (k : Nat) (m : Str → Option Value) (news : List (Addr × Obj)) : Prop :=
  ∃ (m0 : Str → Option Value) (tW : Tok), m = (fun y => if y = Str.ofString "want" then some (.int (wantTo ms k) tW) else if y = Str.ofString "masks" then some (.ref l) else m0 y) ∧ news = []
noncomputable def JW (ms : List Nat) (l : Addr) (k : Nat) (Iout : Addr) (oI : Obj) (tW : Tok) (tG : Tok) (i : Nat) (m : Str → Option Value) (news : List (Addr × Obj)) : Prop :=
  ∃ (m0 : Str → Option Value) (t1 t2 : Tok), m = (fun y => if y = Str.ofString "met" then some (.int ((metTo ms (k + 1) i : Nat) : Int) t1) else if y = Str.ofString "many" then some (.int ((manyTo (k + 1) i : Nat) : Int) t2) else if y = Str.ofString "want" then some (.int (wantTo ms k) tW) else if y = Str.ofString "group" then some (.int (1 + (k : Int)) tG) else if y = Str.ofString "masks" then some (.ref l) else m0 y) ∧ news = [(Iout, oI)]
section
local macro_rules | `(tactic| walk_at "call ref") => `(tactic| with_unfolding_all refine call_pretty (by with_reducible assumption) (by with_reducible assumption) (by with_reducible assumption) (by with_reducible assumption) (by with_reducible assumption) (by with_reducible assumption) (by with_reducible assumption) (fun t' h' tk' F' N' => ?_))
local macro_rules | `(tactic| walk_at "exec For Name Call cons nil") => `(tactic| with_unfolding_all refine For_mine ?_)
set_option maxHeartbeats 8000000 in
theorem want_spec (w : World) (l : Addr) (vs : List Value) (ms : List Nat) (hI : IntsAre vs (ms.map fun (m : Nat) => (m : Int))) (hlen : ms.length = 5) (hb : ∀ m ∈ ms, m < 64) : PSpecD w 199 [.ref l] (fun h => h.IsList l vs.toArray) (fun v _ => ∃ t, v = .int (wantTo ms 31) t) := by
  unfold PSpecD Amb
  k_fill
  intro dp un fr gd s Q E hA hpre hd hu hret
  refine enterP 31 198 (binds := [("masks", .ref l)]) hA (by omega) rfl rfl rfl rfl rfl rfl rfl (by decide) ?_
  intro mean mg mb g h₁ L hg X T F N
  have hpre2 : g.IsList l vs.toArray := hg ▸ hpre
  k_steps
  rename_i hh F0 N0 hc tkk t1 u1 v1 r1 F1 N1 k1
  refine range_mine (n := 31) (JO ms l) rfl r1 (by decide) (by rfl) F1 N1 ?_ ?_ ?_
  · exact ⟨_, _, ifs2 rfl (by kernel_rfl), rfl⟩
  · rintro k tG Iout oI _ _ h2 tk2 hk ⟨m0, tW, rfl, rfl⟩ F2 N2 off
    k_steps
    rename_i hp1 hp2 G0 M0 hd1 tkd t3 u3 v3 r3 G1 M1 k3
    refine range_mine (n := 5) (JW ms l k Iout oI tW tG) rfl r3 (by decide) (by rfl) G1 M1 ?_ ?_ ?_
    · exact ⟨_, _, _, ifs5 (by with_unfolding_all rfl) (by with_unfolding_all rfl) (by with_unfolding_all rfl) (by with_unfolding_all rfl) (by with_unfolding_all rfl), rfl⟩
    · rintro i tI I2 oI2 _ _ h4 tk4 hi ⟨m1, t4, t5, rfl, rfl⟩ F4 N4 off2
      k_steps
      · (with_reducible rename Int.fmod _ _ = 1 => hbit)
        (with_reducible rename Fr _ _ _ _ => kF)
        (with_reducible rename News _ _ _ _ => kN)
        rw [(met_step hb hbit).1, (met_step hb hbit).2] at kF
        exact ⟨_, _, _, _, rfl, kF, kN, off2, _, _, _, ifs5 (by with_unfolding_all rfl) (by with_unfolding_all rfl) (by with_unfolding_all rfl) (by with_unfolding_all rfl) (by with_unfolding_all rfl), rfl⟩
      · (with_reducible rename Int.fmod _ _ ≠ 1 => hbit)
        (with_reducible rename Fr _ _ _ _ => kF)
        (with_reducible rename News _ _ _ _ => kN)
        rw [(met_stay (ms := ms) hbit).1, (met_stay (ms := ms) hbit).2] at kF
        exact ⟨_, _, _, _, rfl, kF, kN, off2, _, _, _, ifs5 (by with_unfolding_all rfl) (by with_unfolding_all rfl) (by with_unfolding_all rfl) (by with_unfolding_all rfl) (by with_unfolding_all rfl), rfl⟩
    · rintro _ _ h4 tk4 ⟨m1, t4, t5, rfl, rfl⟩ F4 N4
      have hmet : metTo ms (k + 1) 5 < 64 := metTo_lt hb _ _
      have hmet2 : metTo ms (k + 1) 5 < 1073741824 := by omega
      have hjl := (split_len _ hmet).2.2
      k_steps
      · (with_reducible rename (_ != _) = true => hne)
        (with_reducible rename List.map _ _ = Txt.split _ _ => hls)
        (with_reducible rename Fr _ _ _ _ => kF)
        (with_reducible rename News _ _ _ _ => kN)
        rw [want_a hmet hne hls] at kF
        exact ⟨_, _, _, _, rfl, kF, fun p hp => kN p (List.mem_cons_of_mem _ hp), fun p hp => (nomatch hp), _, _, ifs2 (by with_unfolding_all rfl) (by with_unfolding_all rfl), rfl⟩
      · (with_reducible rename (_ != _) = false => hne)
        (with_reducible rename Fr _ _ _ _ => kF)
        (with_reducible rename News _ _ _ _ => kN)
        rw [want_b hmet hne] at kF
        exact ⟨_, _, _, _, rfl, kF, kN, fun p hp => (nomatch hp), _, _, ifs2 (by with_unfolding_all rfl) (by with_unfolding_all rfl), rfl⟩
  · rintro _ _ h2 tk2 ⟨m0, tW, rfl, rfl⟩ F2 N2
    k_steps
    (with_reducible rename Fr _ _ _ _ => kF)
    exact hret _ _ _ (fun b o e => Fr.keep kF b o (hg ▸ e)) ⟨_, rfl⟩
end
end Mine
end
section
open PySem PySem.W PyProof.Rows PySem.Calls
set_option maxRecDepth 100000
namespace Mine
noncomputable def sentAt (x : Str) (i : Nat) : Str :=
  if x.cps.getD i 0 = 46 ∧ (i = 0 ∨ x.cps.getD (i - 1) 0 = 13 ∨ x.cps.getD (i - 1) 0 = 10) then ⟨#[46, 46]⟩
  else if x.cps.getD i 0 = 10 ∧ 0 < i ∧ x.cps.getD (i - 1) 0 = 13 then ⟨#[]⟩
  else if x.cps.getD i 0 = 13 ∨ x.cps.getD i 0 = 10 then ⟨#[13, 10]⟩
  else ⟨#[x.cps.getD i 0]⟩
noncomputable def JT (x : Str) (tk : Tok) (D : Addr) (i : Nat) (m : Str → Option Value) (news : List (Addr × Obj)) : Prop :=
  ∃ (m0 : Str → Option Value) (acc : Array Value) (c : Nat), m = (fun y => if y = Str.ofString "told" then some (.ref D) else if y = Str.ofString "line" then some (.str x tk) else m0 y) ∧ news = [(D, W.listOf acc c)] ∧ StrsAre acc.toList ((List.range i).map (sentAt x)) ∧ acc.size = i
theorem ifs2' {α : Type} {m : Str → Option α} {a b : Str} {va vb : Option α} (ha : m a = va) (hb : m b = vb) : m = fun y => if y = a then va else if y = b then vb else m y := by
  funext y
  by_cases h1 : y = a
  · rw [if_pos h1, h1, ha]
  · rw [if_neg h1]
    by_cases h2 : y = b
    · rw [if_pos h2, h2, hb]
    · rw [if_neg h2]
theorem item_at {x : Str} {i : Nat} (hi : i < x.length) : Txt.item x (0 + (i : Int)) = ⟨#[x.cps.getD i 0]⟩ := by
  have hi' : i < x.cps.size := hi
  have e : seqIndex? (0 + (i : Int)) x.length = some i := by
    unfold seqIndex?
    simp
    omega
  unfold Txt.item Txt.charAt
  rw [e]
  show (⟨#[(x.cps[i]?).getD 0]⟩ : Str) = _
  rw [Array.getD_eq_getD_getElem?]
theorem item_pre {x : Str} {i : Nat} (hi : i < x.length) (h0 : 0 < 0 + (i : Int)) : Txt.item x (0 + (i : Int) - 1) = ⟨#[x.cps.getD (i - 1) 0]⟩ := by
  rw [show 0 + (i : Int) - 1 = 0 + ((i - 1 : Nat) : Int) by omega]
  exact item_at (by omega)
theorem eqDot (a : Nat) : ((⟨#[a]⟩ : Str) == Str.ofString ".") = decide (a = 46) := by
  rw [show Str.ofString "." = ⟨#[46]⟩ by decide +kernel]
  by_cases h : a = 46
  · subst h; decide
  · rw [decide_eq_false h]; exact beq_eq_false_iff_ne.mpr fun e => h (by injection e with e; simpa using e)
theorem eqNl (a : Nat) : ((⟨#[a]⟩ : Str) == Str.ofString "\n") = decide (a = 10) := by
  rw [show Str.ofString "\n" = ⟨#[10]⟩ by decide +kernel]
  by_cases h : a = 10
  · subst h; decide
  · rw [decide_eq_false h]; exact beq_eq_false_iff_ne.mpr fun e => h (by injection e with e; simpa using e)
theorem eqCr (a : Nat) : ((⟨#[a]⟩ : Str) == Str.ofString "\x0d") = decide (a = 13) := by
  rw [show Str.ofString "\x0d" = ⟨#[13]⟩ by decide +kernel]
  by_cases h : a = 13
  · subst h; decide
  · rw [decide_eq_false h]; exact beq_eq_false_iff_ne.mpr fun e => h (by injection e with e; simpa using e)
theorem anyCrlf (a : Nat) : ([Str.ofString "\x0d", Str.ofString "\n"].any fun y => y == (⟨#[a]⟩ : Str)) = decide (a = 13 ∨ a = 10) := by
  simp only [List.any_cons, List.any_nil, Bool.or_false]
  rw [show (Str.ofString "\x0d" == (⟨#[a]⟩ : Str)) = ((⟨#[a]⟩ : Str) == Str.ofString "\x0d") from Bool.eq_iff_iff.mpr ⟨fun h => by rw [eq_of_beq h]; exact beq_self_eq_true _, fun h => by rw [eq_of_beq h]; exact beq_self_eq_true _⟩, show (Str.ofString "\n" == (⟨#[a]⟩ : Str)) = ((⟨#[a]⟩ : Str) == Str.ofString "\n") from Bool.eq_iff_iff.mpr ⟨fun h => by rw [eq_of_beq h]; exact beq_self_eq_true _, fun h => by rw [eq_of_beq h]; exact beq_self_eq_true _⟩, eqCr, eqNl]
  simp
theorem JT_end {s : Shared} {Q : Flow → Shared → Prop} {g h : Heap} {L I D : Addr} {oI : Obj} {x V : Str} {tk tv : Tok} {i c : Nat} {acc : Array Value} {m' : Str → Option Value} {tk' : Tok} (F : Fr g L h m') (N : News g L h [(I, oI), (D, W.listOf (acc.push (.str V tv)) c)]) (off1 : I ≠ D) (hacc : StrsAre acc.toList ((List.range i).map (sentAt x))) (hsz : acc.size = i)
    (h1 : m' (Str.ofString "told") = some (.ref D)) (h2 : m' (Str.ofString "line") = some (.str x tk)) (e : sentAt x i = V) : EndM s g L (I, oI) (JT x tk D (i + 1)) Q .next { s with heap := h, toks := tk' } := by
  refine ⟨_, _, _, _, rfl, F, N, fun p hp => (List.mem_singleton.mp hp) ▸ off1, _, _, _, ifs2' h1 h2, rfl, ?_, by rw [Array.size_push, hsz]⟩
  rw [List.range_succ, List.map_append, List.map_cons, List.map_nil, e]
  exact strsAre_push hacc _ _
theorem lit1 : Str.ofString ".." = ⟨#[46, 46]⟩ := by decide +kernel
theorem lit2 : Str.ofString "" = ⟨#[]⟩ := by decide +kernel
theorem lit3 : Str.ofString "\x0d\n" = ⟨#[13, 10]⟩ := by decide +kernel
section
variable {x : Str} {i : Nat} (hi : i < x.length)
include hi
theorem se1 (h0 : 0 < 0 + (i : Int)) (A : (Txt.item x (0 + (i : Int)) == Str.ofString ".") = true) (B : ([Str.ofString "\x0d", Str.ofString "\n"].any fun y => y == Txt.item x (0 + (i : Int) - 1)) = true) : sentAt x i = Str.ofString ".." := by
  rw [item_at hi, eqDot] at A
  rw [item_pre hi h0, anyCrlf] at B
  unfold sentAt
  rw [if_pos ⟨of_decide_eq_true A, .inr (of_decide_eq_true B)⟩, lit1]
theorem se2 (h0 : ¬ 0 < 0 + (i : Int)) (A : (Txt.item x (0 + (i : Int)) == Str.ofString ".") = true) : sentAt x i = Str.ofString ".." := by
  rw [item_at hi, eqDot] at A
  have e : i = 0 := by omega
  unfold sentAt
  rw [if_pos ⟨of_decide_eq_true A, .inl e⟩, lit1]
theorem se3 (h0 : 0 < 0 + (i : Int)) (C : (Txt.item x (0 + (i : Int)) == Str.ofString "\n") = true) (D : (Txt.item x (0 + (i : Int) - 1) == Str.ofString "\x0d") = true) : sentAt x i = Str.ofString "" := by
  rw [item_at hi, eqNl] at C
  rw [item_pre hi h0, eqCr] at D
  have C := of_decide_eq_true C
  have hp : 0 < i := by omega
  unfold sentAt
  rw [if_neg (fun h => by rw [C] at h; exact absurd h.1 (by decide)), if_pos ⟨C, hp, of_decide_eq_true D⟩, lit2]
theorem se4 (C : ¬ (x.cps.getD i 0 = 10 ∧ 0 < i ∧ x.cps.getD (i - 1) 0 = 13)) (E : ([Str.ofString "\x0d", Str.ofString "\n"].any fun y => y == Txt.item x (0 + (i : Int))) = true) : sentAt x i = Str.ofString "\x0d\n" := by
  rw [item_at hi, anyCrlf] at E
  have E := of_decide_eq_true E
  unfold sentAt
  rw [if_neg (fun h => by rw [h.1] at E; exact absurd E (by decide)), if_neg C, if_pos E, lit3]
theorem se4a (C : (Txt.item x (0 + (i : Int)) == Str.ofString "\n") = false) (E : ([Str.ofString "\x0d", Str.ofString "\n"].any fun y => y == Txt.item x (0 + (i : Int))) = true) : sentAt x i = Str.ofString "\x0d\n" := by
  rw [item_at hi, eqNl] at C
  exact se4 hi (fun h => of_decide_eq_false C h.1) E
theorem se4b (h0 : 0 < 0 + (i : Int)) (D : (Txt.item x (0 + (i : Int) - 1) == Str.ofString "\x0d") = false) (E : ([Str.ofString "\x0d", Str.ofString "\n"].any fun y => y == Txt.item x (0 + (i : Int))) = true) : sentAt x i = Str.ofString "\x0d\n" := by
  rw [item_pre hi h0, eqCr] at D
  exact se4 hi (fun h => of_decide_eq_false D h.2.2) E
theorem se4c (h0 : ¬ 0 < 0 + (i : Int)) (E : ([Str.ofString "\x0d", Str.ofString "\n"].any fun y => y == Txt.item x (0 + (i : Int))) = true) : sentAt x i = Str.ofString "\x0d\n" :=
  se4 hi (fun h => h0 (by omega)) E
theorem se5 (A : ¬ (x.cps.getD i 0 = 46 ∧ (i = 0 ∨ x.cps.getD (i - 1) 0 = 13 ∨ x.cps.getD (i - 1) 0 = 10))) (E : ([Str.ofString "\x0d", Str.ofString "\n"].any fun y => y == Txt.item x (0 + (i : Int))) = false) : sentAt x i = Txt.item x (0 + (i : Int)) := by
  rw [item_at hi, anyCrlf] at E
  have E := of_decide_eq_false E
  rw [item_at hi]
  unfold sentAt
  rw [if_neg A, if_neg (fun h => E (.inr h.1)), if_neg E]
theorem se5a (A : (Txt.item x (0 + (i : Int)) == Str.ofString ".") = false) (E : ([Str.ofString "\x0d", Str.ofString "\n"].any fun y => y == Txt.item x (0 + (i : Int))) = false) : sentAt x i = Txt.item x (0 + (i : Int)) := by
  rw [item_at hi, eqDot] at A
  exact se5 hi (fun h => of_decide_eq_false A h.1) E
theorem se5b (h0 : 0 < 0 + (i : Int)) (B : ([Str.ofString "\x0d", Str.ofString "\n"].any fun y => y == Txt.item x (0 + (i : Int) - 1)) = false) (E : ([Str.ofString "\x0d", Str.ofString "\n"].any fun y => y == Txt.item x (0 + (i : Int))) = false) : sentAt x i = Txt.item x (0 + (i : Int)) := by
  rw [item_pre hi h0, anyCrlf] at B
  exact se5 hi (fun h => h.2.elim (fun e => by omega) (of_decide_eq_false B)) E
end
section
local macro_rules | `(tactic| walk_at "exec For Name Call cons nil") => `(tactic| with_unfolding_all refine For_mine ?_)
set_option maxHeartbeats 8000000 in
theorem sent_spec (w : World) (h0 : Heap) (x : Str) (hx : x.length ≤ 100) (tkx : Tok) : PSpec w 175 [.str x tkx] (fun h => h = h0) (fun v h => ∃ l vs n, v = .ref l ∧ h.get? l = some { cls := .type "list", data := .seq (List.toArray vs) n } ∧ StrsAre vs ((List.range x.length).map (sentAt x)) ∧ h0.get? l = none) := by
  unfold PSpec Amb
  k_fill
  intro dp un fr gd s Q E hA hpre hd hu hret
  refine enterP 27 174 (binds := [("line", .str x tkx)]) hA hd rfl rfl rfl rfl rfl rfl rfl (by decide) ?_
  intro mean mg mb g h₁ L hg X T F N
  k_steps
  rename_i D h2 l1 h3 F0 N0 h4 tk4 t1 u1 v1 r1 F1 N1 k1
  refine range_mine (n := x.length) (JT x tkx D) rfl r1 (small_one (by omega) (by omega) (by omega) (by omega)) (by rw [rangeSize_nat]; omega) F1 N1 ?_ ?_ ?_
  · exact ⟨_, _, _, ifs2' rfl (by kernel_rfl), rfl, .nil, rfl⟩
  · rintro i tI I oI _ _ h5 tk5 hi ⟨m0, acc, c, rfl, rfl, hacc, hsz⟩ F5 N5 off
    have off1 : I ≠ D := off _ List.mem_cons_self
    have hs1 : acc.size ≤ sizeLine := by unfold sizeLine; omega
    have hs2 : acc.size + 1 ≤ sizeLine := by unfold sizeLine; omega
    have hit := item_at hi
    k_steps
    all_goals (with_reducible rename Fr _ _ _ _ => kF)
    all_goals (with_reducible rename News _ _ _ _ => kN)
    all_goals (first | refine JT_end kF kN off1 hacc hsz (by kernel_rfl) (by kernel_rfl) ?_ | refine JT_end kF (fun p hp => kN p (List.mem_cons_of_mem _ hp)) off1 hacc hsz (by kernel_rfl) (by kernel_rfl) ?_ | refine JT_end kF (fun p hp => kN p (List.mem_cons_of_mem _ (List.mem_cons_of_mem _ hp))) off1 hacc hsz (by kernel_rfl) (by kernel_rfl) ?_)
    all_goals (first | exact se1 hi (by with_reducible assumption) (by with_reducible assumption) (by with_reducible assumption) | exact se2 hi (by with_reducible assumption) (by with_reducible assumption) | exact se3 hi (by with_reducible assumption) (by with_reducible assumption) (by with_reducible assumption) | exact se4a hi (by with_reducible assumption) (by with_reducible assumption) | exact se4b hi (by with_reducible assumption) (by with_reducible assumption) (by with_reducible assumption) | exact se4c hi (by with_reducible assumption) (by with_reducible assumption) | exact se5a hi (by with_reducible assumption) (by with_reducible assumption) | exact se5b hi (by with_reducible assumption) (by with_reducible assumption) (by with_reducible assumption))
  · rintro _ _ h5 tk5 ⟨m0, acc, c, rfl, rfl, hacc, hsz⟩ F5 N5
    k_steps
    (with_reducible rename Fr _ _ _ _ => kF)
    (with_reducible rename News _ _ _ _ => kN)
    exact hret _ _ _ (fun b o e => Fr.keep kF b o (hg ▸ e)) ⟨_, acc.toList, _, rfl, (kN _ (.head _)).1, hacc, by rw [← hpre, ← hg]; exact (kN _ (.head _)).2.2⟩
end
end Mine
end
section
local macro_rules | `(tactic| walk_at "zz idle") => `(tactic| skip)
open PySem PySem.W PyProof.Rows PySem.Calls
set_option maxRecDepth 100000
namespace Mine
local macro_rules | `(tactic| walk_at "call builtin:len") => `(tactic| ((with_reducible show wpAny _ _ (call (Value.builtin "len") [Value.ref _]) _ _ _); refine len_N (by assumption) (by k_mem) (by rw [strsAre_len (by with_reducible assumption)]; refine Nat.le_trans (by (with_reducible rename List.map _ _ = Txt.splitMax _ _ _ => he); rw [he]; exact splitMax_len _ _) (by decide)) ?_))
set_option maxHeartbeats 8000000 in
theorem decode_new (w : World) (h0 : Heap) (x : Str) (hx : x.length ≤ 100) (tk : Tok) : PSpec w 38 [.str x tk] (fun h => h = h0)
   (fun v h => (2 < (Txt.splitMax x ⟨#[39]⟩ 2).length ∧ ∃ l vs n, v = .ref l ∧ h.get? l = some { cls := .type "list", data := .seq (List.toArray vs) n } ∧ StrsAre vs (Txt.splitMax x ⟨#[39]⟩ 2) ∧ h0.get? l = none) ∨ ((Txt.splitMax x ⟨#[39]⟩ 2).length ≤ 2 ∧ ∃ l, v = .ref l ∧ h.get? l = some { cls := .type "tuple", data := .seq #[.none, .none, .str x tk] } ∧ h0.get? l = none)) := by
  unfold PSpec Amb
  k_fill
  intro dp un fr gd s Q E hA hpre hd hu hret
  refine enterP 3 37 (binds := [("s", .str x tk)]) hA hd rfl rfl rfl rfl rfl rfl rfl (by decide) ?_
  intro mean mg mb g h₁ L hg X T F N
  k_steps
  all_goals (refine hret _ _ _ (fun b o e => Fr.keep (by assumption) b o (hg ▸ e)) ?_)
  all_goals (clear hret; dsimp only)
  all_goals (with_reducible rename List.map _ _ = Txt.splitMax _ _ _ => he)
  all_goals (with_reducible rename StrsAre _ _ => hs)
  all_goals (with_reducible rename News _ _ _ _ => hN)
  all_goals (rw [tick_is] at he; have hl := strsAre_len hs; rw [he] at hl hs)
  · right
    refine ⟨by omega, _, rfl, (hN _ (.head _)).1, by rw [← hpre, ← hg]; exact (hN _ (.head _)).2.2⟩
  · left
    exact ⟨by omega, _, _, _, rfl, (hN _ (.head _)).1, hs, by rw [← hpre, ← hg]; exact (hN _ (.head _)).2.2⟩
end Mine
end
section
open PySem
set_option maxRecDepth 100000
namespace Mine
noncomputable def pop (m : Nat) : Nat := m % 2 + m / 2 % 2 + m / 4 % 2 + m / 8 % 2 + m / 16 % 2 + m / 32 % 2
noncomputable def Used (ms : List Nat) : Nat → Nat → Prop
  | 0, m => m = 0
  | j + 1, m => Used ms j m ∨ ∃ m' k, Used ms j m' ∧ k < 6 ∧ ms.getD j 0 / 2 ^ k % 2 = 1 ∧ m' / 2 ^ k % 2 = 0 ∧ m = m' + 2 ^ k
theorem pop_or_and : ∀ x : Nat, x < 64 → ∀ y : Nat, y < 64 → pop (x ||| y) + pop (x &&& y) = pop x + pop y := by decide +kernel
theorem pop_mono : ∀ x : Nat, x < 64 → ∀ y : Nat, y < 64 → pop x ≤ pop (x ||| y) := by decide +kernel
theorem pop_and_mono : ∀ x : Nat, x < 64 → ∀ y : Nat, y < 64 → pop (x &&& y) ≤ pop x := by decide +kernel
theorem add_bit : ∀ m : Nat, m < 64 → ∀ k : Nat, k < 6 → m / 2 ^ k % 2 = 0 → m + 2 ^ k < 64 ∧ pop (m + 2 ^ k) = pop m + 1 := by decide +kernel
theorem del_bit : ∀ A : Nat, A < 64 → ∀ k : Nat, k < 6 → A / 2 ^ k % 2 = 1 → A - 2 ^ k < 64 ∧ (A - 2 ^ k) / 2 ^ k % 2 = 0 := by decide +kernel
theorem sub_bit : ∀ k : Nat, k < 6 → ∀ m : Nat, m < 64 → m / 2 ^ k % 2 = 0 → ∀ A : Nat, A < 64 → ((m + 2 ^ k) &&& A = m + 2 ^ k ↔ (A / 2 ^ k % 2 = 1 ∧ m &&& (A - 2 ^ k) = m)) := by decide +kernel
theorem cut_bit : ∀ k : Nat, k < 6 → ∀ A : Nat, A < 64 → A / 2 ^ k % 2 = 1 → ∀ N : Nat, N < 64 → pop (N &&& A) = pop (N &&& (A - 2 ^ k)) + N / 2 ^ k % 2 := by decide +kernel
set_option synthInstance.maxSize 1000 in
theorem sub_up1 : ∀ k : Nat, k < 6 → ∀ A : Nat, A < 64 → ∀ m : Nat, m < 64 → (!(A / 2 ^ k % 2 == 1 && m &&& (A - 2 ^ k) == m) || (m &&& A == m && m / 2 ^ k % 2 == 0)) = true := by decide +kernel
theorem sub_up {k A m : Nat} (hk : k < 6) (hA : A < 64) (hb : A / 2 ^ k % 2 = 1) (hm : m < 64) (h : m &&& (A - 2 ^ k) = m) : m &&& A = m ∧ m / 2 ^ k % 2 = 0 := by
  have := sub_up1 k hk A hA m hm
  simpa [hb, h] using this
theorem used_lt {ms : List Nat} : ∀ {j m : Nat}, Used ms j m → m < 64
  | 0, m, h => by rw [show m = 0 from h]; decide
  | j + 1, m, .inl h => used_lt h
  | j + 1, m, .inr ⟨m', k, h, hk, _, hb, e⟩ => e ▸ (add_bit m' (used_lt h) k hk hb).1
theorem met_congr {ms : List Nat} {g h : Nat} : ∀ {j : Nat}, (∀ i, i < j → g / 2 ^ i % 2 = h / 2 ^ i % 2) → metTo ms g j = metTo ms h j ∧ manyTo g j = manyTo h j
  | 0, _ => ⟨rfl, rfl⟩
  | j + 1, e => by
    have ih := met_congr (ms := ms) (j := j) fun i hi => e i (by omega)
    unfold metTo manyTo
    rw [e j (by omega), ih.1, ih.2]
    exact ⟨rfl, rfl⟩
theorem bit_iff (x i : Nat) : x / 2 ^ i % 2 = if x.testBit i then 1 else 0 := by
  rw [Nat.testBit_eq_decide_div_mod_eq]
  by_cases h : x / 2 ^ i % 2 = 1
  · simp [h]
  · simp [h]; omega
theorem on_bit (ms : List Nat) (g j : Nat) : metTo ms (g ||| 2 ^ j) (j + 1) = metTo ms g j ||| ms.getD j 0 ∧ manyTo (g ||| 2 ^ j) (j + 1) = manyTo g j + 1 := by
  have e := met_congr (ms := ms) (g := g ||| 2 ^ j) (h := g) (j := j) fun i hi => by
    rw [bit_iff, bit_iff, Nat.testBit_or, Nat.testBit_two_pow_of_ne (by omega)]; simp
  have hb : (g ||| 2 ^ j) / 2 ^ j % 2 = 1 := by rw [bit_iff, Nat.testBit_or, Nat.testBit_two_pow_self]; simp
  rw [metTo, manyTo, if_pos hb, if_pos hb, e.1, e.2]
  exact ⟨rfl, rfl⟩
theorem off_bit (ms : List Nat) (g j : Nat) : metTo ms (g % 2 ^ j) (j + 1) = metTo ms g j ∧ manyTo (g % 2 ^ j) (j + 1) = manyTo g j := by
  have e := met_congr (ms := ms) (g := g % 2 ^ j) (h := g) (j := j) fun i hi => by
    rw [bit_iff, bit_iff, Nat.testBit_mod_two_pow]; simp [hi]
  have hb : ¬ (g % 2 ^ j) / 2 ^ j % 2 = 1 := by rw [Nat.div_eq_of_lt (Nat.mod_lt _ (Nat.two_pow_pos j))]; decide
  rw [metTo, manyTo, if_neg hb, if_neg hb, e.1, e.2]
  exact ⟨rfl, rfl⟩
theorem join_groups {ms : List Nat} (hb : ∀ m ∈ ms, m < 64) (g h : Nat) : ∀ j, metTo ms (g ||| h) j = (metTo ms g j ||| metTo ms h j) ∧ manyTo (g ||| h) j + manyTo (g &&& h) j = manyTo g j + manyTo h j ∧ (metTo ms (g &&& h) j ||| (metTo ms g j &&& metTo ms h j)) = (metTo ms g j &&& metTo ms h j)
  | 0 => by unfold metTo manyTo; decide
  | j + 1 => by
    obtain ⟨h1, h2, h3⟩ := join_groups hb g h j
    have e1 : (g ||| h) / 2 ^ j % 2 = if g.testBit j || h.testBit j then 1 else 0 := by rw [bit_iff, Nat.testBit_or]
    have e2 : (g &&& h) / 2 ^ j % 2 = if g.testBit j && h.testBit j then 1 else 0 := by rw [bit_iff, Nat.testBit_and]
    unfold metTo manyTo
    rw [e1, e2, bit_iff g j, bit_iff h j, h1]
    have bits : ∀ x y z : Nat, (x ||| (y &&& z)) = (y &&& z) ↔ ∀ i, x.testBit i = true → (y.testBit i = true ∧ z.testBit i = true) := by
      intro x y z
      constructor
      · intro e i hx
        have := congrArg (fun n => n.testBit i) e
        simp only [Nat.testBit_or, Nat.testBit_and, hx, Bool.true_or] at this
        simpa using this.symm
      · intro e
        refine Nat.eq_of_testBit_eq fun i => ?_
        rw [Nat.testBit_or, Nat.testBit_and]
        cases hx : x.testBit i with
        | false => simp
        | true => obtain ⟨a, b⟩ := e i hx; simp [a, b]
    rw [bits] at h3
    cases g.testBit j <;> cases h.testBit j <;> simp only [Bool.or_false, Bool.or_true, Bool.and_false, Bool.and_true, Bool.false_eq_true, if_true, if_false, Bool.true_or, Bool.false_or, Nat.zero_ne_one, bits] <;> refine ⟨?_, by omega, fun i hx => ?_⟩
    all_goals first
      | trivial
      | rfl
      | (refine Nat.eq_of_testBit_eq fun i => ?_; simp only [Nat.testBit_or]; cases (metTo ms g j).testBit i <;> cases (metTo ms h j).testBit i <;> cases (ms.getD j 0).testBit i <;> rfl)
      | (have := h3 i hx; simp only [Nat.testBit_or, this.1, this.2, Bool.true_or]; exact ⟨trivial, trivial⟩)
      | (simp only [Nat.testBit_or, Bool.or_eq_true] at hx ⊢; rcases hx with hx | hx; exact ⟨.inl (h3 i hx).1, .inl (h3 i hx).2⟩; exact ⟨.inr hx, .inr hx⟩)
      | skip
theorem or_cover : ∀ N : Nat, N < 64 → ∀ M : Nat, M < 64 → ∀ A : Nat, A < 64 → (∀ k, k < 6 → M / 2 ^ k % 2 = 1 → A / 2 ^ k % 2 = 1 → N / 2 ^ k % 2 = 1) → (N ||| M) &&& A = N &&& A := by
  intro N hN M hM A hA h
  refine Nat.eq_of_testBit_eq fun i => ?_
  rw [Nat.testBit_and, Nat.testBit_and, Nat.testBit_or]
  by_cases hi : i < 6
  · have := h i hi
    rw [bit_iff, bit_iff, bit_iff] at this
    revert this
    cases N.testBit i <;> cases M.testBit i <;> cases A.testBit i <;> simp
  · have : M.testBit i = false := Nat.testBit_lt_two_pow (Nat.lt_of_lt_of_le hM (Nat.le_trans (by decide : 64 ≤ 2 ^ 6) (Nat.pow_le_pow_right (by decide) (by omega))))
    rw [this, Bool.or_false]
theorem bit_or1 {N M k : Nat} (h : M / 2 ^ k % 2 = 1) : (N ||| M) / 2 ^ k % 2 = 1 := by
  rw [bit_iff] at h ⊢
  rw [Nat.testBit_or]
  cases hM : M.testBit k
  · rw [hM] at h; simp at h
  · simp
theorem and_lt (x A : Nat) (hA : A < 64) : x &&& A < 64 := Nat.lt_of_le_of_lt Nat.and_le_right hA
theorem or_and (N M A : Nat) : (N ||| M) &&& A = (N &&& A) ||| (M &&& A) := by
  refine Nat.eq_of_testBit_eq fun i => ?_
  simp only [Nat.testBit_and, Nat.testBit_or]
  cases N.testBit i <;> cases M.testBit i <;> cases A.testBit i <;> rfl
theorem and_and (N M A : Nat) : (N &&& M) &&& A = (N &&& A) &&& (M &&& A) := by
  refine Nat.eq_of_testBit_eq fun i => ?_
  simp only [Nat.testBit_and]
  cases N.testBit i <;> cases M.testBit i <;> cases A.testBit i <;> rfl
theorem ore {ms : List Nat} (hb : ∀ m ∈ ms, m < 64) : ∀ j A, A < 64 →
    (∀ m, Used ms j m → m &&& A = m → ∀ g, pop m + manyTo g j ≤ pop (metTo ms g j &&& A) + j) ∧
    ∃ m g, Used ms j m ∧ m &&& A = m ∧ pop m + manyTo g j = pop (metTo ms g j &&& A) + j
  | 0, A, hA => by
    refine ⟨fun m hm _ g => ?_, 0, 0, rfl, by simp, ?_⟩
    · rw [show m = 0 from hm]; exact Nat.zero_le _
    · unfold metTo manyTo; simp
  | j + 1, A, hA => by
    have hM : ms.getD j 0 < 64 := getD_lt hb j
    have hN : ∀ g i, metTo ms g i < 64 := fun g i => metTo_lt hb g i
    have mono : ∀ N, N < 64 → pop (N &&& A) ≤ pop ((N ||| ms.getD j 0) &&& A) := fun N hN' => by
      rw [or_and]; exact pop_mono _ (and_lt _ _ hA) _ (and_lt _ _ hA)
    obtain ⟨U, m0, g0, hm0, hs0, ht0⟩ := ore hb j A hA
    constructor
    · intro m hm hs g
      have step : manyTo g (j + 1) = manyTo g j ∧ metTo ms g (j + 1) = metTo ms g j ∨ manyTo g (j + 1) = manyTo g j + 1 ∧ metTo ms g (j + 1) = metTo ms g j ||| ms.getD j 0 := by
        rw [manyTo, metTo]
        split
        · exact .inr ⟨rfl, rfl⟩
        · exact .inl ⟨rfl, rfl⟩
      rcases hm with hm | ⟨m', k, hm', hk, hkM, hkm, rfl⟩
      · have := U m hm hs g
        have := mono _ (hN g j)
        rcases step with ⟨e1, e2⟩ | ⟨e1, e2⟩ <;> rw [e1, e2] <;> omega
      · have hlt := used_lt hm'
        obtain ⟨hkA, hs'⟩ := (sub_bit k hk m' hlt hkm A hA).mp hs
        have hA' := (del_bit A hA k hk hkA).1
        have := (ore hb j (A - 2 ^ k) hA').1 m' hm' hs' g
        have p1 := (add_bit m' hlt k hk hkm).2
        have p2 := cut_bit k hk A hA hkA (metTo ms g j) (hN g j)
        have p3 := cut_bit k hk A hA hkA (metTo ms g j ||| ms.getD j 0) (or_lt _ (hN g j) _ hM)
        rw [bit_or1 hkM] at p3
        have p4 : pop (metTo ms g j &&& (A - 2 ^ k)) ≤ pop ((metTo ms g j ||| ms.getD j 0) &&& (A - 2 ^ k)) := by
          rw [or_and]; exact pop_mono _ (and_lt _ _ hA') _ (and_lt _ _ hA')
        rcases step with ⟨e1, e2⟩ | ⟨e1, e2⟩ <;> rw [e1, e2] <;> omega
    · by_cases hc : ∃ k, k < 6 ∧ ms.getD j 0 / 2 ^ k % 2 = 1 ∧ A / 2 ^ k % 2 = 1 ∧ ∃ m1, Used ms j m1 ∧ m1 &&& (A - 2 ^ k) = m1 ∧ pop m0 ≤ pop m1
      · obtain ⟨k, hk, hkM, hkA, m1, hm1, hs1, hp1⟩ := hc
        have hlt := used_lt hm1
        obtain ⟨hsA, hbit⟩ := sub_up hk hA hkA hlt hs1
        have p1 := U m1 hm1 hsA g0
        have p2 := (add_bit m1 hlt k hk hbit).2
        obtain ⟨o1, o2⟩ := off_bit ms g0 j
        refine ⟨m1 + 2 ^ k, g0 % 2 ^ j, .inr ⟨m1, k, hm1, hk, hkM, hbit, rfl⟩, (sub_bit k hk m1 hlt hbit A hA).mpr ⟨hkA, hs1⟩, ?_⟩
        rw [o1, o2]; omega
      · have tight : ∀ k, k < 6 → ms.getD j 0 / 2 ^ k % 2 = 1 → A / 2 ^ k % 2 = 1 → ∃ g, pop m0 + manyTo g j = pop (metTo ms g j &&& A) + j ∧ metTo ms g j / 2 ^ k % 2 = 1 := by
          intro k hk hkM hkA
          have hA' := (del_bit A hA k hk hkA).1
          obtain ⟨_, m1, g1, hm1, hs1, ht1⟩ := ore hb j (A - 2 ^ k) hA'
          have hnot : ¬ pop m0 ≤ pop m1 := fun q => hc ⟨k, hk, hkM, hkA, m1, hm1, hs1, q⟩
          have p1 := U m0 hm0 hs0 g1
          have p2 := cut_bit k hk A hA hkA (metTo ms g1 j) (hN g1 j)
          refine ⟨g1, ?_, ?_⟩ <;> omega
        have all : ∀ K, K ≤ 6 → ∃ g, pop m0 + manyTo g j = pop (metTo ms g j &&& A) + j ∧ ∀ k, k < K → ms.getD j 0 / 2 ^ k % 2 = 1 → A / 2 ^ k % 2 = 1 → metTo ms g j / 2 ^ k % 2 = 1 := by
          intro K
          induction K with
          | zero => intro _; exact ⟨g0, ht0, fun k hk => absurd hk (Nat.not_lt_zero _)⟩
          | succ K ih =>
            intro hK
            obtain ⟨g, hg1, hg2⟩ := ih (by omega)
            by_cases hq : ms.getD j 0 / 2 ^ K % 2 = 1 ∧ A / 2 ^ K % 2 = 1
            · obtain ⟨h, hh1, hh2⟩ := tight K (by omega) hq.1 hq.2
              obtain ⟨j1, j2, j3⟩ := join_groups hb g h j
              refine ⟨g ||| h, ?_, ?_⟩
              · have p1 := U m0 hm0 hs0 (g ||| h)
                have p2 := U m0 hm0 hs0 (g &&& h)
                have p3 : pop (metTo ms (g &&& h) j &&& A) ≤ pop ((metTo ms g j &&& metTo ms h j) &&& A) := by
                  rw [← j3, or_and]; exact pop_mono _ (and_lt _ _ hA) _ (and_lt _ _ hA)
                have p4 := pop_or_and (metTo ms g j &&& A) (and_lt _ _ hA) (metTo ms h j &&& A) (and_lt _ _ hA)
                rw [← or_and, ← and_and, ← j1] at p4
                omega
              · intro k hk hkM hkA
                rw [j1]
                rcases Nat.lt_or_ge k K with q | q
                · rw [Nat.or_comm]; exact bit_or1 (hg2 k q hkM hkA)
                · rw [show k = K by omega]; exact bit_or1 hh2
            · refine ⟨g, hg1, fun k hk hkM hkA => ?_⟩
              rcases Nat.lt_or_ge k K with q | q
              · exact hg2 k q hkM hkA
              · rw [show k = K by omega] at hkM hkA; exact absurd ⟨hkM, hkA⟩ hq
        obtain ⟨g, hg1, hg2⟩ := all 6 (Nat.le_refl _)
        obtain ⟨o1, o2⟩ := on_bit ms g j
        refine ⟨m0, g ||| 2 ^ j, .inl hm0, hs0, ?_⟩
        rw [o1, o2, or_cover _ (hN g j) _ hM _ hA hg2]
        omega
end Mine
end
section
open PySem
set_option maxRecDepth 100000
namespace Mine
theorem pretty_len : ∀ m : Nat, m < 64 → (if m = 0 then (0 : Int) else ((prettyL m).length : Int)) = (pop m : Int) := by decide +kernel
theorem full : ∀ m : Nat, m < 64 → m &&& 63 = m := by decide +kernel
theorem want_ge {ms : List Nat} (hb : ∀ m ∈ ms, m < 64) : ∀ K k, k ≤ K → (manyTo k 5 : Int) - (pop (metTo ms k 5) : Int) ≤ wantTo ms K
  | 0, k, h => by
    rw [show k = 0 by omega]
    have e1 : manyTo 0 5 = 0 := by decide
    rw [e1]; unfold wantTo; omega
  | K + 1, k, h => by
    unfold wantTo
    rw [pretty_len _ (metTo_lt hb _ _)]
    rcases Nat.lt_or_ge k (K + 1) with q | q
    · have := want_ge hb K k (by omega); omega
    · rw [show k = K + 1 by omega]; omega
theorem met_zero (ms : List Nat) : ∀ j, metTo ms 0 j = 0 ∧ manyTo 0 j = 0
  | 0 => ⟨rfl, rfl⟩
  | j + 1 => by
    rw [metTo, manyTo, if_neg (by simp), if_neg (by simp)]
    exact met_zero ms j
theorem want_at {ms : List Nat} (hb : ∀ m ∈ ms, m < 64) : ∀ K, ∃ k, k ≤ K ∧ wantTo ms K = (manyTo k 5 : Int) - (pop (metTo ms k 5) : Int)
  | 0 => ⟨0, Nat.le_refl _, by rw [(met_zero ms 5).1, (met_zero ms 5).2]; unfold wantTo; decide⟩
  | K + 1 => by
    obtain ⟨k, hk, e⟩ := want_at hb K
    unfold wantTo
    rw [pretty_len _ (metTo_lt hb _ _)]
    by_cases q : wantTo ms K ≤ (manyTo (K + 1) 5 : Int) - (pop (metTo ms (K + 1) 5) : Int)
    · exact ⟨K + 1, Nat.le_refl _, by omega⟩
    · exact ⟨k, by omega, by omega⟩
theorem served_want {ms : List Nat} (hb : ∀ m ∈ ms, m < 64) (best : Nat) (h1 : ∃ m, Used ms 5 m ∧ pop m = best) (h2 : ∀ m, Used ms 5 m → pop m ≤ best) : (best : Int) = 5 - wantTo ms 31 := by
  obtain ⟨U, m0, g0, hm0, hs0, ht0⟩ := ore hb 5 63 (by decide)
  rw [full _ (metTo_lt hb _ _)] at ht0
  obtain ⟨m, hm, rfl⟩ := h1
  obtain ⟨k, hk, e⟩ := want_at hb 31
  have p1 := U m hm (full _ (used_lt hm)) k
  rw [full _ (metTo_lt hb _ _)] at p1
  have p2 := h2 m0 hm0
  have c := met_congr (ms := ms) (g := g0) (h := g0 % 2 ^ 5) (j := 5) fun i hi => by
    rw [bit_iff, bit_iff, Nat.testBit_mod_two_pow]; simp [hi]
  have p3 := want_ge hb 31 (g0 % 2 ^ 5) (by have := Nat.mod_lt g0 (show 2 ^ 5 > 0 by decide); omega)
  rw [← c.1, ← c.2] at p3
  omega
end Mine
end
section
open PySem PySem.W PyProof.Rows PySem.Calls
set_option maxRecDepth 100000
namespace Mine
noncomputable def Rising (xs : Array Nat) : Prop := ∀ a b, a < b → b < xs.size → xs.getD a 0 < xs.getD b 0
noncomputable def Cut (xs : Array Nat) (j i : Nat) : Prop := i ≤ xs.size ∧ (∀ a, a < i → xs.getD a 0 < j) ∧ ∀ a, i ≤ a → a < xs.size → j ≤ xs.getD a 0
theorem go_cut {xs : Array Nat} (hr : Rising xs) (j : Nat) : ∀ fuel lo hi, hi - lo ≤ fuel → lo ≤ hi → hi ≤ xs.size → (∀ a, a < lo → xs.getD a 0 < j) → (∀ a, hi ≤ a → a < xs.size → j ≤ xs.getD a 0) → Cut xs j (SetTable.below.go xs j fuel lo hi)
  | 0, lo, hi, h1, h2, h3, h4, h5 => by
    have : lo = hi := by omega
    subst this
    exact ⟨h3, h4, h5⟩
  | fuel + 1, lo, hi, h1, h2, h3, h4, h5 => by
    unfold SetTable.below.go
    by_cases hlt : lo < hi
    · rw [if_pos hlt]
      dsimp only
      have hm : (lo + hi) / 2 < xs.size := by omega
      have e : xs.getD ((lo + hi) / 2) j = xs.getD ((lo + hi) / 2) 0 := by
        rw [Array.getD_eq_getD_getElem?, Array.getD_eq_getD_getElem?, Array.getElem?_eq_getElem hm]; rfl
      rw [e]
      by_cases hj : xs.getD ((lo + hi) / 2) 0 < j
      · rw [if_pos hj]
        refine go_cut hr j fuel _ _ (by omega) (by omega) h3 (fun a ha => ?_) h5
        rcases Nat.lt_or_ge a ((lo + hi) / 2) with q | q
        · exact Nat.lt_trans (hr a _ q hm) hj
        · rw [show a = (lo + hi) / 2 by omega]; exact hj
      · rw [if_neg hj]
        refine go_cut hr j fuel _ _ (by omega) (by omega) (by omega) h4 (fun a ha hs => ?_)
        rcases Nat.lt_or_ge ((lo + hi) / 2) a with q | q
        · have := hr _ a q hs; omega
        · rw [show a = (lo + hi) / 2 by omega]; omega
    · rw [if_neg hlt]
      have : lo = hi := by omega
      subst this
      exact ⟨h3, h4, h5⟩
theorem below_cut {xs : Array Nat} (hr : Rising xs) (j : Nat) : Cut xs j (SetTable.below xs j) :=
  go_cut hr j _ _ _ (Nat.le_refl _) (Nat.zero_le _) (Nat.le_refl _) (fun a h => absurd h (Nat.not_lt_zero _)) (fun a h1 h2 => by omega)
theorem erase_perm {α : Type} {l : List α} {i : Nat} (h : i < l.length) : ([l[i]] ++ l.eraseIdx i).Perm l := by
  rw [List.eraseIdx_eq_take_drop_succ]
  have e : l = l.take i ++ l[i] :: l.drop (i + 1) := by
    rw [← List.drop_eq_getElem_cons h, List.take_append_drop]
  have p : (l[i] :: (l.take i ++ l.drop (i + 1))).Perm (l.take i ++ l[i] :: l.drop (i + 1)) := List.perm_middle.symm
  rw [← e] at p
  exact p
theorem pick_go {α : Type} (next : Nat → Nat) : ∀ (fuel k : Nat) (left : List α) (out : Array α), left.length ≤ fuel → (pickOrder.go next fuel k left out).toList.Perm (out.toList ++ left)
  | 0, k, left, out, h => by
    have : left = [] := List.length_eq_zero_iff.mp (by omega)
    subst this
    unfold pickOrder.go
    simp
  | fuel + 1, k, [], out, h => by
    unfold pickOrder.go
    simp
  | fuel + 1, k, x :: l, out, h => by
    unfold pickOrder.go
    have hlt : next k % (x :: l).length < (x :: l).length := Nat.mod_lt _ (by simp)
    rw [List.getElem?_eq_getElem hlt]
    dsimp only
    refine (pick_go next fuel (k + 1) _ _ ?_).trans ?_
    · rw [List.length_eraseIdx, if_pos hlt]; simp only [List.length_cons] at h ⊢; omega
    · rw [Array.toList_push, List.append_assoc]
      refine List.Perm.append_left _ ?_
      exact erase_perm hlt
theorem pick_perm {α : Type} (next : Nat → Nat) (xs : Array α) : (pickOrder next xs).toList.Perm xs.toList := by
  unfold pickOrder
  have := pick_go next xs.size 0 xs.toList #[] (by simp)
  simpa using this
end Mine
end
section
open PySem PySem.W PyProof.Rows PySem.Calls
set_option maxRecDepth 100000
namespace Mine
theorem si_next : Slot "set_iterator" "__next__" "set_iterator.__next__" :=
  .of (owner := "set_iterator") (n := "__next__") (by rw [typeLookup_type, builtinLookup_eq_fast]; kernel_rfl) (by decide +kernel) (by decide +kernel) (by decide +kernel)
    (by first | exact .inl (by decide +kernel) | exact .inr (by decide +kernel)) (by rw [isSubtype_type]; kernel_rfl)
theorem si_entry : entryFor table "set_iterator.__next__" = some Builtin.«set_iterator.__next__» := entryFor_of_tree (by kernel_rfl)
theorem s_iter_entry : entryFor table "set.__iter__" = some Builtin.«frozenset.__iter__» := entryFor_alias (id' := "frozenset.__iter__") (by kernel_rfl) (by decide +kernel) (by decide +kernel) (by kernel_rfl)
theorem si_args (a : Value) : argsOk "set_iterator.__next__" ⟨[a], []⟩ := by unfold argsOk; kernel_rfl
end Mine
end
section
open PySem PySem.W PyProof.Rows PySem.Calls
set_option maxRecDepth 100000
namespace Mine
theorem rising_range (n : Nat) : Rising (Array.range n) := by
  intro a b hab hb
  rw [Array.size_range] at hb
  rw [Array.getD_eq_getD_getElem?, Array.getD_eq_getD_getElem?, Array.getElem?_eq_getElem (by rw [Array.size_range]; omega), Array.getElem?_eq_getElem (by rw [Array.size_range]; omega)]
  simp
  exact hab
theorem rising_list {l : List Nat} (h : l.Pairwise (· < ·)) : Rising l.toArray := by
  intro a b hab hb
  rw [List.size_toArray] at hb
  rw [Array.getD_eq_getD_getElem?, Array.getD_eq_getD_getElem?]
  simp only [List.getElem?_toArray]
  rw [List.getElem?_eq_getElem (by omega), List.getElem?_eq_getElem hb]
  exact List.pairwise_iff_getElem.mp h a b (by omega) hb hab
theorem rising_toList {xs : Array Nat} (h : Rising xs) : xs.toList.Pairwise (· < ·) := by
  refine List.pairwise_iff_getElem.mpr fun i j hi hj hij => ?_
  rw [Array.length_toList] at hi hj
  have := h i j hij hj
  rw [Array.getD_eq_getD_getElem?, Array.getD_eq_getD_getElem?, Array.getElem?_eq_getElem hi, Array.getElem?_eq_getElem hj] at this
  simpa using this
theorem insert_toList {α : Type} (xs : Array α) (p : Nat) (x : α) (hp : p ≤ xs.size) : (SetTable.insertAt xs p x).toList = xs.toList.take p ++ x :: xs.toList.drop p := by
  unfold SetTable.insertAt
  simp [List.extract_eq_take_drop, List.take_of_length_le]
theorem rising_insert {xs : Array Nat} (h : Rising xs) {j : Nat} (hj : j ∉ xs.toList) : Rising (SetTable.insertAt xs (SetTable.below xs j) j) := by
  obtain ⟨c1, c2, c3⟩ := below_cut h j
  have e := insert_toList xs (SetTable.below xs j) j c1
  have hp := rising_toList h
  have gd : ∀ a, a < xs.size → ∃ y, xs.toList[a]? = some y ∧ xs.getD a 0 = y := fun a ha => ⟨xs[a], by simp [ha], by rw [Array.getD_eq_getD_getElem?, Array.getElem?_eq_getElem ha]; rfl⟩
  have : (SetTable.insertAt xs (SetTable.below xs j) j) = (xs.toList.take (SetTable.below xs j) ++ j :: xs.toList.drop (SetTable.below xs j)).toArray := by rw [← e]
  rw [this]
  refine rising_list (List.pairwise_append.mpr ⟨hp.sublist (List.take_sublist _ _), List.pairwise_cons.mpr ⟨fun y hy => ?_, hp.sublist (List.drop_sublist _ _)⟩, fun x hx y hy => ?_⟩)
  · obtain ⟨i, hi, rfl⟩ := List.mem_iff_getElem.mp hy
    rw [List.length_drop, Array.length_toList] at hi
    rw [List.getElem_drop]
    have q := c3 (SetTable.below xs j + i) (by omega) (by omega)
    obtain ⟨z, hz, hz2⟩ := gd (SetTable.below xs j + i) (by omega)
    rw [List.getElem?_eq_getElem (by rw [Array.length_toList]; omega)] at hz
    rw [Option.some.inj hz]
    rw [hz2] at q
    have : z ∈ xs.toList := Option.some.inj hz ▸ List.getElem_mem _
    exact Nat.lt_of_le_of_ne q fun e => hj (e ▸ this)
  · have hlt : x < j := by
      obtain ⟨i, hi, rfl⟩ := List.mem_iff_getElem.mp hx
      rw [List.length_take, Array.length_toList] at hi
      rw [List.getElem_take]
      have q := c2 i (by omega)
      obtain ⟨z, hz, hz2⟩ := gd i (by omega)
      rw [List.getElem?_eq_getElem (by rw [Array.length_toList]; omega)] at hz
      rw [Option.some.inj hz, ← hz2]
      exact q
    rcases List.mem_cons.mp hy with rfl | hy
    · exact hlt
    · refine Nat.lt_trans hlt ?_
      obtain ⟨i, hi, rfl⟩ := List.mem_iff_getElem.mp hy
      rw [List.length_drop, Array.length_toList] at hi
      rw [List.getElem_drop]
      have q := c3 (SetTable.below xs j + i) (by omega) (by omega)
      obtain ⟨z, hz, hz2⟩ := gd (SetTable.below xs j + i) (by omega)
      rw [List.getElem?_eq_getElem (by rw [Array.length_toList]; omega)] at hz
      rw [Option.some.inj hz]
      rw [hz2] at q
      have : z ∈ xs.toList := Option.some.inj hz ▸ List.getElem_mem _
      exact Nat.lt_of_le_of_ne q fun e => hj (e ▸ this)
end Mine
end
section
open PySem PySem.W PyProof.Rows PySem.Calls
set_option maxRecDepth 100000
namespace Mine
theorem no_dummy {t : SetTable} (hd : t.dummies = #[]) (j : Nat) : t.slot j ≠ .dummy := by
  unfold SetTable.slot
  dsimp only
  split
  · intro e; cases e
  · rw [hd]
    have : SetTable.has #[] j = false := by unfold SetTable.has; simp
    rw [this]
    simp
theorem probe_empty {t : SetTable} (hd : t.dummies = #[]) {hashAt : Nat → Int} {h : Int} : ∀ (fuel : Nat) (p : SetTable.Probe) (j : Nat) (d : Option Nat), p.dummy = none → SetTable.probe.go t hashAt h fuel p = some (.empty j d) → t.slot j = .empty ∧ d = none
  | 0, p, j, d, hp, e => by unfold SetTable.probe.go at e; cases e
  | fuel + 1, p, j, d, hp, e => by
    unfold SetTable.probe.go at e
    cases hs : t.slot p.j with
    | empty => rw [hs] at e; cases e; exact ⟨hs, hp⟩
    | dummy => exact absurd hs (no_dummy hd _)
    | live i =>
      rw [hs] at e
      dsimp only at e
      split at e
      · cases e
      · refine probe_empty hd fuel (t.advance p) j d ?_ e
        unfold SetTable.advance
        split <;> exact hp
theorem empty_not {t : SetTable} (hr : Rising t.place) {j : Nat} (h : t.slot j = .empty) : j ∉ t.place.toList := by
  intro hm
  obtain ⟨i, hi, hij⟩ := List.mem_iff_getElem.mp hm
  rw [Array.length_toList] at hi
  have gi : t.place.getD i 0 = j := by rw [Array.getD_eq_getD_getElem?, Array.getElem?_eq_getElem hi]; simpa using hij
  obtain ⟨c1, c2, c3⟩ := below_cut hr j
  have h1 : SetTable.below t.place j ≤ i := by
    rcases Nat.lt_or_ge i (SetTable.below t.place j) with q | q
    · have := c2 i q; omega
    · exact q
  have h2 : SetTable.below t.place j = i := by
    rcases Nat.lt_or_ge (SetTable.below t.place j) i with q | q
    · have := hr _ i q hi
      have := c3 (SetTable.below t.place j) (Nat.le_refl _) (by omega)
      omega
    · omega
  unfold SetTable.slot at h
  dsimp only at h
  have : (t.place[SetTable.below t.place j]? == some j) = true := by
    rw [h2, Array.getElem?_eq_getElem hi]
    have : t.place[i] = j := by simpa using hij
    rw [this]; simp
  rw [this] at h
  cases h
end Mine
end
section
open PySem PySem.W PyProof.Rows PySem.Calls
set_option maxRecDepth 100000
namespace Mine
noncomputable def Neat (t : SetTable) : Prop := Rising t.place ∧ t.dummies = #[]
theorem neat_fresh (led : Bool) : Neat (.fresh 0 0 led) := ⟨fun a b h hb => absurd hb (Nat.not_lt_zero _), rfl⟩
theorem neat_standIn {t : SetTable} (n : Nat) : Neat (t.standIn n) := ⟨rising_range n, rfl⟩
theorem neat_plain {t : SetTable} (h : Neat t) : Neat { t with plain := false } := h
theorem neat_layNew {t : SetTable} (h : Neat t) (es : Array (Int × Value)) (k : Int) (x : Value) : Neat (layNew t es k x).2.1 := by
  unfold layNew
  cases hf : t.freeSlot k with
  | none => exact neat_standIn _
  | some r =>
    obtain ⟨slot, wd⟩ := r
    dsimp only
    have hslot : slot ∉ t.place.toList := by
      unfold SetTable.freeSlot at hf
      split at hf
      · rename_i j d hp
        unfold SetTable.probe at hp
        obtain ⟨q1, q2⟩ := probe_empty h.2 _ _ _ _ rfl hp
        subst q2
        cases hf
        exact empty_not h.1 q1
      · cases hf
    have hp : Neat (t.put slot).1 := by
      refine ⟨rising_insert h.1 hslot, ?_⟩
      show (if SetTable.has t.dummies slot then _ else t.dummies) = #[]
      rw [h.2]
      have : SetTable.has #[] slot = false := by unfold SetTable.has; simp
      rw [this]; rfl
    unfold SetTable.orStandIn
    split
    · exact hp
    · exact neat_standIn _
theorem neat_laid {mask finger moves : Nat} {led plain : Bool} {hs : Array Int} {r : SetTable × Array Nat} (h : SetTable.laid mask finger moves led plain hs = some r) : Neat r.1 := by
  unfold SetTable.laid at h
  cases hc : SetTable.layClean mask hs with
  | none => rw [hc] at h; cases h
  | some ow =>
    rw [hc] at h
    cases h
    refine ⟨rising_list ?_, rfl⟩
    refine List.pairwise_map.mpr (List.pairwise_filterMap.mpr (List.Pairwise.imp ?_ List.pairwise_lt_range))
    intro a b hab x hx y hy
    simp only [Option.map_eq_some_iff] at hx hy
    obtain ⟨_, _, rfl⟩ := hx
    obtain ⟨_, _, rfl⟩ := hy
    exact hab
theorem neat_relayAll (t : SetTable) (es : Array (Int × Value)) (wanted : Nat) : Neat (relayAll t es wanted).2.1 := by
  unfold relayAll
  cases hr : t.relaid (es.map (·.1)) wanted with
  | none => exact neat_standIn _
  | some r =>
    obtain ⟨t', order⟩ := r
    dsimp only
    split
    · exact neat_laid hr
    · exact neat_standIn _
end Mine
end
section
open PySem PySem.W PyProof.Rows PySem.Calls
set_option maxRecDepth 100000
namespace Mine
noncomputable def SetL (h : Heap) (a : Addr) (es : List (Int × Value)) (led : Bool) : Prop :=
  ∃ o ep t ea, h.get? a = some o ∧ o.ExactSet ∧ o.data = .set ea ep t ∧ ea.toList = es ∧ t.fits ea.size = true ∧ t.led = led ∧ Neat t
noncomputable def Ints (es : List (Int × Value)) : Prop := ∀ e ∈ es, ∃ k t, e = (hashInt k, Value.int k t)
theorem put_led (t : SetTable) (j : Nat) : (t.put j).1.led = t.led := rfl
theorem standIn_led (t : SetTable) (n : Nat) : (t.standIn n).led = t.led := rfl
theorem orStandIn_led (t : SetTable) (n : Nat) : (t.orStandIn n).led = t.led := by unfold SetTable.orStandIn; split <;> rfl
theorem layNew_led (t : SetTable) (es : Array (Int × Value)) (h : Int) (x : Value) : (layNew t es h x).2.1.led = t.led := by
  unfold layNew
  split
  · exact orStandIn_led _ _
  · rfl
theorem laid_led {mask finger moves : Nat} {led plain : Bool} {hs : Array Int} {r : SetTable × Array Nat} (h : SetTable.laid mask finger moves led plain hs = some r) : r.1.led = led := by
  unfold SetTable.laid at h
  cases hc : SetTable.layClean mask hs with
  | none => rw [hc] at h; cases h
  | some ow => rw [hc] at h; cases h; rfl
theorem relayAll_led (t : SetTable) (es : Array (Int × Value)) (wanted : Nat) : (relayAll t es wanted).2.1.led = t.led := by
  unfold relayAll
  cases hr : t.relaid (es.map (·.1)) wanted with
  | none => rfl
  | some r =>
    obtain ⟨t', order⟩ := r
    dsimp only
    split
    · exact laid_led hr
    · rfl
theorem ints_elems {prog : Program} {w : World} {es : List (Int × Value)} (h : Ints es) : ElemsOf (intKind prog w) es := by
  intro e he
  obtain ⟨k, t, rfl⟩ := h e he
  exact ⟨⟨k, intKind_is _ _ _ _, rfl⟩, rfl⟩
noncomputable def keyI (e : Int × Value) : Int := match e.2 with | .int k _ => k | _ => 0
theorem is_key {prog : Program} {w : World} {es : List (Int × Value)} (h : Ints es) {e : Int × Value} (he : e ∈ es) (k : Int) : (intKind prog w).is k e.2 = decide (keyI e = k) := by
  obtain ⟨x, t, rfl⟩ := h e he
  show Value.isInt k (.int x t) = decide (x = k)
  unfold Value.isInt
  by_cases q : x = k
  · subst q; simp
  · simp [q]
structure Next (es es' : List (Int × Value)) (k : Int) : Prop where
  isInts : Ints es'
  nodup : (es'.map keyI).Nodup
  mem : ∀ x, x ∈ es'.map keyI ↔ x ∈ es.map keyI ∨ x = k
  len : es'.length ≤ es.length + 1
section
variable {prog : Program} {w : World} {A : Around} {E : Value → Shared → Prop} {s : Shared}
theorem SetL.upd {h : Heap} {a : Addr} {led : Bool} {o : Obj} {ep : Nat} {t t' : SetTable} {ea ea' : Array (Int × Value)} (ho : h.get? a = some o) (hex : o.ExactSet) (hd : o.data = .set ea ep t) (hf : t'.fits ea'.size = true) (hl : t'.led = led) (hne : Neat t') :
    (h.update a (Obj.putSet ea' t')).get? a = some { o with data := .set ea' (ep + 1) t' } ∧ SetL (h.update a (Obj.putSet ea' t')) a ea'.toList led := by
  have hg : (h.update a (Obj.putSet ea' t')).get? a = some { o with data := .set ea' (ep + 1) t' } := by
    have := Heap.get?_update_self (Obj.putSet ea' t') ho (by rw [putSet_of ea' t' hd]; rfl)
    rw [putSet_of ea' t' hd] at this; exact this
  exact ⟨hg, _, ep + 1, t', ea', hg, hex, rfl, rfl, hf, hl, hne⟩
theorem add_L {a : Addr} {es : List (Int × Value)} {led : Bool} {k : Int} {tk : Tok} {Q : Bool → Shared → Prop} (hS : SetL s.heap a es led) (hi : Ints es) (hn : (es.map keyI).Nodup) (hb : es.length + 1 < scanBound)
    (h : ∀ h' es' b, Heap.SameBut a s.heap h' → SetL h' a es' led → Next es es' k → Q b { s with heap := h' }) : wpAny (model prog w) A (setAddHashed a (.int k tk) (hashInt k)) Q E s := by
  obtain ⟨o, ep, t, ea, ho, hex, hd, rfl, hf, hl, hne⟩ := hS
  have hel : ElemsOf (intKind prog w) ea.toList := ints_elems hi
  have hb0 : ea.size < scanBound := by rw [Array.length_toList] at hb; omega
  unfold setAddHashed setAddHashedIn
  refine wpAny_holding (wpAny_bind (wpAny_setState_of ho hd hf ?_))
  dsimp only
  rw [byScan_of (knd := intKind prog w) rfl hb0 hel]
  simp only [↓reduceIte]
  unfold setAddByScan
  refine wpAny_bind (wpAny_bind (wpAny_rule (wpAny_bind (wpAny_setScan_of (knd := intKind prog w) (intKind_is _ _ _ _) ho hd hf hel ?_))))
  cases hr : List.findIdx? (fun e => (intKind prog w).is k e.2) ea.toList with
  | some j =>
    obtain ⟨hj, hpj, _⟩ := List.findIdx?_eq_some_iff_getElem.mp hr
    have hmemj := List.getElem_mem (l := ea.toList) hj
    rw [is_key hi hmemj, decide_eq_true_eq] at hpj
    refine wpAny_pure (wpAny_pure ?_)
    have e : s = { s with heap := s.heap } := by cases s; rfl
    rw [e]
    refine h s.heap ea.toList _ (Heap.SameBut.refl a s.heap) ⟨o, ep, t, ea, ho, hex, hd, rfl, hf, hl, hne⟩ ⟨hi, hn, fun x => ⟨.inl, fun q => q.elim id fun q => ?_⟩, Nat.le_succ _⟩
    subst q
    exact List.mem_map.mpr ⟨_, hmemj, hpj⟩
  | none =>
    have habs : k ∉ ea.toList.map keyI := by
      intro q
      obtain ⟨e, he, hk⟩ := List.mem_map.mp q
      have := List.findIdx?_eq_none_iff.mp hr e he
      rw [is_key hi he, hk] at this
      simp at this
    have hperm := layNew_perm t ea (hashInt k) (.int k tk)
    have hfits := layNew_fits t ea (hashInt k) (.int k tk)
    have hled := layNew_led t ea (hashInt k) (.int k tk)
    have hneat := neat_layNew hne ea (hashInt k) (.int k tk)
    generalize layNew t ea (hashInt k) (.int k tk) = R at hperm hfits hled hneat ⊢
    obtain ⟨es1, t1, wd, gave⟩ := R
    dsimp only at hperm hfits hled hneat ⊢
    rw [Array.toList_push] at hperm
    have next : ∀ es2 : Array (Int × Value), es2.toList.Perm es1.toList → Next ea.toList es2.toList k := by
      intro es2 hp
      have hp2 := hp.trans hperm
      have hpk := hp2.map keyI
      rw [List.map_append] at hpk
      refine ⟨fun e he => ?_, ?_, fun x => ?_, ?_⟩
      · rcases List.mem_append.mp (hp2.mem_iff.mp he) with q | q
        · exact hi e q
        · exact ⟨k, tk, List.mem_singleton.mp q⟩
      · refine hpk.nodup_iff.mpr (List.nodup_append.mpr ⟨hn, by simp, ?_⟩)
        intro x hx y hy e
        rw [e, List.mem_singleton.mp hy] at hx
        exact habs hx
      · rw [hpk.mem_iff, List.mem_append]
        exact ⟨fun q => q.elim .inl fun q => .inr (List.mem_singleton.mp q), fun q => q.elim .inl fun q => .inr (List.mem_singleton.mpr q)⟩
      · rw [hp2.length_eq, List.length_append]; exact Nat.le_refl _
    have hsz1 : es1.size < scanBound := by
      have := hperm.length_eq
      rw [List.length_append, Array.length_toList, Array.length_toList] at this
      rw [Array.length_toList] at hb
      simp only [List.length_cons, List.length_nil] at this
      omega
    have hgw : ∀ (b : Bool) {s₁ : Shared} {Q' : Unit → Shared → Prop}, Q' () s₁ → wpAny (model prog w) A (match b with | true => rule "set.scan.the-table-gave-way" | false => pure ()) Q' E s₁ :=
      fun b s₁ Q' hq => by cases b <;> first | exact wpAny_pure hq | exact wpAny_rule hq
    refine wpAny_bind (hgw _ ?_)
    have hsb1 := Heap.SameBut.update s.heap a (Obj.putSet es1 t1)
    obtain ⟨ho1, hS1⟩ := SetL.upd ho hex hd hfits (hled.trans hl) hneat
    split
    all_goals
      refine wpAny_bind (wpAny_pure ?_)
      simp only [↓reduceIte]
      refine wpAny_bind (wpAny_storeSet_of ho hd ?_ (fits_of_scanBound hsz1))
      split
    all_goals first
      | (have hp := relayAll_perm t1 es1 (SetTable.grown es1.size)
         have hfr := relayAll_fits t1 es1 (SetTable.grown es1.size)
         have hlr := relayAll_led t1 es1 (SetTable.grown es1.size)
         have hnr := neat_relayAll t1 es1 (SetTable.grown es1.size)
         generalize relayAll t1 es1 (SetTable.grown es1.size) = R2 at hp hfr hlr hnr ⊢
         obtain ⟨es2, t3, gave2⟩ := R2
         dsimp only at hp hfr hlr hnr ⊢
         have hsz2 : es2.size = es1.size := by rw [← Array.length_toList, hp.length_eq, Array.length_toList]
         refine wpAny_bind (hgw _ ?_)
         refine wpAny_bind (wpAny_storeSet_of ho1 rfl ?_ (fits_of_scanBound (by omega)))
         obtain ⟨_, hS2⟩ := SetL.upd ho1 hex rfl hfr (hlr.trans (hled.trans hl)) hnr
         exact wpAny_pure (wpAny_pure (h _ _ _ (hsb1.trans (Heap.SameBut.update _ a _)) hS2 (next es2 hp))))
      | exact wpAny_pure (wpAny_pure (h _ _ _ hsb1 hS1 (next es1 (List.Perm.refl _))))
end
end Mine
end
section
open PySem PySem.W PyProof.Rows PySem.Calls
set_option maxRecDepth 100000
namespace Mine
theorem SetL.but {h h' : Heap} {a : Addr} {es : List (Int × Value)} {led : Bool} (x : SetL h a es led) (k : ∀ o, h.get? a = some o → h'.get? a = some o) : SetL h' a es led :=
  let ⟨o, ep, t, ea, ho, r⟩ := x; ⟨o, ep, t, ea, k o ho, r⟩
structure Holds (val : Nat → Int) (i : Nat) (es : List (Int × Value)) : Prop where
  isInts : Ints es
  nodup : (es.map keyI).Nodup
  len : es.length ≤ i
  mem : ∀ x, x ∈ es.map keyI ↔ ∃ j, j < i ∧ val j = x
theorem Holds.next {val : Nat → Int} {i : Nat} {es es' : List (Int × Value)} (x : Holds val i es) (y : Next es es' (val i)) : Holds val (i + 1) es' :=
  ⟨y.isInts, y.nodup, Nat.le_trans y.len (Nat.succ_le_succ x.len), fun z => by
    rw [y.mem, x.mem]
    constructor
    · rintro (⟨j, hj, e⟩ | rfl)
      · exact ⟨j, by omega, e⟩
      · exact ⟨i, by omega, rfl⟩
    · rintro ⟨j, hj, e⟩
      rcases Nat.lt_or_ge j i with q | q
      · exact .inl ⟨j, q, e⟩
      · rw [show j = i by omega] at e; exact .inr e.symm⟩
section
variable {prog : Program} {w : World} {A : Around} {E : Value → Shared → Prop}
theorem upd_L {R : Result → Shared → Prop} {I S : Addr} {fp : List Addr} {n : Nat} {P : Nat → Value → Prop} {St : Nat → Heap → Prop} {led : Bool} (s : Shared) (W : Walks prog w A.in1 I fp [I] n P St) (hSI : S ≠ I) (hSf : S ∉ fp)
    (val : Nat → Int) (hval : ∀ i v, P i v → ∃ t, v = .int (val i) t) (hb : n + 1 < scanBound)
    (hR : ∀ h' tk es, SetL h' S es led → Holds val n es → (∀ b o, b ≠ S → b ≠ I → s.heap.get? b = some o → h'.get? b = some o) → R (.ok (.ret .none)) { s with heap := h', toks := tk }) :
    ∀ (k i : Nat) (h : Heap) (tk : Tok) (es : List (Int × Value)), n - i = k → i ≤ n → St i h → SetL h S es led → Holds val i es → (∀ b o, b ≠ S → b ≠ I → s.heap.get? b = some o → h.get? b = some o) →
      codeAny (model prog w) A (.builtin "set.update.loop" ⟨[.ref S, .ref I], []⟩) R { s with heap := h, toks := tk }
  | 0, i, h, tk, es, hk, hi, hst, hS, hH, hkeep => by
    have hin : i = n := by omega
    subst hin
    refine codeAny_builtin F.entry_set_update_loop ?_
    rw [Around.under_plainId F.plain_set_update_loop _]
    show wpAny _ A.in1 (pyNext (.ref I) >>= _) _ _ _
    refine wpAny_bind (W.done _ _ _ hst fun h' tk' hk' => ?_)
    show wpAny _ A.in1 (ret Value.none) _ _ _
    have nI : ∀ b, b ≠ I → b ∉ [I] := fun b hb hm => hb (List.mem_singleton.mp hm)
    exact wpAny_pure (hR h' tk' es (hS.but fun o e => hk' _ o (nI _ hSI) e) hH fun b o h1 h2 e => hk' b o (nI b h2) (hkeep b o h1 h2 e))
  | k + 1, i, h, tk, es, hk, hi, hst, hS, hH, hkeep => by
    have hlt : i < n := by omega
    have nI : ∀ b, b ≠ I → b ∉ [I] := fun b hb hm => hb (List.mem_singleton.mp hm)
    refine codeAny_builtin F.entry_set_update_loop ?_
    rw [Around.under_plainId F.plain_set_update_loop _]
    show wpAny _ A.in1 (pyNext (.ref I) >>= _) _ _ _
    refine wpAny_bind (W.item i _ _ _ hlt hst fun v h₁ tk₁ hP hst₁ hk₁ => ?_)
    obtain ⟨t, rfl⟩ := hval i v hP
    have hS₁ := hS.but fun o e => hk₁ _ o (nI _ hSI) e
    show wpAny _ A.in1 (holding [Value.int (val i) t] (setAdd S (.int (val i) t)) >>= _) _ _ _
    refine wpAny_bind (wpAny_holding ?_)
    unfold setAdd
    refine wpAny_holding ?_
    refine wpAny_bind ((intKind prog w).pyHash (k := val i) (intKind_is _ _ _ _) ?_)
    refine add_L (s := { s with heap := h₁, toks := tk₁ + 1 }) hS₁ hH.isInts hH.nodup (by have := hH.len; omega) fun h₂ es₂ b hsb hS₂ hn₂ => ?_
    refine wpAny_pure ⟨plainId_quiet F.plain_set_update_loop _, upd_L s W hSI hSf val hval hb hR k (i + 1) h₂ (tk₁ + 1) es₂ (by omega) hlt (W.frame _ _ _ hst₁ fun b hb' o e => ?_) hS₂ (hH.next hn₂) fun b o q1 q2 e => ?_⟩
    · exact (hsb.2 b (fun q : b = S => hSf (q ▸ hb'))).trans e
    · exact (hsb.2 b q1).trans (hk₁ b o (nI b q2) (hkeep b o q1 q2 e))
end
end Mine
end
section
open PySem PySem.W PyProof.Rows PySem.Calls
set_option maxRecDepth 100000
namespace Mine
noncomputable def ledOf (w : World) : Bool := !w.params.followText "set-order"
noncomputable def freshSet (led : Bool) : Obj := { cls := .type "set", dict := none, data := .set #[] 0 (.fresh 0 0 led) }
theorem fresh_L {h : Heap} {a : Addr} {led : Bool} (ho : h.get? a = some (freshSet led)) : SetL h a [] led :=
  ⟨_, 0, .fresh 0 0 led, #[], ho, ⟨rfl, rfl, rfl⟩, rfl, rfl, rfl, rfl, neat_fresh led⟩
theorem holds_nil (val : Nat → Int) : Holds val 0 [] := ⟨fun e he => (nomatch he), List.nodup_nil, Nat.le_refl _, fun x => ⟨fun h => (nomatch h), fun ⟨j, hj, _⟩ => absurd hj (Nat.not_lt_zero _)⟩⟩
section
variable {prog : Program} {w : World} {A : Around} {E : Value → Shared → Prop} {s : Shared}
theorem new_set_L (a : Value) {Q₁ : Value → Shared → Prop} (h : Q₁ (.ref s.heap.objs.size) { s with heap := s.heap.push (freshSet (ledOf w)) }) :
    codeAny (model prog w) A (.call (.builtin "set.__new__") ⟨[.type "set", a], []⟩) (wants Q₁ E) s := by
  refine codeAny_of_tree ?_
  show wpAny _ A.in1 (do checkBuiltinCall "set.__new__" ⟨[.type "set", a], []⟩; again (.builtin "set.__new__" ⟨[.type "set", a], []⟩)) _ _ s
  refine wpAny_bind (wpAny_of_eq (F.newCall_set_1 a) (wpAny_pure ⟨plainId_quiet F.plain_set_new _, codeAny_builtin F.entry_set_new ?_⟩))
  rw [Around.under_plainId F.plain_set_new _]
  unfold Builtin.«set.__new__» Builtin.Frozenset.newClass
  have hsub := sub_set_self
  obtain ⟨hp, g, d, tk, os⟩ := s
  dsimp only
  wp_walk
  refine wpAny_askSetting (wpAny_pure ?_)
  dsimp only
  simp only [newObj]
  refine wpAny_bind (wpAny_alloc (wpAny_pure ?_))
  exact wpAny_pure h
set_option maxHeartbeats 3200000 in
theorem set_of_list {l : Addr} {items : Array Value} {ns : List Int} {Q : Value → Shared → Prop} (hh : A.handled = none) (hl : s.heap.IsList l items) (hi : IntsAre items.toList ns) (hb : items.size + 1 < scanBound)
    (h : ∀ (h' : Heap) (tk : Tok) es, SetL h' s.heap.objs.size es (ledOf w) → Holds (fun i => ns.getD i 0) items.size es → (∀ b o, s.heap.get? b = some o → h'.get? b = some o) → Q (.ref s.heap.objs.size) { s with heap := h', toks := tk }) :
    wpAny (model prog w) A (call (.type "set") [.ref l]) Q E s := by
  obtain ⟨c, tl, hmro⟩ := F.called_set.mro
  have hmade := F.called_set.made
  have hsub := F.called_set.sub
  refine wpAny_call (codeAny_of_tree ?_)
  show wpAny _ _ (callAny (.type "set") _) _ _ _
  refine wpAny_pure ⟨Code.quiet_builtin _ (by decide +kernel), codeAny_builtin F.entry_type_call ?_⟩
  rw [Around.under_plain (weight_type_call_type "set" [.ref l] []) rfl]
  have h1 := F.called_set.notType
  have h2 := F.called_set.canCreate
  have hct := F.typeCall_set_1 (.ref l)
  repeat (any_goals (first | assumption | wp_step))
  refine codeAny_mono (new_set_L (.ref l) (E := E) (Q₁ := fun obj s₁ => obj = .ref s.heap.objs.size ∧ s₁ = { s with heap := s.heap.push (freshSet (ledOf w)) }) ⟨rfl, rfl⟩) fun r s₁ hr => ?_
  cases r with
  | error e => exact hr
  | ok fl =>
    cases fl with
    | ret obj =>
      obtain ⟨rfl, rfl⟩ := hr
      have hS : (s.heap.push (freshSet (ledOf w))).get? s.heap.objs.size = some (freshSet (ledOf w)) := Heap.get?_push_size _ rfl
      have hT : Shared.TypeIs { s with heap := s.heap.push (freshSet (ledOf w)) } (.ref s.heap.objs.size) "set" := ⟨_, hS, rfl⟩
      have hli := F.called_set.init.lookup
      have hbi := F.called_set.init.bind (.ref s.heap.objs.size)
      repeat (any_goals (first | assumption | wp_step))
      refine codeAny_mono (codeAny_call_builtin (R := wants (fun r s₂ => r = .none ∧ ∃ h' tk es, s₂ = { s with heap := h', toks := tk } ∧ SetL h' s.heap.objs.size es (ledOf w) ∧ Holds (fun i => ns.getD i 0) items.size es ∧
          (∀ b o, s.heap.get? b = some o → h'.get? b = some o)) E) F.called_set.init.plain F.entry_set_init (check_set_init_1 hT ?_)) fun r₂ s₂ hr₂ => ?_
      · have hlS : l < s.heap.objs.size := let ⟨o, ho, _⟩ := hl; Heap.lt_size ho
        have hl1 : (s.heap.push (freshSet (ledOf w))).IsList l items := hl.push _
        obtain ⟨ol, hol, hcl, nl, hdl⟩ := hl
        obtain ⟨ocls, odict, odata, oslots⟩ := ol
        simp only at hcl hdl
        subst hcl; subst hdl
        have hol' : (s.heap.push (freshSet (ledOf w))).get? l = some { cls := .type "list", dict := odict, data := .seq items nl, slots := oslots } := Heap.get?_push_of_some _ hol
        have hsls := F.sub_list_set
        have hslf := F.sub_list_frozenset
        have hne : (Value.type "list" == Value.type "dict") = false := by decide
        unfold Builtin.«set.__init__» noKeywords Builtin.Frozenset.updateFrom
        generalize hPI : pyIter = PI
        wp_walk
        subst hPI
        refine wpAny_pyIter_list hl1 ?_
        refine wpAny_bind (wpAny_runValue ?_)
        have hh3 : A.in1.in1.in1.handled = none := by simp [hh]
        have hneI : l ≠ (s.heap.push (freshSet (ledOf w))).objs.size := by
          rw [Heap.size_push]; exact Nat.ne_of_lt (Nat.lt_succ_of_lt hlS)
        have hSI : s.heap.objs.size ≠ (s.heap.push (freshSet (ledOf w))).objs.size := by
          rw [Heap.size_push]; exact Nat.ne_of_lt (Nat.lt_succ_self _)
        have hSf : s.heap.objs.size ∉ [(s.heap.push (freshSet (ledOf w))).objs.size, l] := by
          simp only [List.mem_cons, List.not_mem_nil, or_false, not_or]
          exact ⟨hSI, Nat.ne_of_gt hlS⟩
        have hval : ∀ (i : Nat) (v : Value), items[i]? = some v → ∃ t, v = .int ((fun i => ns.getD i 0) i) t := fun i v hv =>
          IntsAre.int_at hi i v (by rw [Array.getElem?_toList]; exact hv)
        refine upd_L s (Walks.list hh3 _ l hneI items) hSI hSf (fun i => ns.getD i 0) hval hb (fun h' tk es q1 q2 q3 => ?_) (items.size - 0) 0 _ _ [] (by omega) (Nat.zero_le _) ⟨⟨_, Heap.get?_push_size _ rfl, rfl, rfl⟩, (hl1.push _)⟩ (fresh_L (Heap.get?_push_of_some _ hS)) (holds_nil _)
          (fun b o _ _ e => Heap.get?_push_of_some _ (Heap.get?_push_of_some _ e))
        show wpAny _ _ _ _ _ _
        refine wpAny_pure ?_
        show wpAny _ _ (ret Value.none) _ _ _
        refine wpAny_pure ⟨rfl, h', tk, es, rfl, q1, q2, fun b o e => ?_⟩
        have hb := Heap.lt_size e
        exact q3 b o (Nat.ne_of_lt hb) (by rw [Heap.size_push]; exact Nat.ne_of_lt (Nat.lt_succ_of_lt hb)) e
      · cases r₂ with
        | error e => exact hr₂
        | ok fl₂ =>
          cases fl₂ with
          | ret r =>
            obtain ⟨rfl, h', tk, es, rfl, q1, q2, q3⟩ := hr₂
            repeat (any_goals (first | assumption | wp_step))
            exact h _ _ es q1 q2 q3
          | _ => exact hr₂.elim
    | _ => exact hr.elim
end
end Mine
end
section
open PySem PySem.W PyProof.Rows PySem.Calls
set_option maxRecDepth 100000
namespace Mine
noncomputable def siObj (first : Value) (i : Nat) (S : Addr) (n ep : Nat) : Obj := { cls := .type "set_iterator", dict := none, data := .fields #[first, .int i 0, .ref S, .int n 0, .int ep 0], slots := #[] }
noncomputable def SetAt (h : Heap) (S : Addr) (es : Array (Int × Value)) (ep : Nat) (t : SetTable) : Prop := ∃ o, h.get? S = some o ∧ o.data = .set es ep t
section
variable {prog : Program} {w : World} {A : Around} {E : Value → Shared → Prop} {s : Shared} {I S : Addr} {es : Array (Int × Value)} {ep : Nat} {t : SetTable}
theorem si_item_int {slot slot' i : Nat} {x : Value} {Q : Option Value → Shared → Prop} (hI : s.heap.get? I = some (siObj (.int slot 0) i S es.size ep)) (hS : SetAt s.heap S es ep t) (hf : t.fits es.size = true)
    (hnext : ∀ (A' : Around) (Q' : Option (Value × Nat) → Shared → Prop) (E' : Value → Shared → Prop), Q' (some (x, slot')) s → wpAny (model prog w) A' (setNext S slot i ep) Q' E' s)
    (hQ : ∀ h', h'.get? I = some (siObj (.int slot' 0) (i + 1) S es.size ep) → (∀ b o, b ∉ [I] → s.heap.get? b = some o → h'.get? b = some o) → Q (some x) { s with heap := h' }) :
    wpAny (model prog w) A (pyNext (.ref I)) Q E s := by
  obtain ⟨oS, hoS, hdS⟩ := hS
  have hT : s.TypeIs (.ref I) "set_iterator" := ⟨_, hI, rfl⟩
  unfold pyNext
  refine wpAny_bind (wpAny_attempt (wpAny_callSpecial?_slot (name := Str.ofString "__next__") hT si_next (wpAny_call_entry si_next hT si_entry ?_ (si_args _))))
  show wpAny _ _ (fieldsOf (.ref I) >>= _) _ _ s
  refine wpAny_bind (wpAny_fieldsOf hI rfl ?_)
  dsimp only
  refine wpAny_bind (wpAny_setEntries_of hoS hdS hf ?_)
  rw [if_neg (by simp)]
  show wpAny _ _ (setNext S (Int.toNat slot) (Int.toNat i) (Int.toNat ep) >>= _) _ _ s
  simp only [Int.toNat_natCast]
  refine wpAny_bind (hnext _ _ _ ?_)
  dsimp only
  refine wpAny_bind (wpAny_setField_rec hI (by simp) fun h1 g1 k1 => ?_)
  refine wpAny_bind (wpAny_setField_rec g1 (by simp) fun h2 g2 k2 => ?_)
  refine wpAny_pure ⟨x, rfl, wpAny_pure (hQ h2 ?_ fun b o hb e => ?_)⟩
  · rw [g2]; simp [siObj, rawInt]
  · have hb' : b ≠ I := fun q => hb (List.mem_singleton.mpr q)
    exact (k2.2 b hb').trans ((k1.2 b hb').trans e)
theorem si_end_int {slot i : Nat} {Q : Option Value → Shared → Prop} (hh : A.handled = none) (hI : s.heap.get? I = some (siObj (.int slot 0) i S es.size ep)) (hS : SetAt s.heap S es ep t) (hf : t.fits es.size = true)
    (hnext : ∀ (A' : Around) (Q' : Option (Value × Nat) → Shared → Prop) (E' : Value → Shared → Prop), Q' none s → wpAny (model prog w) A' (setNext S slot i ep) Q' E' s)
    (hQ : ∀ h', (∀ b o, b ∉ [I] → s.heap.get? b = some o → h'.get? b = some o) → Q none { s with heap := h' }) :
    wpAny (model prog w) A (pyNext (.ref I)) Q E s := by
  obtain ⟨oS, hoS, hdS⟩ := hS
  have hT : s.TypeIs (.ref I) "set_iterator" := ⟨_, hI, rfl⟩
  unfold pyNext
  refine wpAny_bind (wpAny_attempt (wpAny_callSpecial?_slot (name := Str.ofString "__next__") hT si_next (wpAny_call_entry si_next hT si_entry ?_ (si_args _))))
  show wpAny _ _ (fieldsOf (.ref I) >>= _) _ _ s
  refine wpAny_bind (wpAny_fieldsOf hI rfl ?_)
  dsimp only
  refine wpAny_bind (wpAny_setEntries_of hoS hdS hf ?_)
  rw [if_neg (by simp)]
  show wpAny _ _ (setNext S (Int.toNat slot) (Int.toNat i) (Int.toNat ep) >>= _) _ _ s
  simp only [Int.toNat_natCast]
  refine wpAny_bind (hnext _ _ _ ?_)
  dsimp only
  refine wpAny_bind (wpAny_setField_rec hI (by simp) fun h1 g1 k1 => ?_)
  show wpAny _ _ (newExc (.type "StopIteration") [] >>= _) _ _ _
  refine wpAny_bind ?_
  simp only [newExc, newTuple]
  refine wpAny_bind (wpAny_newObj_type ?_ (by size_fits))
  refine wpAny_bind (m := firstArgMember _ _) (wpAny_of_eq (a := Value.none) (by first | rfl | (simp only [firstArgMember]; rfl)) ?_)
  refine wpAny_newObj_type ?_ (by size_fits)
  simp only [raiseNew]
  refine wpAny_bind (wpAny_handled ?_)
  rw [show A.in1.handled = none from hh]
  refine wpAny_bind (wpAny_pure (wpAny_throw ?_))
  refine wpAny_bind (wpAny_isInstance (T := "StopIteration") (b := true) ⟨_, Heap.get?_push_size _ rfl, rfl⟩ isSubtype_stop ?_)
  refine wpAny_pure (hQ _ fun b o hb e => ?_)
  have hb' : b ≠ I := fun q => hb (List.mem_singleton.mpr q)
  exact Heap.get?_push_of_some _ (Heap.get?_push_of_some _ ((k1.2 b hb').trans e))
theorem si_item_tuple {T i p : Nat} {xs : Array Value} {n0 : Nat} {oT : Obj} {k : Int} {x : Value} {Q : Option Value → Shared → Prop} (hI : s.heap.get? I = some (siObj (.ref T) i S es.size ep)) (hS : SetAt s.heap S es ep t) (hf : t.fits es.size = true)
    (hT' : s.heap.get? T = some oT) (hdT : oT.data = .seq xs n0) (hp : xs[i]? = some (.int p 0)) (hx : es[p]? = some (k, x))
    (hQ : ∀ h', h'.get? I = some (siObj (.ref T) (i + 1) S es.size ep) → (∀ b o, b ∉ [I] → s.heap.get? b = some o → h'.get? b = some o) → Q (some x) { s with heap := h' }) :
    wpAny (model prog w) A (pyNext (.ref I)) Q E s := by
  obtain ⟨oS, hoS, hdS⟩ := hS
  have hT : s.TypeIs (.ref I) "set_iterator" := ⟨_, hI, rfl⟩
  unfold pyNext
  refine wpAny_bind (wpAny_attempt (wpAny_callSpecial?_slot (name := Str.ofString "__next__") hT si_next (wpAny_call_entry si_next hT si_entry ?_ (si_args _))))
  show wpAny _ _ (fieldsOf (.ref I) >>= _) _ _ s
  refine wpAny_bind (wpAny_fieldsOf hI rfl ?_)
  dsimp only
  refine wpAny_bind (wpAny_setEntries_of hoS hdS hf ?_)
  rw [if_neg (by simp)]
  show wpAny _ _ (seqItems? (.ref T) >>= _) _ _ s
  refine wpAny_bind (wpAny_seqItems hT' hdT ?_)
  simp only [Int.toNat_natCast, hp]
  unfold setNextDrawn
  refine wpAny_bind (wpAny_bind (wpAny_setState_of hoS hdS hf ?_))
  dsimp only
  rw [if_neg (by simp), hx]
  refine wpAny_pure ?_
  refine wpAny_bind (wpAny_setField_rec hI (by simp) fun h1 g1 k1 => ?_)
  refine wpAny_pure ⟨x, rfl, wpAny_pure (hQ h1 ?_ fun b o hb e => ?_)⟩
  · rw [g1]; simp [siObj, rawInt]
  · have hb' : b ≠ I := fun q => hb (List.mem_singleton.mpr q)
    exact (k1.2 b hb').trans e
theorem si_end_tuple {T i : Nat} {xs : Array Value} {n0 : Nat} {oT : Obj} {Q : Option Value → Shared → Prop} (hh : A.handled = none) (hI : s.heap.get? I = some (siObj (.ref T) i S es.size ep)) (hS : SetAt s.heap S es ep t) (hf : t.fits es.size = true)
    (hT' : s.heap.get? T = some oT) (hdT : oT.data = .seq xs n0) (hp : xs[i]? = none)
    (hQ : ∀ h', (∀ b o, b ∉ [I] → s.heap.get? b = some o → h'.get? b = some o) → Q none { s with heap := h' }) :
    wpAny (model prog w) A (pyNext (.ref I)) Q E s := by
  obtain ⟨oS, hoS, hdS⟩ := hS
  have hT : s.TypeIs (.ref I) "set_iterator" := ⟨_, hI, rfl⟩
  unfold pyNext
  refine wpAny_bind (wpAny_attempt (wpAny_callSpecial?_slot (name := Str.ofString "__next__") hT si_next (wpAny_call_entry si_next hT si_entry ?_ (si_args _))))
  show wpAny _ _ (fieldsOf (.ref I) >>= _) _ _ s
  refine wpAny_bind (wpAny_fieldsOf hI rfl ?_)
  dsimp only
  refine wpAny_bind (wpAny_setEntries_of hoS hdS hf ?_)
  rw [if_neg (by simp)]
  show wpAny _ _ (seqItems? (.ref T) >>= _) _ _ s
  refine wpAny_bind (wpAny_seqItems hT' hdT ?_)
  simp only [Int.toNat_natCast, hp]
  refine wpAny_bind (wpAny_setField_rec hI (by simp) fun h1 g1 k1 => ?_)
  refine wpAny_bind (wpAny_setField_rec g1 (by simp) fun h2 g2 k2 => ?_)
  show wpAny _ _ (newExc (.type "StopIteration") [] >>= _) _ _ _
  refine wpAny_bind ?_
  simp only [newExc, newTuple]
  refine wpAny_bind (wpAny_newObj_type ?_ (by size_fits))
  refine wpAny_bind (m := firstArgMember _ _) (wpAny_of_eq (a := Value.none) (by first | rfl | (simp only [firstArgMember]; rfl)) ?_)
  refine wpAny_newObj_type ?_ (by size_fits)
  simp only [raiseNew]
  refine wpAny_bind (wpAny_handled ?_)
  rw [show A.in1.handled = none from hh]
  refine wpAny_bind (wpAny_pure (wpAny_throw ?_))
  refine wpAny_bind (wpAny_isInstance (T := "StopIteration") (b := true) ⟨_, Heap.get?_push_size _ rfl, rfl⟩ isSubtype_stop ?_)
  refine wpAny_pure (hQ _ fun b o hb e => ?_)
  have hb' : b ≠ I := fun q => hb (List.mem_singleton.mpr q)
  exact Heap.get?_push_of_some _ (Heap.get?_push_of_some _ ((k2.2 b hb').trans ((k1.2 b hb').trans e)))
end
end Mine
end
section
open PySem PySem.W PyProof.Rows PySem.Calls
set_option maxRecDepth 100000
namespace Mine
theorem si_iter : Slot "set_iterator" "__iter__" "set_iterator.__iter__" :=
  .of (owner := "set_iterator") (n := "__iter__") (by rw [typeLookup_type, builtinLookup_eq_fast]; kernel_rfl) (by decide +kernel) (by decide +kernel) (by decide +kernel)
    (by first | exact .inl (by decide +kernel) | exact .inr (by decide +kernel)) (by rw [isSubtype_type]; kernel_rfl)
theorem si_iter_entry : entryFor table "set_iterator.__iter__" = some Builtin.«dict_keyiterator.__iter__» := entryFor_alias (id' := "dict_keyiterator.__iter__") (by kernel_rfl) (by decide +kernel) (by decide +kernel) (by kernel_rfl)
theorem si_iter_args (a : Value) : argsOk "set_iterator.__iter__" ⟨[a], []⟩ := by unfold argsOk; kernel_rfl
section
variable {prog : Program} {w : World} {A : Around} {E : Value → Shared → Prop} {s : Shared} {I S : Addr} {es : Array (Int × Value)} {ep : Nat} {t : SetTable}
theorem si_self {Q : Value → Shared → Prop} (hT : s.TypeIs (.ref I) "set_iterator") (h : Q (.ref I) s) : wpAny (model prog w) A (pyIter (.ref I)) Q E s := by
  refine wpAny_pyIter_slot hT si_iter (wpAny_call_entry si_iter hT si_iter_entry ?_ (si_iter_args _))
  exact wpAny_pure ⟨_, rfl, "set_iterator", _, hT, si_next.lookup, h⟩
theorem next_text {slot i : Nat} {Q : Option (Value × Nat) → Shared → Prop} (hb : w.params.followText "set-order" = true) (hS : SetAt s.heap S es ep t) (hf : t.fits es.size = true)
    (h : Q (((pickOrder (w.params.setOrder S ep) es)[i]?).map fun e => (e.2, slot)) s) : wpAny (model prog w) A (setNext S slot i ep) Q E s := by
  obtain ⟨oS, hoS, hdS⟩ := hS
  unfold setNext
  refine wpAny_bind (wpAny_setState_of hoS hdS hf ?_)
  dsimp only
  unfold setsByText
  refine wpAny_bind (wpAny_bind (wpAny_askSetting (wpAny_pure ?_)))
  dsimp only
  have hb' : (model prog w).w.params.followText "set-order" = true := hb
  rw [if_pos hb', if_neg (by simp)]
  unfold setWalk setsByText
  refine wpAny_bind (wpAny_bind (wpAny_setState_of hoS hdS hf ?_))
  dsimp only
  refine wpAny_bind (wpAny_bind (wpAny_askSetting (wpAny_pure ?_)))
  dsimp only
  rw [if_pos hb']
  refine wpAny_bind (wpAny_askSetting (wpAny_pure ?_))
  exact wpAny_pure h
theorem next_led {slot i : Nat} {Q : Option (Value × Nat) → Shared → Prop} (hb : w.params.followText "set-order" = false) (hl : t.led = true) (hd : (!t.plain && decide (es.size > 1)) = false) (hS : SetAt s.heap S es ep t) (hf : t.fits es.size = true)
    (h : Q (match es[SetTable.below t.place slot]?, t.place[SetTable.below t.place slot]? with
    | some (_, x), some j => some (x, j + 1)
    | _, _ => none) s) : wpAny (model prog w) A (setNext S slot i ep) Q E s := by
  obtain ⟨oS, hoS, hdS⟩ := hS
  unfold setNext
  refine wpAny_bind (wpAny_setState_of hoS hdS hf ?_)
  dsimp only
  unfold setsByText
  refine wpAny_bind (wpAny_bind (wpAny_askSetting (wpAny_pure ?_)))
  dsimp only
  have hb' : (model prog w).w.params.followText "set-order" = false := hb
  rw [if_neg (by rw [hb']; simp), if_neg (by show ¬ ((!t.plain && decide (es.size > 1)) = true); rw [hd]; simp)]
  refine wpAny_bind (wpAny_of_eq (a := ()) ?_ ?_)
  · show (if (!t.led && !es.isEmpty) = true then _ else _) = _
    rw [if_neg (by rw [hl]; simp)]
  · exact wpAny_pure h
theorem perm_of_erase {α : Type} {l : List α} {i : Nat} (h : i < l.length) {m : List α} (p : m.Perm (l.eraseIdx i)) : (l[i] :: m).Perm l :=
  (List.Perm.cons _ p).trans (erase_perm h)
theorem draw_order {α : Type} {Q : List α → Shared → Prop} : ∀ (n : Nat) (xs : List α) (d : Drawn), n = xs.length →
    (∀ ys d', ys.Perm xs → Q ys { s with drawn := d' }) → wpAny (model prog w) A (drawOrder n xs) Q E { s with drawn := d }
  | 0, xs, d, hn, h => by
    have : xs = [] := List.length_eq_zero_iff.mp hn.symm
    subst this
    exact wpAny_pure (h _ d (List.Perm.refl _))
  | n + 1, [], d, hn, h => by simp at hn
  | n + 1, x :: xs, d, hn, h => by
    have hne : (x :: xs).length ≠ 0 := by simp
    refine wpAny_bind (fun Γ p hp => ⟨hne, ?_⟩)
    refine (?_ : wpAny (model prog w) A (pure _) _ _ _) Γ p hp
    refine wpAny_pure ?_
    have hi := Nat.mod_lt ((model prog w).w.draws .order ((d.get .order))) (Nat.pos_of_ne_zero hne)
    dsimp only
    rw [List.getElem?_eq_getElem hi]
    dsimp only
    refine wpAny_bind (draw_order n _ _ ?_ fun ys d' hp => ?_)
    · rw [List.length_eraseIdx, if_pos hi]; simp at hn ⊢; omega
    · exact wpAny_pure (h _ d' (perm_of_erase hi hp))
end
end Mine
end
section
open PySem PySem.W PyProof.Rows PySem.Calls
set_option maxRecDepth 100000
namespace Mine
section
variable {prog : Program} {w : World} {A : Around} {E : Value → Shared → Prop} {s : Shared} {I S T : Addr} {es : Array (Int × Value)} {ep : Nat} {t : SetTable}
noncomputable def StI (I S : Addr) (es : Array (Int × Value)) (ep : Nat) (t : SetTable) (first : Nat → Value) (i : Nat) (h : Heap) : Prop := h.get? I = some (siObj (first i) i S es.size ep) ∧ SetAt h S es ep t
theorem walks_int {sl : Nat → Nat} {vs : List Value} (hl : vs.length = es.size) (hf : t.fits es.size = true) (hne : S ≠ I) (hh : A.handled = none)
    (hnext : ∀ (i : Nat) (s : Shared) (A' : Around) (Q' : Option (Value × Nat) → Shared → Prop) (E' : Value → Shared → Prop), SetAt s.heap S es ep t → i ≤ es.size → Q' ((vs[i]?).map fun x => (x, sl (i + 1))) s → wpAny (model prog w) A' (setNext S (sl i) i ep) Q' E' s) :
    Walks prog w A I [I, S] [I] es.size (fun i v => vs[i]? = some v) (StI I S es ep t fun i => .int (sl i) 0) where
  sub := fun b hb => by rcases List.mem_singleton.mp hb with rfl; exact List.mem_cons_self
  frame := fun i h h' ⟨a, o, b, c⟩ k => ⟨k I List.mem_cons_self _ a, o, k S (List.mem_cons_of_mem _ List.mem_cons_self) _ b, c⟩
  item := fun i s Q E hi ⟨a, b⟩ hQ => by
    have hv : vs[i]? = some vs[i] := List.getElem?_eq_getElem (hl ▸ hi)
    refine si_item_int (x := vs[i]) (slot' := sl (i + 1)) a b hf (fun A' Q' E' hq => hnext i s A' Q' E' b (Nat.le_of_lt hi) (by rw [hv]; exact hq)) fun h' g k => ?_
    obtain ⟨o, ho, hd⟩ := b
    exact hQ vs[i] h' s.toks hv ⟨g, o, k S o (fun q => hne (List.mem_singleton.mp q)) ho, hd⟩ k
  done := fun s Q E ⟨a, b⟩ hQ => by
    have hv : vs[es.size]? = none := List.getElem?_eq_none (Nat.le_of_eq hl)
    exact si_end_int hh a b hf (fun A' Q' E' hq => hnext _ s A' Q' E' b (Nat.le_refl _) (by rw [hv]; exact hq)) fun h' k => hQ h' s.toks k
  self := fun i s Q E ⟨a, b⟩ hq => si_self ⟨_, a, rfl⟩ hq
theorem walks_tuple {ps : List Nat} {vs : List Value} {n0 : Nat} (hl : ps.length = es.size) (hv : ∀ (i p : Nat), ps[i]? = some p → ∃ k x, es[p]? = some (k, x) ∧ vs[i]? = some x) (hf : t.fits es.size = true) (hne : S ≠ I) (hnT : T ≠ I) (hh : A.handled = none) :
    Walks prog w A I [I, S, T] [I] es.size (fun i v => vs[i]? = some v) (fun i h => StI I S es ep t (fun _ => .ref T) i h ∧ ∃ oT, h.get? T = some oT ∧ oT.data = .seq (ps.map fun (i : Nat) => rawInt i).toArray n0) where
  sub := fun b hb => by rcases List.mem_singleton.mp hb with rfl; exact List.mem_cons_self
  frame := fun i h h' ⟨⟨a, o, b, c⟩, oT, d, e⟩ k => ⟨⟨k I List.mem_cons_self _ a, o, k S (List.mem_cons_of_mem _ List.mem_cons_self) _ b, c⟩, oT, k T (List.mem_cons_of_mem _ (List.mem_cons_of_mem _ List.mem_cons_self)) _ d, e⟩
  item := fun i s Q E hi ⟨⟨a, b⟩, oT, d, e⟩ hQ => by
    have hp : ps[i]? = some ps[i] := List.getElem?_eq_getElem (hl ▸ hi)
    obtain ⟨k, x, hx, hvx⟩ := hv i _ hp
    refine si_item_tuple (T := T) (p := ps[i]) a b hf d e (by simp [rawInt, hp]) hx fun h' g k => ?_
    obtain ⟨o, ho, hd⟩ := b
    exact hQ x h' s.toks hvx ⟨⟨g, o, k S o (fun q => hne (List.mem_singleton.mp q)) ho, hd⟩, oT, k T oT (fun q => hnT (List.mem_singleton.mp q)) d, e⟩ k
  done := fun s Q E ⟨⟨a, b⟩, oT, d, e⟩ hQ => by
    have hp : ps[es.size]? = none := List.getElem?_eq_none (Nat.le_of_eq hl)
    exact si_end_tuple hh a b hf d e (by simp [hp]) fun h' k => hQ h' s.toks k
  self := fun i s Q E ⟨⟨a, b⟩, _⟩ hq => si_self ⟨_, a, rfl⟩ hq
noncomputable def slotAt (xs : Array Nat) (i : Nat) : Nat := if i = 0 then 0 else xs.getD (i - 1) 0 + 1
theorem below_slot {xs : Array Nat} (hr : Rising xs) {i : Nat} (hi : i ≤ xs.size) : SetTable.below xs (slotAt xs i) = i := by
  obtain ⟨h1, h2, h3⟩ := below_cut hr (slotAt xs i)
  generalize SetTable.below xs (slotAt xs i) = c at h1 h2 h3
  unfold slotAt at h2 h3
  by_cases h0 : i = 0
  · subst h0
    simp only [if_true] at h2
    by_cases hc : 0 < c
    · exact absurd (h2 0 hc) (Nat.not_lt_zero _)
    · omega
  · simp only [h0, if_false] at h2 h3
    rcases Nat.lt_trichotomy c i with hc | hc | hc
    · have := h3 (i - 1) (by omega) (by omega)
      omega
    · exact hc
    · have q1 := h2 i hc
      have q2 := hr (i - 1) i (by omega) (by omega)
      omega
end
end Mine
end
section
open PySem PySem.W PyProof.Rows PySem.Calls
set_option maxRecDepth 100000
namespace Mine
section
variable {prog : Program} {w : World} {A : Around} {E : Value → Shared → Prop} {s : Shared} {S : Addr}
theorem setDrawn_of {a : Addr} {o : Obj} {es : Array (Int × Value)} {ep : Nat} {t : SetTable} {Q : Bool → Shared → Prop}
    (ho : s.heap.get? a = some o) (hd : o.data = .set es ep t) (hf : t.fits es.size = true) (h : Q (!w.params.followText "set-order" && (!t.plain && decide (es.size > 1))) s) :
    wpAny (model prog w) A (setDrawn a) Q E s := by
  unfold setDrawn
  refine wpAny_bind (wpAny_setState_of ho hd hf ?_)
  dsimp only
  unfold setsByText
  refine wpAny_bind (wpAny_bind (wpAny_askSetting (wpAny_pure ?_)))
  exact wpAny_pure h
theorem drawn_walk {α : Type} {Q : List α → Shared → Prop} (n : Nat) (xs : List α) (hn : n = xs.length)
    (h : ∀ ys d', ys.Perm xs → Q ys { s with drawn := d' }) : wpAny (model prog w) A (drawOrder n xs) Q E s :=
  draw_order (s := s) n xs s.drawn hn h
theorem getD_map_range {α : Type} (es : Array α) (d : α) : (List.range es.size).map (fun p => es.getD p d) = es.toList := by
  apply List.ext_getElem
  · simp
  · intro i h1 h2
    simp at h1 h2
    simp [Array.getD, h1]
theorem iter_set {es : List (Int × Value)} {led : Bool} (hS : SetL s.heap S es led) (hled : led = ledOf w) (hbnd : es.length < scanBound) {Q : Value → Shared → Prop}
    (hQ : ∀ (I : Addr) (h' : Heap) (d : Drawn) (vs : List Value) (fp : List Addr) (St : Nat → Heap → Prop), (∀ b o, s.heap.get? b = some o → h'.get? b = some o) → s.heap.get? I = none → vs.Perm (es.map (·.2)) →
      (∀ A' : Around, A'.handled = none → Walks prog w A' I fp [I] vs.length (fun i v => vs[i]? = some v) St) → St 0 h' → (∀ b ∈ fp, b < h'.objs.size) → (∀ b ∈ fp, b = S ∨ s.heap.objs.size ≤ b) → I ∈ fp → Q (.ref I) { s with heap := h', drawn := d }) :
    wpAny (model prog w) A (pyIter (.ref S)) Q E s := by
  obtain ⟨o, ep, t, ea, ho, hex, hd, rfl, hf, rfl, hrise, hdum⟩ := hS
  have hT : s.TypeIs (.ref S) "set" := ⟨o, ho, hex.1⟩
  have hlt := Heap.lt_size ho
  refine wpAny_pyIter_slot hT F.slot_set_iter (wpAny_call_entry F.slot_set_iter hT s_iter_entry ?_ (F.args_set_iter_1 _))
  unfold Builtin.«frozenset.__iter__» Builtin.Frozenset.slot0 slotArgs
  simp only [List.isEmpty_nil, Bool.not_true, Bool.false_eq_true, ↓reduceIte, bind_assoc, List.length_nil, bne_self_eq_false]
  unfold Builtin.Frozenset.addrOf Builtin.Frozenset.sizeOf
  refine wpAny_bind (wpAny_pure ?_)
  try dsimp only
  refine wpAny_bind (wpAny_pure ?_)
  refine wpAny_bind (wpAny_bind (wpAny_setEntries_of ho hd hf (wpAny_pure ?_)))
  refine wpAny_bind (setDrawn_of ho hd hf ?_)
  cases hb : w.params.followText "set-order" with
  | true =>
    simp only [Bool.not_true, Bool.false_and, Bool.false_eq_true, if_false]
    refine wpAny_bind (wpAny_pure ?_)
    refine wpAny_bind (wpAny_setEpoch_of ho hd hf ?_)
    refine wpAny_bind (wpAny_newObj_type (wpAny_pure ⟨_, rfl, "set_iterator", _, ⟨_, Heap.get?_push_size _ rfl, rfl⟩, si_next.lookup, ?_⟩))
    have hp := pick_perm (w.params.setOrder S ep) ea
    have hlen : ((pickOrder (w.params.setOrder S ep) ea).toList.map (·.2)).length = ea.size := by rw [List.length_map, hp.length_eq, Array.length_toList]
    refine hQ _ _ s.drawn ((pickOrder (w.params.setOrder S ep) ea).toList.map (·.2)) _ _ (fun b o' e => Heap.get?_push_of_some _ e) ?_ (hp.map _) (fun A' hh => hlen ▸ walks_int (t := t) (ep := ep) (S := S) (sl := fun _ => 0) hlen hf (Nat.ne_of_lt hlt) hh fun i s' A'' Q' E' hS' hi hq => next_text hb hS' hf ?_)
      ⟨Heap.get?_push_size _ rfl, o, Heap.get?_push_of_some _ ho, hd⟩ ?_ ?_ List.mem_cons_self
    · cases he : s.heap.get? s.heap.objs.size with
      | none => rfl
      | some _ => exact absurd (Heap.lt_size he) (Nat.lt_irrefl _)
    · intro b hb'
      rw [Heap.size_push]
      simp at hb'
      rcases hb' with rfl | rfl
      · exact Nat.lt_succ_self _
      · exact Nat.lt_succ_of_lt hlt
    · intro b hb'
      simp at hb'
      rcases hb' with rfl | rfl
      · exact .inr (Nat.le_refl _)
      · exact .inl rfl
    · rw [List.getElem?_map, Option.map_map, Array.getElem?_toList] at hq
      exact hq
  | false =>
    have hl : t.led = true := by rw [hled]; unfold ledOf; rw [hb]; rfl
    cases hdr : (!t.plain && decide (ea.size > 1)) with
    | false =>
      simp only [Bool.and_false, Bool.false_eq_true, if_false]
      refine wpAny_bind (wpAny_pure ?_)
      refine wpAny_bind (wpAny_setEpoch_of ho hd hf ?_)
      refine wpAny_bind (wpAny_newObj_type (wpAny_pure ⟨_, rfl, "set_iterator", _, ⟨_, Heap.get?_push_size _ rfl, rfl⟩, si_next.lookup, ?_⟩))
      have hlen : (ea.toList.map (·.2)).length = ea.size := by rw [List.length_map, Array.length_toList]
      have hps : t.place.size = ea.size := by
        unfold SetTable.fits at hf
        simp only [Bool.and_eq_true, beq_iff_eq] at hf
        exact hf.1
      refine hQ _ _ s.drawn (ea.toList.map (·.2)) _ _ (fun b o' e => Heap.get?_push_of_some _ e) ?_ (List.Perm.refl _) (fun A' hh => hlen ▸ walks_int (t := t) (ep := ep) (S := S) (sl := slotAt t.place) hlen hf (Nat.ne_of_lt hlt) hh fun i s' A'' Q' E' hS' hi hq => next_led hb hl hdr hS' hf ?_)
        ⟨Heap.get?_push_size _ rfl, o, Heap.get?_push_of_some _ ho, hd⟩ ?_ ?_ List.mem_cons_self
      · cases he : s.heap.get? s.heap.objs.size with
        | none => rfl
        | some _ => exact absurd (Heap.lt_size he) (Nat.lt_irrefl _)
      · intro b hb'
        rw [Heap.size_push]
        simp at hb'
        rcases hb' with rfl | rfl
        · exact Nat.lt_succ_self _
        · exact Nat.lt_succ_of_lt hlt
      · intro b hb'
        simp at hb'
        rcases hb' with rfl | rfl
        · exact .inr (Nat.le_refl _)
        · exact .inl rfl
      · rw [below_slot hrise (hps ▸ hi)]
        rw [List.getElem?_map, Option.map_map, Array.getElem?_toList] at hq
        by_cases hi2 : i < ea.size
        · have h1 : ea[i]? = some ea[i] := Array.getElem?_eq_getElem hi2
          have h2 : t.place[i]? = some (t.place[i]'(hps ▸ hi2)) := Array.getElem?_eq_getElem (hps ▸ hi2)
          rw [h1] at hq ⊢
          rw [h2]
          have h3 : slotAt t.place (i + 1) = t.place[i]'(hps ▸ hi2) + 1 := by
            unfold slotAt
            rw [if_neg (Nat.succ_ne_zero _)]
            simp [Array.getD, hps, hi2]
          show Q' (some (ea[i].2, t.place[i]'(hps ▸ hi2) + 1)) s'
          rw [← h3]
          exact hq
        · have h1 : ea[i]? = none := Array.getElem?_eq_none (Nat.le_of_not_lt hi2)
          rw [h1] at hq ⊢
          exact hq
    | true =>
      simp only [Bool.not_false, Bool.and_true, if_true]
      refine wpAny_bind (drawn_walk _ _ (List.length_range ..).symm fun ps d' hp => ?_)
      refine wpAny_bind (wpAny_newTuple ?_ (by rw [List.length_map, hp.length_eq, List.length_range, sizeLine_eq]; simp only [Array.length_toList] at hbnd; unfold scanBound at hbnd; exact Nat.le_of_lt (Nat.lt_trans hbnd (by decide))))
      have ho2 : (s.heap.push { cls := .type "tuple", data := .seq (ps.map fun (i : Nat) => rawInt i).toArray }).get? S = some o := Heap.get?_push_of_some _ ho
      refine wpAny_bind (wpAny_setEpoch_of ho2 hd hf ?_)
      refine wpAny_bind (wpAny_newObj_type (wpAny_pure ⟨_, rfl, "set_iterator", _, ⟨_, Heap.get?_push_size _ rfl, rfl⟩, si_next.lookup, ?_⟩))
      have hlen : ps.length = ea.size := by rw [hp.length_eq, List.length_range]
      have hsz : (s.heap.push { cls := .type "tuple", data := .seq (ps.map fun (i : Nat) => rawInt i).toArray }).objs.size = s.heap.objs.size + 1 := Heap.size_push _ _
      have hlen2 : (ps.map fun p => (ea.getD p (0, Value.none)).2).length = ea.size := by rw [List.length_map, hlen]
      refine hQ _ _ d' (ps.map fun p => (ea.getD p (0, Value.none)).2) _ _ (fun b o' e => Heap.get?_push_of_some _ (Heap.get?_push_of_some _ e)) ?_ ?_ (fun A' hh => hlen2 ▸ walks_tuple (t := t) (ep := ep) (S := S) (T := s.heap.objs.size) (n0 := 0) hlen (fun i p hip => ?_) hf ?_ ?_ hh)
        ⟨⟨Heap.get?_push_size _ rfl, o, Heap.get?_push_of_some _ ho2, hd⟩, _, Heap.get?_push_of_some _ (Heap.get?_push_size _ rfl), rfl⟩ ?_ ?_ List.mem_cons_self
      · cases he : s.heap.get? (s.heap.push { cls := .type "tuple", data := .seq (ps.map fun (i : Nat) => rawInt i).toArray }).objs.size with
        | none => rfl
        | some _ => exact absurd (Heap.lt_size he) (by rw [hsz]; exact Nat.not_lt.mpr (Nat.le_succ _))
      · have := hp.map fun p => (ea.getD p (0, Value.none)).2
        refine this.trans ?_
        have e2 := getD_map_range ea ((0 : Int), Value.none)
        rw [← e2, List.map_map]
        exact List.Perm.refl _
      · intro b hb'
        rw [Heap.size_push, hsz]
        simp at hb'
        rcases hb' with rfl | rfl | rfl
        · exact Nat.lt_succ_self _
        · exact Nat.lt_succ_of_lt (Nat.lt_succ_of_lt hlt)
        · exact Nat.lt_succ_of_lt (Nat.lt_succ_self _)
      · intro b hb'
        simp at hb'
        rcases hb' with rfl | rfl | rfl
        · exact .inr (Nat.le_succ _)
        · exact .inl rfl
        · exact .inr (Nat.le_refl _)
      · have hm : p ∈ List.range ea.size := hp.mem_iff.mp (List.mem_of_getElem? hip)
        have hlt2 : p < ea.size := List.mem_range.mp hm
        refine ⟨ea[p].1, ea[p].2, Array.getElem?_eq_getElem hlt2, ?_⟩
        rw [List.getElem?_map, hip]
        simp [Array.getD, hlt2]
      · exact Nat.ne_of_lt (by rw [hsz]; exact Nat.lt_succ_of_lt hlt)
      · exact Nat.ne_of_lt (by rw [hsz]; exact Nat.lt_succ_self _)
end
end Mine
end
section
open PySem PySem.W PyProof.Rows PySem.Calls
set_option maxRecDepth 100000
namespace Mine
section
variable {prog : Program} {w : World} {A : Around} {E : Value → Shared → Prop} {s : Shared} {S : Addr}
theorem items_eq {vs : List Value} {acc : Array Value} (h : ItemsOf (fun i v => vs[i]? = some v) acc vs.length) : acc.toList = vs := by
  apply List.ext_getElem?
  intro i
  rw [Array.getElem?_toList]
  by_cases hi : i < acc.size
  · have := h.2 i acc[i] (Array.getElem?_eq_getElem hi)
    rw [this, Array.getElem?_eq_getElem hi]
  · rw [Array.getElem?_eq_none (Nat.le_of_not_lt hi), List.getElem?_eq_none]
    rw [← h.1]; exact Nat.le_of_not_lt hi
theorem collect_set {es : List (Int × Value)} {led : Bool} (hh : A.handled = none) (hS : SetL s.heap S es led) (hled : led = ledOf w) (hbnd : es.length < scanBound) {Q : List Value → Shared → Prop}
    (hQ : ∀ (h' : Heap) (d : Drawn) (tk : Tok) (vs : List Value), (∀ b o, s.heap.get? b = some o → h'.get? b = some o) → vs.Perm (es.map (·.2)) → Q vs { s with heap := h', drawn := d, toks := tk }) :
    wpAny (model prog w) A (collect (.ref S)) Q E s := by
  have hSlt : S < s.heap.objs.size := let ⟨_, _, _, _, ho, _⟩ := hS; Heap.lt_size ho
  have hSI : s.heap.objs.size ≠ S := Nat.ne_of_gt hSlt
  unfold collect
  refine wpAny_bind (wpAny_runValue (codeAny_builtin F.entry_proto_collect ?_))
  rw [Around.under_plainId F.plain_proto_collect _]
  show wpAny _ A.in1 (newList [] >>= fun l => again (.builtin "list.__iadd__" ⟨[l, .ref S], []⟩)) _ _ s
  refine wpAny_bind (wpAny_newObj_type ?_)
  refine wpAny_pure ⟨plainId_quiet F.plain_list_iadd _, codeAny_builtin F.entry_list_iadd ?_⟩
  rw [Around.under_plainId F.plain_list_iadd _]
  have hS1 : SetL (s.heap.push { cls := .type "list", data := .seq ([] : List Value).toArray }) S es led := hS.but fun o e => Heap.get?_push_of_some _ e
  have hT1 : Shared.TypeIs { s with heap := s.heap.push { cls := .type "list", data := .seq ([] : List Value).toArray } } (.ref S) "set" := by
    obtain ⟨o, _, _, _, ho, hex, _⟩ := hS1
    exact ⟨o, ho, hex.1⟩
  have hL1 : (s.heap.push { cls := .type "list", data := .seq ([] : List Value).toArray }).get? s.heap.objs.size = some { cls := .type "list", data := .seq ([] : List Value).toArray } := Heap.get?_push_size _ rfl
  have hsz1 : (s.heap.push { cls := .type "list", data := .seq ([] : List Value).toArray }).objs.size = s.heap.objs.size + 1 := Heap.size_push _ _
  show wpAny _ A.in1 (Builtin.List.listExtendWith (.ref s.heap.objs.size) (.ref S) (.ref s.heap.objs.size)) _ _ _
  unfold Builtin.List.listExtendWith
  refine wpAny_bind (wpAny_typeOf hT1 ?_)
  have h1 : Builtin.List.listSameRef (.ref s.heap.objs.size) (.ref S) = false := by simp [Builtin.List.listSameRef, hSI]
  have h2 : (Value.type "set" == Value.type "list") = false := by decide
  have h3 : (Value.type "set" == Value.type "tuple") = false := by decide
  simp only [h1, h2, h3, Bool.or_false, Bool.false_eq_true, if_false]
  refine wpAny_bind (iter_set hS1 hled hbnd fun I h' d vs fp St k1 hI hp W hst hfp hfp2 hIf => ?_)
  have hT2 : Shared.TypeIs { s with heap := h', drawn := d } (.ref S) "set" := by
    obtain ⟨o, ho, hc⟩ := hT1
    exact ⟨o, k1 _ _ ho, hc⟩
  refine wpAny_bind (wpAny_holding ?_)
  unfold Builtin.List.listLengthHint
  refine wpAny_bind (wpAny_specialOf (T := "set") hT2 F.slot_set_len.lookup ?_)
  (generalize hid : ("set.__len__" : String) = id0; (fail_if_success (clear hid id0)); wp_delta; rw [show splitId id0 = some ("set", "__len__") from by subst hid; decide +kernel]; subst hid)
  refine wpAny_bind (wpAny_isInstance (T := "set") (b := true) hT2 (by rw [isSubtype_type]; kernel_rfl) ?_)
  show wpAny _ _ (typeOf (Value.ref S) >>= _) _ _ _
  refine wpAny_bind (wpAny_typeOf (T := "set") hT2 ?_)
  refine wpAny_pure ?_
  rw [if_pos (by decide)]
  refine wpAny_bind (wpAny_rule ?_)
  have hL2 := k1 _ _ hL1
  have hLS : s.heap.objs.size ∉ fp := fun hm => by
    rcases hfp2 _ hm with q | q
    · exact hSI q
    · rw [hsz1] at q; exact absurd q (Nat.not_le.mpr (Nat.lt_succ_self _))
  show wpAny _ A.in1 (Builtin.List.listTouch (.ref s.heap.objs.size) >>= fun _ => again (.builtin "list.extend.loop" ⟨[.ref s.heap.objs.size, .ref I, .ref s.heap.objs.size], []⟩)) _ _ _
  refine wpAny_bind ?_
  show wpAny _ A.in1 (updateSeq s.heap.objs.size (·.push .none) >>= fun _ => updateSeq s.heap.objs.size (·.pop)) _ _ _
  refine wpAny_bind (wpAny_updateSeq hL2 rfl ?_)
  have hL3 := Heap.get?_update_self (Obj.mapSeq (·.push Value.none)) hL2 rfl
  refine wpAny_updateSeq hL3 rfl ?_
  have hL4 := Heap.get?_update_self (Obj.mapSeq (·.pop)) hL3 rfl
  have oth : ∀ b o, b ≠ s.heap.objs.size → h'.get? b = some o →
      ((h'.update s.heap.objs.size (Obj.mapSeq (·.push Value.none))).update s.heap.objs.size (Obj.mapSeq (·.pop))).get? b = some o :=
    fun b o hb e => (Heap.get?_update_other _ _ (Ne.symm hb)).trans ((Heap.get?_update_other _ _ (Ne.symm hb)).trans e)
  have hlen : vs.length = es.length := by rw [hp.length_eq, List.length_map]
  have hh2 : A.in1.handled = none := hh
  refine wpAny_pure ⟨plainId_quiet F.plain_extend_loop _, codeAny_extend_loopS (W _ hh2).toS (by rw [sizeLine_eq]; unfold scanBound at hbnd; omega) _ hLS _ vs.length 0 _ _ _ rfl (Nat.zero_le _)
    ((W _ hh2).frame 0 _ _ hst fun b hb o e => oth b o (fun q => hLS (q ▸ hb)) e) hL4 (ItemsOf.nil _) fun s' acc' c' hm hS' hacc => ?_⟩
  show wpAny _ A (load s.heap.objs.size >>= _) _ _ s'
  refine wpAny_bind (wpAny_load hS' ?_)
  refine wpAny_pure ?_
  show Q acc'.toList s'
  rw [items_eq hacc, Moved.eq_with hm]
  refine hQ _ _ _ _ (fun b o e => hm.heap b o ?_ (oth b o (Nat.ne_of_lt (Heap.lt_size e)) (k1 b o (Heap.get?_push_of_some _ e)))) hp
  intro hmem
  rcases List.mem_cons.mp hmem with q | q
  · exact absurd (Heap.lt_size e) (by rw [q]; exact Nat.lt_irrefl _)
  · rw [List.mem_singleton.mp q] at e
    rw [Heap.get?_push_of_some _ e] at hI
    cases hI
theorem sorted_set {es : List (Int × Value)} {led : Bool} (hh : A.handled = none) (hS : SetL s.heap S es led) (hled : led = ledOf w) (hi : Ints es) (hbnd : es.length < 64) {Q : Value → Shared → Prop}
    (hQ : ∀ (h' : Heap) (d : Drawn) (tk : Tok) (D : Addr) (c : Nat) (vs : List Value) (ns : List Int), (∀ b o, s.heap.get? b = some o → h'.get? b = some o) → (∀ b o, s.heap.get? b = some o → b < D) → h'.get? D = some (PySem.W.listOf vs.toArray c) → IntsAre vs ns → ns.Perm (es.map keyI) →
      Q (.ref D) { s with heap := h', drawn := d, toks := tk }) :
    wpAny (model prog w) A (call (.builtin "sorted") [.ref S]) Q E s := by
  refine Calls.call_function_entry kind_sorted plain_sorted entry_sorted (args_sorted1 _) ?_
  unfold Builtin.«sorted»
  refine wpAny_bind (m := checkCount "sorted" 1 1 _) (wpAny_pure ?_)
  refine wpAny_bind (collect_set (by exact hh) hS hled (by unfold scanBound; omega) fun h1 d1 tk1 vs k1 hp => ?_)
  have hlen : vs.length < 64 := by rw [hp.length_eq, List.length_map]; exact hbnd
  refine wpAny_bind (wpAny_newList ?_)
  have hIa : ∃ ns, IntsAre vs ns ∧ ns.Perm (es.map keyI) := by
    have : ∀ (vs : List Value), (∀ v ∈ vs, ∃ k t, v = .int k t) → IntsAre vs (vs.map fun v => match v with | .int k _ => k | _ => 0) := by
      intro vs
      induction vs with
      | nil => intro _; exact .nil
      | cons v vs ih =>
        intro h
        obtain ⟨k, t, rfl⟩ := h v List.mem_cons_self
        exact .cons _ _ (ih fun v hv => h v (List.mem_cons_of_mem _ hv))
    refine ⟨_, this vs fun v hv => ?_, ?_⟩
    · have := hp.mem_iff.mp hv
      obtain ⟨e, he, rfl⟩ := List.mem_map.mp this
      obtain ⟨k, t, rfl⟩ := hi e he
      exact ⟨k, t, rfl⟩
    · have := hp.map fun v => match v with | .int k _ => k | _ => (0 : Int)
      rw [List.map_map] at this
      exact this
  obtain ⟨ns, hI, hns⟩ := hIa
  have hoL : (h1.push (seqObj "list" vs.toArray 0)).get? h1.objs.size = some (seqObj "list" vs.toArray 0) := Heap.get?_push_size _ rfl
  refine wpAny_bind (wpAny_holding (wpAny_call_entry slot_list_sort ⟨_, hoL, rfl⟩ entry_list_sort (list_sort_tree hoL hI hlen fun out ns' a1 a2 a3 => ⟨_, rfl, ?_⟩) (args_list_sort _)))
  refine wpAny_pure ⟨_, rfl, ?_⟩
  obtain ⟨e, he⟩ := sortedHeap_at (out := out) hoL
  refine hQ _ d1 tk1 h1.objs.size e out.toList ns' (fun b o hb => ?_) ?_ ?_ a1 (a2.trans hns)
  · have hb1 := k1 b o hb
    have hlt := Heap.lt_size hb1
    rw [sortedHeap_old (Nat.ne_of_lt hlt) (by rw [size_push']; exact Nat.lt_succ_of_lt hlt)]
    exact Heap.get?_push_of_some _ hb1
  · exact fun b o hb => Heap.lt_size (k1 b o hb)
  · rw [Array.toArray_toList]
    exact he
end
end Mine
end
section
open PySem PySem.W PyProof.Rows PySem.Calls
set_option maxRecDepth 100000
namespace Mine
theorem turn_two0 (elt t1 i1 t2 i2 : Expr) (ifs : List Expr) (scope : Scope) (pos : Pos) (it acc : Value) (env : Env) :
    compTurn (.ListComp elt [⟨t1, i1, [], 0⟩, ⟨t2, i2, ifs, 0⟩] scope pos) 0 it acc env = (do
      standAt i1.pos
      match ← pyNext it with
      | none => pure (.done .next)
      | some v =>
        letOwnedTupleGo t1 it v
        assign t1 env v
        let x ← eval i2 env
        standAt i2.pos
        let x ← foldedSetIterable i2 env x
        let _ ← runOwn (.compStart (.ListComp elt [⟨t1, i1, [], 0⟩, ⟨t2, i2, ifs, 0⟩] scope pos) 1 (← holding [x] (pyIter x)) acc env) env
        again (.compLoop (.ListComp elt [⟨t1, i1, [], 0⟩, ⟨t2, i2, ifs, 0⟩] scope pos) 0 it acc env)) := by rfl
theorem turn_two1 (elt t1 i1 t2 i2 : Expr) (ifs : List Expr) (scope : Scope) (pos : Pos) (it acc : Value) (env : Env) :
    compTurn (.ListComp elt [⟨t1, i1, [], 0⟩, ⟨t2, i2, ifs, 0⟩] scope pos) 1 it acc env = (do
      standAt i2.pos
      match ← pyNext it with
      | none => pure (.done .next)
      | some v =>
        letOwnedTupleGo t2 it v
        assign t2 env v
        let mut ok := true
        for c in ifs do
          if ok then ok ← isTrue c env (eval c env)
        if ok then
          (do let _ ← call (.builtin "list.append") [acc, ← eval elt env])
        again (.compLoop (.ListComp elt [⟨t1, i1, [], 0⟩, ⟨t2, i2, ifs, 0⟩] scope pos) 1 it acc env)) := by rfl
section
variable {prog : Program} {w : World} {A : Around} {E : Value → Shared → Prop} {R : Result → Shared → Prop} {s : Shared}
theorem loop_two1 {elt t1 i1 t2 i2 : Expr} {ifs : List Expr} {scope : Scope} {pos : Pos} {it acc : Value} {env : Env} (I : Nat → Shared → Prop)
    (turn : ∀ n s, I n s → wpAny (model prog w) A (pyNext it) (fun r s₁ => match r with
      | none => R (.ok .next) s₁
      | some v => wpAny (model prog w) A (assign t2 env v) (fun _ s₂ =>
          wpAny (model prog w) A (forIn ifs true fun c r => if r = true then do let ok ← isTrue c env (eval c env); pure (ForInStep.yield ok) else pure (ForInStep.yield r)) (fun ok s₃ =>
            if ok = true then wpAny (model prog w) A (eval elt env) (fun x s₄ =>
              wpAny (model prog w) A (call (.builtin "list.append") [acc, x]) (fun _ s₅ => ∃ m, m < n ∧ I m s₅) (fun _ _ => False) s₄) (fun _ _ => False) s₃
            else ∃ m, m < n ∧ I m s₃) (fun _ _ => False) s₂) (fun _ _ => False) s₁) (fun _ _ => False) s)
    (n : Nat) (h : I n s) (ht : ∀ v, letOwnedTupleGo t2 it v = pure () := by intro _; rfl) :
    codeAny (model prog w) A (.compLoop (.ListComp elt [⟨t1, i1, [], 0⟩, ⟨t2, i2, ifs, 0⟩] scope pos) 1 it acc env) R s := by
  refine codeAny_loop rfl I (fun n s hI => ?_) n h
  show wpAny _ A ((compTurn (.ListComp elt [⟨t1, i1, [], 0⟩, ⟨t2, i2, ifs, 0⟩] scope pos) 1 it acc env).onRaise (fun x => do noteFrame x env; theTreesLotGoes x)) _ _ s
  refine wpAny_noted ?_
  rw [turn_two1]
  refine wpAny_bind (wpAny_standAt (wpAny_bind (wpAny_mono (turn n s hI) (fun r s₁ h₁ => ?_) fun _ _ h' => h'.elim)))
  cases r with
  | none => exact wpAny_pure h₁
  | some v =>
    refine wpAny_bind (wpAny_of_eq (ht v) ?_)
    refine wpAny_bind (wpAny_mono h₁ (fun _ s₂ h₂ => wpAny_bind (wpAny_mono h₂ (fun ok s₃ h₃ => ?_) fun _ _ h' => h'.elim)) fun _ _ h' => h'.elim)
    cases ok with
    | false => exact wpAny_pure ⟨rfl, h₃⟩
    | true =>
      exact wpAny_bind (wpAny_bind (wpAny_mono h₃ (fun x s₄ h₄ => wpAny_bind (wpAny_mono h₄ (fun _ s₅ h₅ => wpAny_pure (wpAny_pure ⟨rfl, h₅⟩)) fun _ _ h' => h'.elim)) fun _ _ h' => h'.elim))
theorem loop_two0 {elt t1 i1 t2 i2 : Expr} {ifs : List Expr} {scope : Scope} {pos : Pos} {it acc : Value} {env : Env} (I : Nat → Shared → Prop)
    (turn : ∀ n s, I n s → wpAny (model prog w) A (pyNext it) (fun r s₁ => match r with
      | none => R (.ok .next) s₁
      | some v => wpAny (model prog w) A (assign t1 env v) (fun _ s₂ => wpAny (model prog w) A (eval i2 env) (fun x s₃ => wpAny (model prog w) A (pyIter x) (fun it2 s₄ =>
          codeAny (model prog w) A (.compStart (.ListComp elt [⟨t1, i1, [], 0⟩, ⟨t2, i2, ifs, 0⟩] scope pos) 1 it2 acc env) (fun r s₅ => match r with | .ok _ => ∃ m, m < n ∧ I m s₅ | .error _ => False) s₄) (fun _ _ => False) s₃) (fun _ _ => False) s₂) (fun _ _ => False) s₁) (fun _ _ => False) s)
    (hs : ∀ x, foldedSetIterable i2 env x = pure x)
    (n : Nat) (h : I n s) (ht : ∀ v, letOwnedTupleGo t1 it v = pure () := by intro _; rfl) :
    codeAny (model prog w) A (.compLoop (.ListComp elt [⟨t1, i1, [], 0⟩, ⟨t2, i2, ifs, 0⟩] scope pos) 0 it acc env) R s := by
  refine codeAny_loop rfl I (fun n s hI => ?_) n h
  show wpAny _ A ((compTurn (.ListComp elt [⟨t1, i1, [], 0⟩, ⟨t2, i2, ifs, 0⟩] scope pos) 0 it acc env).onRaise (fun x => do noteFrame x env; theTreesLotGoes x)) _ _ s
  refine wpAny_noted ?_
  rw [turn_two0]
  refine wpAny_bind (wpAny_standAt (wpAny_bind (wpAny_mono (turn n s hI) (fun r s₁ h₁ => ?_) fun _ _ h' => h'.elim)))
  cases r with
  | none => exact wpAny_pure h₁
  | some v =>
    refine wpAny_bind (wpAny_of_eq (ht v) ?_)
    refine wpAny_bind (wpAny_mono h₁ (fun _ s₂ h₂ => wpAny_bind (wpAny_mono h₂ (fun x s₃ h₃ => wpAny_bind (wpAny_standAt (wpAny_bind (wpAny_of_eq (hs x) (wpAny_bind (wpAny_holding (wpAny_mono h₃ (fun it2 s₄ h₄ => ?_) fun _ _ h' => h'.elim))))))) fun _ _ h' => h'.elim)) fun _ _ h' => h'.elim)
    refine wpAny_bind (wpAny_runOwn (codeAny_mono h₄ fun r s₅ h₅ => ?_))
    cases r with
    | ok f => exact wpAny_pure ⟨rfl, h₅⟩
    | error e => exact h₅.elim
theorem start_two1 {elt t1 i1 t2 i2 : Expr} {ifs : List Expr} {scope : Scope} {pos : Pos} {it acc : Value} {env : Env}
    (h0 : codeAny (model prog w) A (.compLoop (.ListComp elt [⟨t1, i1, [], 0⟩, ⟨t2, i2, ifs, 0⟩] scope pos) 1 it acc env) R s)
    (h : wpAny (model prog w) A (pyIter it) (fun it' s' => codeAny (model prog w) A (.compLoop (.ListComp elt [⟨t1, i1, [], 0⟩, ⟨t2, i2, ifs, 0⟩] scope pos) 1 it' acc env) R s') (fun _ _ => False) s) :
    codeAny (model prog w) A (.compStart (.ListComp elt [⟨t1, i1, [], 0⟩, ⟨t2, i2, ifs, 0⟩] scope pos) 1 it acc env) R s := by
  refine codeAny_of_tree ?_
  show wpAny _ _ ((compStart (.ListComp elt [⟨t1, i1, [], 0⟩, ⟨t2, i2, ifs, 0⟩] scope pos) 1 it acc env).onRaise (fun x => do noteFrame x env; standAt theWindowsPlace)) _ _ s
  refine wpAny_notedAt ?_
  unfold compStart
  show wpAny _ _ (ask >>= _) _ _ s
  refine wpAny_bind (wpAny_askSetting (wpAny_ite ?_))
  split
  · first
      | exact wpAny_bind (wpAny_pure (wpAny_pure (And.intro rfl h0)))
      | exact wpAny_pure (And.intro rfl h0)
  · first
      | exact wpAny_bind (wpAny_rule (wpAny_bind (wpAny_standAt (wpAny_bind (wpAny_mono h (fun it' s' h' => wpAny_pure (And.intro rfl h')) fun _ _ x => x.elim)))))
      | (refine wpAny_bind (wpAny_rule ?_); show wpAny _ _ (standAt i2.pos >>= _) _ _ s; exact wpAny_bind (wpAny_standAt (wpAny_bind (wpAny_mono h (fun it' s' h' => wpAny_pure (And.intro rfl h')) fun _ _ x => x.elim))))
end
end Mine
end
section
open PySem PySem.W PyProof.Rows PySem.Calls
set_option maxRecDepth 100000
namespace Mine
noncomputable def pick6 (test : Int → Int → Bool) (val : Int → Int → Int) (u : Int) (j : Nat) : List Int := (List.range j).filterMap fun (k : Nat) => if test u (k : Int) then some (val u (k : Int)) else none
noncomputable def moreL (test : Int → Int → Bool) (val : Int → Int → Int) (U : List Int) : List Int := U.flatMap fun u => pick6 test val u 6
theorem pick6_succ (test : Int → Int → Bool) (val : Int → Int → Int) (u : Int) (j : Nat) : pick6 test val u (j + 1) = pick6 test val u j ++ if test u (j : Int) then [val u (j : Int)] else [] := by
  unfold pick6
  rw [List.range_succ, List.filterMap_append]
  congr 1
  cases h : test u (j : Int) <;> simp [h]
theorem news_same {h₀ h h' : Heap} {L a : Addr} {l : List (Addr × Obj)} (N : News h₀ L h l) (hs : Heap.SameBut a h h') (off : ∀ p ∈ l, p.1 ≠ a) : News h₀ L h' l :=
  fun p hp => ⟨(hs.2 _ (off p hp)).trans (N p hp).1, (N p hp).2⟩
theorem ints_snoc {vs : List Value} {ns : List Int} (h : IntsAre vs ns) (n : Int) (t : Tok) : IntsAre (vs ++ [.int n t]) (ns ++ [n]) := IntsAre.append h (.cons n t .nil)
section
variable {prog : Program} {w : World} {A : Around} {h₀ : Heap} {L : Addr} {m : Str → Option Value} {env : Env} {s : Shared} {ct elt : Expr} {x1 x2 : Str} {scope : Scope} {cl : List (Str × Addr)} {news : List (Addr × Obj)}
noncomputable def Calm (s : Shared) (h₀ : Heap) (L : Addr) (m : Str → Option Value) (all : List (Addr × Obj)) (s' : Shared) : Prop := ∃ h' tk', s' = { s with heap := h', toks := tk' } ∧ Fr h₀ L h' m ∧ News h₀ L h' all
theorem calm_intro {all : List (Addr × Obj)} {h' : Heap} {tk' : Tok} (F : Fr h₀ L h' m) (N : News h₀ L h' all) : Calm s h₀ L m all { s with heap := h', toks := tk' } := ⟨h', tk', rfl, F, N⟩
theorem inner_block {R : Result → Shared → Prop} {t1 i1 i2 : Expr} {p2 pos : Pos} {test : Int → Int → Bool} {val : Int → Int → Int} {u : Int} {tu : Tok} {I2 I C D : Addr} {oI : Obj} (hh : A.handled = none)
    (hkind : scope.kind = .function) (hx2 : scope.names.lookup x2 = some .local) (hne : x1 ≠ x2)
    (n2L : I2 ≠ L) (n2C : I2 ≠ C) (n2D : I2 ≠ D) (n2I : I2 ≠ I) (nCL : C ≠ L) (nCI : C ≠ I) (nCD : C ≠ D) (nDL : D ≠ L) (nDI : D ≠ I) (f2 : h₀.get? I2 = none) (fC : h₀.get? C = none) (fD : h₀.get? D = none)
    (offs : ∀ p ∈ news, p.1 ≠ I2 ∧ p.1 ≠ C ∧ p.1 ≠ D) {b : Nat} (hb : b ≤ 400) {acc : List Int}
    (tst : ∀ (k : Int) (tk0 : Tok) oI2 oC m₂ ys h tk (E' : Value → Shared → Prop), 0 ≤ k → k < 6 → LCg.NsObj oC m₂ → m₂ x1 = some (.int u tu) → m₂ x2 = some (.int k tk0) → Fr h₀ L h m → News h₀ L h ((I2, oI2) :: (I, oI) :: (C, oC) :: (D, LCg.lst ys) :: news) →
      wpAny (model prog w) A (isTrue ct (compEnvC scope cl C env) (eval ct (compEnvC scope cl C env))) (fun b s' => b = test u k ∧ Calm s h₀ L m ((I2, oI2) :: (I, oI) :: (C, oC) :: (D, LCg.lst ys) :: news) s') E' { s with heap := h, toks := tk })
    (el : ∀ (k : Int) (tk0 : Tok) oI2 oC m₂ ys h tk (E' : Value → Shared → Prop), 0 ≤ k → k < 6 → LCg.NsObj oC m₂ → m₂ x1 = some (.int u tu) → m₂ x2 = some (.int k tk0) → Fr h₀ L h m → News h₀ L h ((I2, oI2) :: (I, oI) :: (C, oC) :: (D, LCg.lst ys) :: news) →
      wpAny (model prog w) A (eval elt (compEnvC scope cl C env)) (fun y s' => (∃ t, y = .int (val u k) t) ∧ Calm s h₀ L m ((I2, oI2) :: (I, oI) :: (C, oC) :: (D, LCg.lst ys) :: news) s') E' { s with heap := h, toks := tk })
    {h : Heap} {tk : Tok} {ys : List Value} {m' : Str → Option Value} (F : Fr h₀ L h m) (N : News h₀ L h ((I, oI) :: (D, LCg.lst ys) :: news)) (hn : h.Ns C m') (hm : m' x1 = some (.int u tu)) (hit : IsRangeIter h I2 (0 + ((0 : Nat) : Int) * 1) (6 - ((0 : Nat) : Int)) 1)
    (hi : IntsAre ys acc) (hl : ys.length ≤ b)
    (hR : ∀ h' tk' ys' m'', Fr h₀ L h' m → News h₀ L h' ((I, oI) :: (D, LCg.lst ys') :: news) → h'.Ns C m'' → IntsAre ys' (acc ++ pick6 test val u 6) → ys'.length ≤ b + 6 → R (.ok .next) { s with heap := h', toks := tk' }) :
    codeAny (model prog w) A (.compLoop (.ListComp elt [⟨t1, i1, [], 0⟩, ⟨.Name x2 p2, i2, [ct], 0⟩] scope pos) 1 (.ref I2) (.ref D) (compEnvC scope cl C env)) R { s with heap := h, toks := tk } := by
  have W := LCg.range_walks (prog := prog) (w := w) (I := I2) hh 0 6
  refine loop_two1 (fun k s' => ∃ h' tk' j ys' m'', s' = { s with heap := h', toks := tk' } ∧ j ≤ 6 ∧ k = 7 - j ∧ IsRangeIter h' I2 (0 + (j : Int) * 1) (6 - (j : Int)) 1 ∧ Fr h₀ L h' m ∧ News h₀ L h' ((I, oI) :: (D, LCg.lst ys') :: news) ∧ h'.Ns C m'' ∧ m'' x1 = some (.int u tu) ∧
      IntsAre ys' (acc ++ pick6 test val u j) ∧ ys'.length ≤ b + j) ?_ 7 ⟨h, tk, 0, ys, m', rfl, Nat.zero_le _, rfl, hit, F, N, hn, hm, by simpa [pick6] using hi, hl⟩
  rintro k s' ⟨h', tk', j, ys', m'', rfl, hj, rfl, hit', F', N', hn', hm', hi', hl'⟩
  have offl : ∀ a : Addr, a ≠ I → a ≠ D → (∀ p ∈ news, p.1 ≠ a) → ∀ {ys'' : List Value}, ∀ p ∈ (I, oI) :: (D, LCg.lst ys'') :: news, p.1 ≠ a := fun a h1 h2 h3 ys'' p hp => by
    rcases List.mem_cons.mp hp with rfl | hp
    · exact Ne.symm h1
    · rcases List.mem_cons.mp hp with rfl | hp
      · exact Ne.symm h2
      · exact h3 p hp
  by_cases hlt : j < 6
  · refine W.item j _ _ _ hlt hit' fun v h₂ tk₂ hPv hst₂ hk₂ => ?_
    obtain ⟨t, rfl⟩ := hPv
    have F₂ : Fr h₀ L h₂ m := LCg.fr_but F' hk₂ (Ne.symm n2L) f2
    have N₂ : News h₀ L h₂ ((I, oI) :: (D, LCg.lst ys') :: news) := LCg.news_but N' hk₂ (offl I2 n2I n2D fun p hp => (offs p hp).1)
    refine wpAny_assign_Name (wpAny_storeName_local (lookup_relabel_local hx2) (hn'.at' fun o e => hk₂ _ o (by simpa using Ne.symm n2C) e) (fun h₃ hn₃ hs₃ => ?_) (by simp [compEnvC, relabel, hkind]))
    refine wpAny_tests_one ?_
    have hst₃ : IsRangeIter h₃ I2 (0 + ((j + 1 : Nat) : Int) * 1) (6 - ((j + 1 : Nat) : Int)) 1 := (hs₃.2 I2 n2C).trans hst₂
    obtain ⟨oC, heC, hoC⟩ := LCg.ns_obj hn₃
    have F₃ : Fr h₀ L h₃ m := F₂.change hs₃ nCL fC
    have N₃ : News h₀ L h₃ ((I, oI) :: (D, LCg.lst ys') :: news) := news_same N₂ hs₃ (offl C nCI nCD fun p hp => (offs p hp).2.1)
    have NA : News h₀ L h₃ ((I2, _) :: (I, oI) :: (C, oC) :: (D, LCg.lst ys') :: news) := fun p hp => by
      rcases List.mem_cons.mp hp with rfl | hp
      · exact ⟨hst₃, n2L, f2⟩
      · rcases List.mem_cons.mp hp with rfl | hp
        · exact N₃ _ List.mem_cons_self
        · rcases List.mem_cons.mp hp with rfl | hp
          · exact ⟨heC, nCL, fC⟩
          · exact N₃ p (List.mem_cons_of_mem _ hp)
    have e0 : (0 : Int) + (j : Int) = (j : Int) := Int.zero_add _
    have hm1 : (fun z => if z = x2 then some (Value.int (0 + (j : Int)) t) else m'' z) x1 = some (.int u tu) := by simp [hne, hm']
    refine wpAny_mono (tst (j : Int) t _ oC _ ys' h₃ _ _ (by omega) (by omega) hoC hm1 (by simp [e0]) F₃ NA) (fun bb s₄ h₄ => ?_) fun _ _ e => e
    obtain ⟨rfl, h₄, tk₄, rfl, F₄, N₄⟩ := h₄
    have back : ∀ {h₅ : Heap} {o2 : Obj}, News h₀ L h₅ ((I2, o2) :: (I, oI) :: (C, oC) :: (D, LCg.lst ys') :: news) → News h₀ L h₅ ((I, oI) :: (D, LCg.lst ys') :: news) := fun N5 p hp => by
      rcases List.mem_cons.mp hp with rfl | hp
      · exact N5 _ (List.mem_cons_of_mem _ List.mem_cons_self)
      · exact N5 p (List.mem_cons_of_mem _ (List.mem_cons_of_mem _ (List.mem_cons_of_mem _ hp)))
    cases hbb : test u (j : Int) with
    | false =>
      simp only [Bool.false_eq_true, if_false]
      refine ⟨7 - (j + 1), by omega, h₄, tk₄, j + 1, ys', _, rfl, hlt, rfl, (N₄ _ List.mem_cons_self).1, F₄, back N₄, hoC.ns (N₄ _ (List.mem_cons_of_mem _ (List.mem_cons_of_mem _ List.mem_cons_self))).1, hm1, ?_, by omega⟩
      rw [pick6_succ, hbb]; simpa using hi'
    | true =>
      simp only [if_true]
      refine wpAny_mono (el (j : Int) t _ oC _ ys' h₄ _ _ (by omega) (by omega) hoC hm1 (by simp [e0]) F₄ N₄) (fun y s₅ h₅ => ?_) fun _ _ e => e
      obtain ⟨⟨ty, rfl⟩, h₅, tk₅, rfl, F₅, N₅⟩ := h₅
      have zD := (N₅ (D, LCg.lst ys') (List.mem_cons_of_mem _ (List.mem_cons_of_mem _ (List.mem_cons_of_mem _ List.mem_cons_self)))).1
      refine append_at (hsz := by show ys'.toArray.size ≤ sizeLine; rw [List.size_toArray, sizeLine_eq]; omega) zD fun h₆ hs₆ hD₆ => ?_
      have N₅' := back N₅
      refine ⟨7 - (j + 1), by omega, h₆, tk₅, j + 1, ys' ++ [.int (val u j) ty], _, rfl, hlt, rfl, (hs₆.2 I2 n2D).trans (N₅ _ List.mem_cons_self).1, F₅.change hs₆ nDL fD, fun p hp => ?_, (hoC.ns (N₅ _ (List.mem_cons_of_mem _ (List.mem_cons_of_mem _ List.mem_cons_self))).1).sameBut hs₆ nCD, hm1, ?_, by rw [List.length_append, List.length_singleton]; omega⟩
      · rcases List.mem_cons.mp hp with rfl | hp
        · exact ⟨(hs₆.2 _ (Ne.symm nDI)).trans (N₅' _ List.mem_cons_self).1, (N₅' _ List.mem_cons_self).2⟩
        · rcases List.mem_cons.mp hp with rfl | hp
          · exact ⟨hD₆.trans (congrArg some (LCg.lst_snoc ys' (.int (val u j) ty))), nDL, fD⟩
          · have z := N₅' p (List.mem_cons_of_mem _ (List.mem_cons_of_mem _ hp))
            exact ⟨(hs₆.2 _ (offs p hp).2.2).trans z.1, z.2⟩
      · rw [pick6_succ, hbb, ← List.append_assoc]
        exact ints_snoc hi' _ _
  · obtain rfl : j = 6 := Nat.le_antisymm hj (Nat.not_lt.mp hlt)
    refine W.done _ _ _ hit' fun h₂ tk₂ hk₂ => ?_
    exact hR h₂ tk₂ ys' m'' (LCg.fr_but F' hk₂ (Ne.symm n2L) f2) (LCg.news_but N' hk₂ (offl I2 n2I n2D fun p hp => (offs p hp).1)) (hn'.at' fun o e => hk₂ _ o (by simpa using Ne.symm n2C) e) hi' hl'
end
end Mine
end
section
open PySem PySem.W PyProof.Rows PySem.Calls
set_option maxRecDepth 100000
namespace Mine
theorem moreL_take {test : Int → Int → Bool} {val : Int → Int → Int} {U : List Int} {i : Nat} {u : Int} (h : U[i]? = some u) : moreL test val (U.take (i + 1)) = moreL test val (U.take i) ++ pick6 test val u 6 := by
  unfold moreL
  rw [List.take_add_one, h, List.flatMap_append]
  simp
section
variable {prog : Program} {w : World} {A : Around} {E : Value → Shared → Prop} {h₀ : Heap} {L : Addr} {m : Str → Option Value} {env : Env} {s : Shared} {ct elt : Expr} {x1 x2 : Str} {scope : Scope} {cl : List (Str × Addr)} {news : List (Addr × Obj)}
theorem outer_block {R : Result → Shared → Prop} {i1 i2 : Expr} {p1 p2 pos : Pos} {test : Int → Int → Bool} {val : Int → Int → Int} {I C D ax : Addr} {vs : List Value} {U : List Int} (hh : A.handled = none)
    (hkind : scope.kind = .function) (hx1 : scope.names.lookup x1 = some .local) (hx2 : scope.names.lookup x2 = some .local) (hne : x1 ≠ x2)
    (nIL : I ≠ L) (nIa : ax ≠ I) (nCL : C ≠ L) (nCI : C ≠ I) (nCD : C ≠ D) (nDL : D ≠ L) (nDI : D ≠ I) (fI : h₀.get? I = none) (fC : h₀.get? C = none) (fD : h₀.get? D = none)
    (offs : ∀ p ∈ news, p.1 ≠ I ∧ p.1 ≠ C ∧ p.1 ≠ D) (hU : IntsAre vs U) (hlen : U.length ≤ 64) (hS : LCg.SrcAt h₀ ax vs.toArray news)
    (hs2 : ∀ x, foldedSetIterable i2 (compEnvC scope cl C env) x = pure x)
    (rng : ∀ (u : Int) (tu : Tok) oI oC m₂ ys h tk (E' : Value → Shared → Prop), LCg.NsObj oC m₂ → m₂ x1 = some (.int u tu) → Fr h₀ L h m → News h₀ L h ((I, oI) :: (C, oC) :: (D, LCg.lst ys) :: news) →
      wpAny (model prog w) A (eval i2 (compEnvC scope cl C env)) (fun x s' => ∃ r t1 t2 t3, x = .ref r ∧ IsRange s'.heap r 0 6 1 t1 t2 t3 ∧ Calm s h₀ L m ((I, oI) :: (C, oC) :: (D, LCg.lst ys) :: news) s') E' { s with heap := h, toks := tk })
    (tst : ∀ (u k : Int) (tu tk0 : Tok) I2 oI2 oI oC m₂ ys h tk (E' : Value → Shared → Prop), u ∈ U → 0 ≤ k → k < 6 → LCg.NsObj oC m₂ → m₂ x1 = some (.int u tu) → m₂ x2 = some (.int k tk0) → Fr h₀ L h m → News h₀ L h ((I2, oI2) :: (I, oI) :: (C, oC) :: (D, LCg.lst ys) :: news) →
      wpAny (model prog w) A (isTrue ct (compEnvC scope cl C env) (eval ct (compEnvC scope cl C env))) (fun b s' => b = test u k ∧ Calm s h₀ L m ((I2, oI2) :: (I, oI) :: (C, oC) :: (D, LCg.lst ys) :: news) s') E' { s with heap := h, toks := tk })
    (el : ∀ (u k : Int) (tu tk0 : Tok) I2 oI2 oI oC m₂ ys h tk (E' : Value → Shared → Prop), u ∈ U → 0 ≤ k → k < 6 → LCg.NsObj oC m₂ → m₂ x1 = some (.int u tu) → m₂ x2 = some (.int k tk0) → Fr h₀ L h m → News h₀ L h ((I2, oI2) :: (I, oI) :: (C, oC) :: (D, LCg.lst ys) :: news) →
      wpAny (model prog w) A (eval elt (compEnvC scope cl C env)) (fun y s' => (∃ t, y = .int (val u k) t) ∧ Calm s h₀ L m ((I2, oI2) :: (I, oI) :: (C, oC) :: (D, LCg.lst ys) :: news) s') E' { s with heap := h, toks := tk })
    {h : Heap} {tk : Tok} {m' : Str → Option Value} (F : Fr h₀ L h m) (N : News h₀ L h ((D, LCg.lst []) :: news)) (hn : h.Ns C m') (hit : h.IsListIter I ax 0)
    (hR : ∀ h' tk' ys' m'', Fr h₀ L h' m → News h₀ L h' ((D, LCg.lst ys') :: news) → h'.Ns C m'' → IntsAre ys' (moreL test val U) → ys'.length ≤ 6 * 64 → R (.ok .next) { s with heap := h', toks := tk' }) :
    codeAny (model prog w) A (.compLoop (.ListComp elt [⟨.Name x1 p1, i1, [], 0⟩, ⟨.Name x2 p2, i2, [ct], 0⟩] scope pos) 0 (.ref I) (.ref D) (compEnvC scope cl C env)) R { s with heap := h, toks := tk } := by
  have hlenv : vs.length = U.length := IntsAre.length hU
  have W := Walks.list (prog := prog) (w := w) hh I ax nIa vs.toArray
  refine loop_two0 (fun k s' => ∃ h' tk' i ys' m'', s' = { s with heap := h', toks := tk' } ∧ i ≤ U.length ∧ k = U.length + 1 - i ∧ h'.IsListIter I ax i ∧ Fr h₀ L h' m ∧ News h₀ L h' ((D, LCg.lst ys') :: news) ∧ h'.Ns C m'' ∧
      IntsAre ys' (moreL test val (U.take i)) ∧ ys'.length ≤ 6 * i) ?_ hs2 (U.length + 1) ⟨h, tk, 0, [], m', rfl, Nat.zero_le _, rfl, hit, F, N, hn, .nil, Nat.le_refl _⟩
  rintro k s' ⟨h', tk', i, ys', m'', rfl, hi, rfl, hit', F', N', hn', hi', hl'⟩
  have hL' : h'.IsList ax vs.toArray := hS.list F'.keep (fun p hp => N' p (List.mem_cons_of_mem _ hp))
  have offl : ∀ a : Addr, a ≠ D → (∀ p ∈ news, p.1 ≠ a) → ∀ {ys'' : List Value}, ∀ p ∈ (D, LCg.lst ys'') :: news, p.1 ≠ a := fun a h2 h3 ys'' p hp => by
    rcases List.mem_cons.mp hp with rfl | hp
    · exact Ne.symm h2
    · exact h3 p hp
  by_cases hlt : i < U.length
  · refine W.item i _ _ _ (by simpa [hlenv] using hlt) ⟨hit', hL'⟩ fun v h₂ tk₂ hPv hst₂ hk₂ => ?_
    obtain ⟨u, tu, rfl, hu⟩ := IntsAre.at hU i v (by simpa using hPv)
    have F₂ : Fr h₀ L h₂ m := LCg.fr_but F' hk₂ (Ne.symm nIL) fI
    have N₂ : News h₀ L h₂ ((D, LCg.lst ys') :: news) := LCg.news_but N' hk₂ (offl I (Ne.symm nDI) fun p hp => (offs p hp).1)
    refine wpAny_assign_Name (wpAny_storeName_local (lookup_relabel_local hx1) (hn'.at' fun o e => hk₂ _ o (by simpa using nCI) e) (fun h₃ hn₃ hs₃ => ?_) (by simp [compEnvC, relabel, hkind]))
    have hst₃ : h₃.IsListIter I ax (i + 1) := hst₂.1.extBut hs₃.extBut (Ne.symm nCI)
    obtain ⟨oI, hoI, hoI2⟩ := hst₃
    obtain ⟨oC, heC, hoC⟩ := LCg.ns_obj hn₃
    have F₃ : Fr h₀ L h₃ m := F₂.change hs₃ nCL fC
    have N₃ : News h₀ L h₃ ((D, LCg.lst ys') :: news) := news_same N₂ hs₃ (offl C nCD fun p hp => (offs p hp).2.1)
    have NA : News h₀ L h₃ ((I, oI) :: (C, oC) :: (D, LCg.lst ys') :: news) := fun p hp => by
      rcases List.mem_cons.mp hp with rfl | hp
      · exact ⟨hoI, nIL, fI⟩
      · rcases List.mem_cons.mp hp with rfl | hp
        · exact ⟨heC, nCL, fC⟩
        · exact N₃ p hp
    refine wpAny_mono (rng u tu oI oC _ ys' h₃ _ _ hoC (by simp) F₃ NA) (fun x s₄ h₄ => ?_) fun _ _ e => e
    obtain ⟨r, t1, t2, t3, rfl, hr, h₄, tk₄, rfl, F₄, N₄⟩ := h₄
    refine wpAny_pyIter_range hr (by decide) ?_
    have up : ∀ b o, h₄.get? b = some o → (h₄.push { cls := .type "range_iterator", data := .fields #[rawInt 0, rawInt (Builtin.Range.rangeSize 0 6 1), rawInt 1] }).get? b = some o := fun b o e => Heap.get?_push_of_some _ e
    have lt : ∀ p ∈ (I, oI) :: (C, oC) :: (D, LCg.lst ys') :: news, h₄.objs.size ≠ p.1 := fun p hp => Nat.ne_of_gt (Heap.lt_size (N₄ p hp).1)
    have n1 := lt _ List.mem_cons_self
    have n2 := lt _ (List.mem_cons_of_mem _ List.mem_cons_self)
    have n3 := lt _ (List.mem_cons_of_mem _ (List.mem_cons_of_mem _ List.mem_cons_self))
    have inner : ∀ R' : Result → Shared → Prop, (∀ h₅ tk₅ ys₅ m₅, Fr h₀ L h₅ m → News h₀ L h₅ ((I, oI) :: (D, LCg.lst ys₅) :: news) → h₅.Ns C m₅ → IntsAre ys₅ (moreL test val (U.take i) ++ pick6 test val u 6) → ys₅.length ≤ 6 * i + 6 → R' (.ok .next) { s with heap := h₅, toks := tk₅ }) →
        codeAny (model prog w) A (.compLoop (.ListComp elt [⟨.Name x1 p1, i1, [], 0⟩, ⟨.Name x2 p2, i2, [ct], 0⟩] scope pos) 1 (.ref h₄.objs.size) (.ref D) (compEnvC scope cl C env)) R' { s with heap := h₄.push { cls := .type "range_iterator", data := .fields #[rawInt 0, rawInt (Builtin.Range.rangeSize 0 6 1), rawInt 1] }, toks := tk₄ } := fun R' hR' => by
      refine inner_block hh hkind hx2 hne (Nat.ne_of_gt F₄.ns.lt) n2 n3 n1 nCL nCI nCD nDL nDI (next_is_new F₄) fC fD (fun p hp => ⟨Ne.symm (lt p (List.mem_cons_of_mem _ (List.mem_cons_of_mem _ (List.mem_cons_of_mem _ hp)))), (offs p hp).2⟩) (b := 6 * i) (by omega)
        (fun k tk0 oI2 oC' m₂ ys h tk E' h1 h2 h3 h4 h5 h6 h7 => tst u k tu tk0 _ oI2 oI oC' m₂ ys h tk E' (List.mem_of_getElem? hu) h1 h2 h3 h4 h5 h6 h7)
        (fun k tk0 oI2 oC' m₂ ys h tk E' h1 h2 h3 h4 h5 h6 h7 => el u k tu tk0 _ oI2 oI oC' m₂ ys h tk E' (List.mem_of_getElem? hu) h1 h2 h3 h4 h5 h6 h7)
        (F₄.keeps up) (fun p hp => ?_) (hoC.ns (up _ _ (N₄ _ (List.mem_cons_of_mem _ List.mem_cons_self)).1)) (by simp) (Heap.get?_push_size _ rfl) hi' hl' hR'
      · rcases List.mem_cons.mp hp with rfl | hp
        · have z := N₄ _ List.mem_cons_self
          exact ⟨up _ _ z.1, z.2⟩
        · have z := N₄ p (List.mem_cons_of_mem _ (List.mem_cons_of_mem _ hp))
          exact ⟨up _ _ z.1, z.2⟩
    refine start_two1 (inner _ fun h₅ tk₅ ys₅ m₅ F₅ N₅ hn₅ hi₅ hl₅ => ?_) (wpAny_pyIter_rangeiter (it := h₄.objs.size) (Heap.get?_push_size _ rfl) (inner _ fun h₅ tk₅ ys₅ m₅ F₅ N₅ hn₅ hi₅ hl₅ => ?_))
    all_goals
      refine ⟨U.length + 1 - (i + 1), by omega, h₅, tk₅, i + 1, ys₅, m₅, rfl, hlt, rfl, ⟨oI, (N₅ _ List.mem_cons_self).1, hoI2⟩, F₅, fun p hp => N₅ p (List.mem_cons_of_mem _ hp), hn₅, ?_, by omega⟩
      rw [moreL_take hu]
      exact hi₅
  · obtain rfl : i = U.length := Nat.le_antisymm hi (Nat.not_lt.mp hlt)
    refine W.done _ _ _ (by rw [List.size_toArray, hlenv]; exact ⟨hit', hL'⟩) fun h₂ tk₂ hk₂ => ?_
    rw [List.take_length] at hi'
    exact hR h₂ tk₂ ys' m'' (LCg.fr_but F' hk₂ (Ne.symm nIL) fI) (LCg.news_but N' hk₂ (offl I (Ne.symm nDI) fun p hp => (offs p hp).1)) (hn'.at' fun o e => hk₂ _ o (by simpa using nCI) e) hi' (by omega)
end
end Mine
end
section
open PySem PySem.W PyProof.Rows PySem.Calls
set_option maxRecDepth 100000
namespace Mine
section
variable {prog : Program} {w : World} {A : Around} {E : Value → Shared → Prop} {h₀ : Heap} {L : Addr} {m : Str → Option Value} {env : Env} {s : Shared} {ct elt : Expr} {x1 x2 y : Str} {scope : Scope} {cl : List (Str × Addr)} {news : List (Addr × Obj)}
theorem more_assign {Q : Flow → Shared → Prop} {i1 i2 : Expr} {p1 p2 py pos spos : Pos} {test : Int → Int → Bool} {val : Int → Int → Int} {ax : Addr} {vs : List Value} {U : List Int} (hh : A.handled = none) (hLe : env.locals = L)
    (hsw : swapsWith (.ListComp elt [⟨.Name x1 p1, i1, [], 0⟩, ⟨.Name x2 p2, i2, [ct], 0⟩] scope pos) (some (.Name y py)) spos.line env = pure true)
    (hclos : closureFor scope env = pure cl) (hcell : ∀ z ∈ scope.names, z.2 ≠ .cell) (hkind : scope.kind = .function)
    (hnames : ∀ z ∈ scope.names, z.2 = .local → scope.names.lookup z.1 = some .local) (hx1 : scope.names.lookup x1 = some .local) (hx2 : scope.names.lookup x2 = some .local) (hne : x1 ≠ x2)
    (hy : env.kindOf y = some .local) (hp : (env.scope.kind == .class || (env.scope.kind == .module && env.locals != env.globals)) = false)
    (F : Fr h₀ L s.heap m) (N : News h₀ L s.heap news) (hS : LCg.SrcAt h₀ ax vs.toArray news) (hU : IntsAre vs U) (hlen : U.length ≤ 64)
    (h1 : ∀ (Q' : Value → Shared → Prop), Q' (.ref ax) s → wpAny (model prog w) A (eval i1 env) Q' E s)
    (rng : ∀ (u : Int) (tu : Tok) I C D oI oC m₂ ys h tk (E' : Value → Shared → Prop), LCg.NsObj oC m₂ → m₂ x1 = some (.int u tu) → Fr h₀ L h m → News h₀ L h ((I, oI) :: (C, oC) :: (D, LCg.lst ys) :: news) →
      wpAny (model prog w) A (eval i2 (compEnvC scope cl C env)) (fun x s' => ∃ r t1 t2 t3, x = .ref r ∧ IsRange s'.heap r 0 6 1 t1 t2 t3 ∧ Calm s h₀ L m ((I, oI) :: (C, oC) :: (D, LCg.lst ys) :: news) s') E' { s with heap := h, toks := tk })
    (tst : ∀ (u k : Int) (tu tk0 : Tok) I C D I2 oI2 oI oC m₂ ys h tk (E' : Value → Shared → Prop), u ∈ U → 0 ≤ k → k < 6 → LCg.NsObj oC m₂ → m₂ x1 = some (.int u tu) → m₂ x2 = some (.int k tk0) → Fr h₀ L h m → News h₀ L h ((I2, oI2) :: (I, oI) :: (C, oC) :: (D, LCg.lst ys) :: news) →
      wpAny (model prog w) A (isTrue ct (compEnvC scope cl C env) (eval ct (compEnvC scope cl C env))) (fun b s' => b = test u k ∧ Calm s h₀ L m ((I2, oI2) :: (I, oI) :: (C, oC) :: (D, LCg.lst ys) :: news) s') E' { s with heap := h, toks := tk })
    (el : ∀ (u k : Int) (tu tk0 : Tok) I C D I2 oI2 oI oC m₂ ys h tk (E' : Value → Shared → Prop), u ∈ U → 0 ≤ k → k < 6 → LCg.NsObj oC m₂ → m₂ x1 = some (.int u tu) → m₂ x2 = some (.int k tk0) → Fr h₀ L h m → News h₀ L h ((I2, oI2) :: (I, oI) :: (C, oC) :: (D, LCg.lst ys) :: news) →
      wpAny (model prog w) A (eval elt (compEnvC scope cl C env)) (fun y s' => (∃ t, y = .int (val u k) t) ∧ Calm s h₀ L m ((I2, oI2) :: (I, oI) :: (C, oC) :: (D, LCg.lst ys) :: news) s') E' { s with heap := h, toks := tk })
    (fin : ∀ D h tk ys, Fr h₀ L h (fun z => if z = y then some (.ref D) else m z) → News h₀ L h ((D, LCg.lst ys) :: news) → (∀ p ∈ news, p.1 ≠ D) → IntsAre ys (moreL test val U) → ys.length ≤ 6 * 64 → Q .next { s with heap := h, toks := tk })
    (hs1 : ∀ x, foldedSetIterable i1 env x = pure x := by intro _; rfl) (hs2 : ∀ C x, foldedSetIterable i2 (compEnvC scope cl C env) x = pure x := by intro _ _; rfl) :
    wpAny (model prog w) A (exec (.Assign [.Name y py] (.ListComp elt [⟨.Name x1 p1, i1, [], 0⟩, ⟨.Name x2 p2, i2, [ct], 0⟩] scope pos) spos) env) Q E s := by
  subst hLe
  rw [exec_Assign_Name_used _ _ _ _ hsw]
  refine wpAny_bind (wpAny_standAt (wpAny_bind ?_))
  show wpAny _ A (do let _ ← comprehension (.ListComp elt [⟨.Name x1 p1, i1, [], 0⟩, ⟨.Name x2 p2, i2, [ct], 0⟩] scope pos) scope env _ (newList []) false (eval i1 env) (some (assign (.Name y py) env))) _ _ s
  refine wpAny_bind (wpAny_mono (wpAny_comprehension_free (use := some (assign (.Name y py) env)) (Q := fun _ s' => Q .next s') rfl hs1 hclos hkind hnames (h1 _ ?_)) (fun _ s' hq => wpAny_pure (wpAny_pure hq)) fun _ _ e => e)
  have hl := hS.list F.keep N
  have hlt : ax < s.heap.objs.size := by obtain ⟨_, e, _⟩ := hl; exact Heap.lt_size e
  refine wpAny_pyIter_list hl ?_
  refine wpAny_newObj_type (wpAny_newFunctionEnv hcell (by intro y hy; simp at hy) (fun h₁ hns₁ hsb₁ => ?_) hkind)
  dsimp only at hns₁ hsb₁ ⊢
  generalize hH1 : s.heap.push { cls := .type "list_iterator", data := .fields #[.ref ax, .int 0 0] } = H1 at hns₁ hsb₁ ⊢
  generalize hH2 : H1.push { cls := .type "list", dict := none, data := .seq ([] : List Value).toArray } = H2 at hns₁ hsb₁ ⊢
  have sz1 : H1.objs.size = s.heap.objs.size + 1 := by rw [← hH1, Heap.size_push]
  have sz2 : H2.objs.size = H1.objs.size + 1 := by rw [← hH2, Heap.size_push]
  have l1 : s.heap.objs.size < H1.objs.size := by rw [sz1]; exact Nat.lt_succ_self _
  have l2 : H1.objs.size < H2.objs.size := by rw [sz2]; exact Nat.lt_succ_self _
  have up1 : ∀ b o, s.heap.get? b = some o → H1.get? b = some o := fun b o e => hH1 ▸ Heap.get?_push_of_some _ e
  have up2 : ∀ b o, H1.get? b = some o → H2.get? b = some o := fun b o e => hH2 ▸ Heap.get?_push_of_some _ e
  have up3 : ∀ b o, H1.get? b = some o → h₁.get? b = some o := fun b o e => (hsb₁.extBut b o (Nat.ne_of_lt (Nat.lt_trans (Heap.lt_size e) l2)) (Heap.get?_push_of_some _ (up2 _ _ e)))
  have up : ∀ b o, s.heap.get? b = some o → h₁.get? b = some o := fun b o e => up3 _ _ (up1 _ _ e)
  have hI : h₁.get? s.heap.objs.size = some { cls := .type "list_iterator", data := .fields #[.ref ax, .int 0 0] } := up3 _ _ (hH1 ▸ Heap.get?_push_size _ rfl)
  have hD : h₁.get? H1.objs.size = some (LCg.lst []) := hsb₁.extBut _ _ (Nat.ne_of_lt l2) (Heap.get?_push_of_some _ (hH2 ▸ Heap.get?_push_size _ rfl))
  have F1 : Fr h₀ env.locals h₁ m := F.keeps up
  have fresh₀ : ∀ a, s.heap.objs.size ≤ a → h₀.get? a = none := fun a ha => by
    cases e : h₀.get? a with
    | none => rfl
    | some o' => exact absurd (Heap.lt_size (F.keep a o' e)) (Nat.not_lt.mpr ha)
  have below : ∀ b, b < s.heap.objs.size → b ≠ s.heap.objs.size ∧ b ≠ H2.objs.size ∧ b ≠ H1.objs.size := fun b hb => ⟨Nat.ne_of_lt hb, Nat.ne_of_lt (Nat.lt_trans hb (Nat.lt_trans l1 l2)), Nat.ne_of_lt (Nat.lt_trans hb l1)⟩
  have bL := below _ F.ns.lt
  have offs : ∀ p ∈ news, p.1 ≠ s.heap.objs.size ∧ p.1 ≠ H2.objs.size ∧ p.1 ≠ H1.objs.size := fun p hp => below _ (Heap.lt_size (N p hp).1)
  have fD : h₀.get? H1.objs.size = none := fresh₀ _ (Nat.le_of_lt l1)
  have fC : h₀.get? H2.objs.size = none := fresh₀ _ (Nat.le_of_lt (Nat.lt_trans l1 l2))
  have N1 : News h₀ env.locals h₁ ((H1.objs.size, LCg.lst []) :: news) := fun p hp => by
    rcases List.mem_cons.mp hp with rfl | hp
    · exact ⟨hD, Ne.symm bL.2.2, fD⟩
    · exact ⟨up _ _ (N p hp).1, (N p hp).2⟩
  have loop : codeAny (model prog w) A (.compLoop (.ListComp elt [⟨.Name x1 p1, i1, [], 0⟩, ⟨.Name x2 p2, i2, [ct], 0⟩] scope pos) 0 (.ref s.heap.objs.size) (.ref H1.objs.size) (compEnvC scope cl H2.objs.size env))
      (compPost (model prog w) A E (some (assign (.Name y py) env)) (fun _ s' => Q .next s') (.ref H1.objs.size) H2.objs.size) { s with heap := h₁, toks := s.toks + ([] : List (Str × Value)).length } := by
    refine outer_block hh hkind hx1 hx2 hne (Ne.symm bL.1) (Nat.ne_of_lt hlt) (Ne.symm bL.2.1) (Nat.ne_of_gt (Nat.lt_trans l1 l2)) (Nat.ne_of_gt l2) (Ne.symm bL.2.2) (Nat.ne_of_gt l1) (fresh₀ _ (Nat.le_refl _)) fC fD offs hU hlen hS (hs2 _)
      (fun u tu oI oC m₂ ys h tk E' => rng u tu _ _ _ oI oC m₂ ys h tk E') (fun u k tu tk0 I2 oI2 oI oC m₂ ys h tk E' => tst u k tu tk0 _ _ _ I2 oI2 oI oC m₂ ys h tk E') (fun u k tu tk0 I2 oI2 oI oC m₂ ys h tk E' => el u k tu tk0 _ _ _ I2 oI2 oI oC m₂ ys h tk E') F1 N1 hns₁ ⟨_, hI, rfl, rfl⟩ fun h' tk' ys m' F' N' hn' hi' hl' => ?_
    show wpAny _ A (assign (.Name y py) env (.ref H1.objs.size)) _ _ _
    refine wpAny_assign_Name (wpAny_storeName_local hy F'.ns (fun h₂ hn₂ hs₂ => ?_) hp)
    have hL₀ : h₀.get? env.locals = none := Heap.get?_none_of_le F'.above
    have F₂ : Fr h₀ env.locals h₂ (fun z => if z = y then some (.ref H1.objs.size) else m z) := ⟨hn₂, fun b o e => hs₂.extBut b o (fun q => by rw [q, hL₀] at e; cases e) (F'.keep b o e), F'.above⟩
    refine ⟨m', hn'.sameBut hs₂ (Ne.symm bL.2.1), fun h'' hs'' => fin _ h'' _ ys (F₂.change hs'' (Ne.symm bL.2.1) fC) (fun p hp => ?_) (fun p hp => (offs p hp).2.2) hi' hl'⟩
    have z : h₂.get? p.1 = some p.2 := hs₂.extBut _ _ (N' p hp).2.1 (N' p hp).1
    refine ⟨hs''.extBut _ _ ?_ z, (N' p hp).2⟩
    rcases List.mem_cons.mp hp with rfl | hp
    · exact Nat.ne_of_lt l2
    · exact (offs p hp).2.1
  refine codeAny_compStart_list loop ?_
  exact wpAny_pyIter_listiter (l := ax) (i := 0) ⟨_, hI, rfl, rfl⟩ loop
end
end Mine
end
section
open PySem PySem.W PyProof.Rows PySem.Calls
set_option maxRecDepth 100000
namespace Mine
noncomputable def SV (ms : List Nat) (i : Nat) (U : List Int) : Prop := U.Nodup ∧ ∀ x, x ∈ U ↔ ∃ m : Nat, x = (m : Int) ∧ Used ms i m
noncomputable def stest (mask u k : Int) : Bool := (mask.fdiv (2 ^ k.toNat)).fmod 2 == 1 && (u.fdiv (2 ^ k.toNat)).fmod 2 == 0
noncomputable def sval (u k : Int) : Int := u + 2 ^ k.toNat
theorem fdiv_nat (a k : Nat) : (((a : Int).fdiv (2 ^ ((k : Int)).toNat)).fmod 2) = ((a / 2 ^ k % 2 : Nat) : Int) := by
  rw [Int.toNat_natCast]
  have h2 : ((2 : Int) ^ k) = ((2 ^ k : Nat) : Int) := by push_cast; rfl
  rw [h2]
  rw [show (a : Int).fdiv ((2 ^ k : Nat) : Int) = ((a / 2 ^ k : Nat) : Int) by rw [Int.ofNat_fdiv]]
  rw [show ((a / 2 ^ k : Nat) : Int).fmod 2 = ((a / 2 ^ k % 2 : Nat) : Int) from by rw [show (2 : Int) = ((2 : Nat) : Int) from rfl, Int.ofNat_fmod]]
theorem mem_pick6 {test : Int → Int → Bool} {val : Int → Int → Int} {u x : Int} : x ∈ pick6 test val u 6 ↔ ∃ k : Nat, k < 6 ∧ test u k = true ∧ x = val u k := by
  unfold pick6
  rw [List.mem_filterMap]
  constructor
  · rintro ⟨k, hk, h⟩
    by_cases ht : test u (k : Int) = true
    · rw [if_pos ht] at h
      exact ⟨k, List.mem_range.mp hk, ht, (Option.some.inj h).symm⟩
    · rw [if_neg ht] at h; cases h
  · rintro ⟨k, hk, ht, rfl⟩
    exact ⟨k, List.mem_range.mpr hk, by rw [if_pos ht]⟩
theorem sv_zero (ms : List Nat) : SV ms 0 [0] := by
  refine ⟨by simp, fun x => ?_⟩
  simp only [List.mem_singleton]
  constructor
  · rintro rfl; exact ⟨0, rfl, rfl⟩
  · rintro ⟨m, rfl, h⟩
    have : m = 0 := h
    rw [this]; rfl
theorem sv_step {ms : List Nat} {i : Nat} {U K : List Int} (h : SV ms i U) (hn : K.Nodup) (hm : ∀ x, x ∈ K ↔ x ∈ U ++ moreL (stest ((ms.getD i 0 : Nat) : Int)) sval U) : SV ms (i + 1) K := by
  refine ⟨hn, fun x => ?_⟩
  rw [hm, List.mem_append]
  unfold moreL
  rw [List.mem_flatMap]
  constructor
  · rintro (hx | ⟨u, hu, hx⟩)
    · obtain ⟨m, e, hm⟩ := (h.2 x).mp hx
      exact ⟨m, e, .inl hm⟩
    · obtain ⟨m, rfl, hm⟩ := (h.2 u).mp hu
      obtain ⟨k, hk, ht, rfl⟩ := mem_pick6.mp hx
      unfold stest at ht
      rw [fdiv_nat, fdiv_nat] at ht
      simp only [Bool.and_eq_true, beq_iff_eq] at ht
      refine ⟨m + 2 ^ k, by unfold sval; rw [Int.toNat_natCast]; push_cast; rfl, .inr ⟨m, k, hm, hk, ?_, ?_, rfl⟩⟩
      · exact_mod_cast ht.1
      · exact_mod_cast ht.2
  · rintro ⟨m, rfl, hm | ⟨m', k, hm', hk, h1, h2, rfl⟩⟩
    · exact .inl ((h.2 _).mpr ⟨m, rfl, hm⟩)
    · refine .inr ⟨(m' : Int), (h.2 _).mpr ⟨m', rfl, hm'⟩, mem_pick6.mpr ⟨k, hk, ?_, ?_⟩⟩
      · unfold stest
        rw [fdiv_nat, fdiv_nat, h1, h2]
        decide
      · unfold sval; rw [Int.toNat_natCast]; push_cast; rfl
theorem pop_add : ∀ m : Nat, m < 64 → ∀ k : Nat, k < 6 → pop (m + 2 ^ k) ≤ pop m + 1 ∨ m / 2 ^ k % 2 = 1 := by decide +kernel
theorem used_pop {ms : List Nat} : ∀ {j m : Nat}, Used ms j m → pop m ≤ j
  | 0, m, h => by
    have : m = 0 := h
    subst this; decide
  | j + 1, m, h => by
    rcases h with h | ⟨m', k, h, hk, _, h2, rfl⟩
    · exact Nat.le_succ_of_le (used_pop h)
    · have := used_pop h
      rcases pop_add m' (used_lt h) k hk with q | q
      · omega
      · omega
theorem pop63 : ∀ m : Nat, m < 64 → pop m ≤ 5 → m < 63 := by decide +kernel
theorem nodup_bound : ∀ (n : Nat) {l : List Nat}, l.Nodup → (∀ x ∈ l, x < n) → l.length ≤ n
  | 0, l, _, h => by
    cases l with
    | nil => exact Nat.le_refl _
    | cons x l => exact absurd (h x List.mem_cons_self) (Nat.not_lt_zero _)
  | n + 1, l, hn, h => by
    by_cases hm : n ∈ l
    · have h1 := nodup_bound n (hn.erase n) fun x hx => by
        have h2 := (List.Nodup.mem_erase_iff hn).mp hx
        have := h x h2.2
        omega
      have h3 := List.length_erase_of_mem hm
      omega
    · have h1 := nodup_bound n hn fun x hx => by
        have := h x hx
        have h2 : x ≠ n := fun e => hm (e ▸ hx)
        omega
      omega
theorem sv_bound {ms : List Nat} {i : Nat} {U : List Int} (h : SV ms i U) (hi : i ≤ 5) {x : Int} (hx : x ∈ U) : 0 ≤ x ∧ x < 63 := by
  obtain ⟨m, rfl, hm⟩ := (h.2 x).mp hx
  have := pop63 m (used_lt hm) (Nat.le_trans (used_pop hm) hi)
  omega
theorem sv_len {ms : List Nat} {i : Nat} {U : List Int} (h : SV ms i U) (hi : i ≤ 5) : U.length ≤ 63 := by
  have e : (U.map Int.toNat).length = U.length := List.length_map ..
  rw [← e]
  refine nodup_bound 63 ?_ fun x hx => ?_
  · refine List.pairwise_map.mpr (h.1.imp_of_mem fun ha hb hne e => hne ?_)
    have h1 := (sv_bound h hi ha).1
    have h2 := (sv_bound h hi hb).1
    omega
  · obtain ⟨y, hy, rfl⟩ := List.mem_map.mp hx
    have := sv_bound h hi hy
    omega
theorem popI_nat : ∀ m : Nat, m < 64 → popI (m : Int) = (pop m : Int) := by decide +kernel
end Mine
end
section
open PySem PySem.W PyProof.Rows PySem.Calls
set_option maxRecDepth 100000
namespace Mine
noncomputable def SameS (s s' : Shared) : Prop := s'.gens = s.gens ∧ s'.os = s.os
theorem SameS.refl (s : Shared) : SameS s s := ⟨rfl, rfl⟩
theorem SameS.trans {a b c : Shared} (x : SameS a b) (y : SameS b c) : SameS a c := ⟨y.1.trans x.1, y.2.trans x.2⟩
section
variable {prog : Program} {w : World} {A : Around} {E : Value → Shared → Prop} {env : Env} {h₀ : Heap} {Q : Flow → Shared → Prop}
noncomputable def EndD (s : Shared) (h₀ : Heap) (L : Addr) (own : Addr × Obj) (J : (Str → Option Value) → List (Addr × Obj) → Prop) (Q : Flow → Shared → Prop) (f : Flow) (s₃ : Shared) : Prop := match f with
  | .ret v => Q (.ret v) s₃
  | .brk => Q .next s₃
  | _ => ∃ s3 h tk m news, SameS s s3 ∧ s₃ = { s3 with heap := h, toks := tk } ∧ Fr h₀ L h m ∧ News h₀ L h (own :: news) ∧ (∀ p ∈ news, own.1 ≠ p.1) ∧ J m news
theorem loop_mineD {x : Str} {px : Pos} {body orelse : List Stmt} {I : Addr} {fp : List Addr} {n : Nat} {P : Nat → Value → Prop} {St : Nat → Heap → Prop} (s : Shared) (W : Walks prog w A I fp [I] n P St) (hI : ∀ i h, St i h → ∃ o, h.get? I = some o)
    (need : List (Addr × Obj)) (hfp : ∀ b ∈ fp, b ≠ I → (∃ o, h₀.get? b = some o) ∨ ∃ o, (b, o) ∈ need) (J : Nat → (Str → Option Value) → List (Addr × Obj) → Prop) (hneed : ∀ i m news, J i m news → ∀ p ∈ need, p ∈ news)
    (hIL : I ≠ env.locals) (hnew : h₀.get? I = none) {m : Str → Option Value} {news : List (Addr × Obj)} {h : Heap} {tk : Tok} (hst : St 0 h) (F : Fr h₀ env.locals h m) (N : News h₀ env.locals h news) (hoff : ∀ p ∈ news, I ≠ p.1) (h0 : J 0 m news)
    (turn : ∀ s2 i v oI m₁ news₁ h tk, SameS s s2 → i < n → P i v → J i m₁ news₁ → Fr h₀ env.locals h m₁ → News h₀ env.locals h ((I, oI) :: news₁) → (∀ p ∈ news₁, I ≠ p.1) →
      wpAny (model prog w) A (storeName env x v) (fun _ s₂ => wpAny (model prog w) A (execs body env) (EndD s h₀ env.locals (I, oI) (J (i + 1)) Q) (fun _ _ => False) s₂) (fun _ _ => False) { s2 with heap := h, toks := tk })
    (done : ∀ s2 m₁ news₁ h tk, SameS s s2 → J n m₁ news₁ → Fr h₀ env.locals h m₁ → News h₀ env.locals h news₁ → wpAny (model prog w) A (execs orelse env) Q (fun _ _ => False) { s2 with heap := h, toks := tk }) :
    codeAny (model prog w) A (.forLoop (.Name x px) (.ref I) body orelse env) (fun r s' => match r with | .ok f => Q f s' | .error e => E e s') { s with heap := h, toks := tk } := by
  refine codeAny_forLoop (fun k s' => ∃ s2 h' tk m' news' i, SameS s s2 ∧ s' = { s2 with heap := h', toks := tk } ∧ St i h' ∧ Fr h₀ env.locals h' m' ∧ News h₀ env.locals h' news' ∧ (∀ p ∈ news', I ≠ p.1) ∧ J i m' news' ∧ i ≤ n ∧ k = n + 1 - i) ?_ (n + 1)
    ⟨s, h, tk, m, news, 0, SameS.refl s, rfl, hst, F, N, hoff, h0, Nat.zero_le _, rfl⟩
  rintro k s' ⟨s2, h', tk, m', news', i, hs2, rfl, hst', F', N', hoff', hJ, hi, rfl⟩
  have next : ∀ h₁ : Heap, (∀ b o, b ∉ [I] → h'.get? b = some o → h₁.get? b = some o) → Fr h₀ env.locals h₁ m' ∧ News h₀ env.locals h₁ news' := fun h₁ hk₁ => by
    have nI : ∀ b, b ≠ I → b ∉ [I] := fun b hb hm => hb (List.mem_singleton.mp hm)
    refine ⟨⟨F'.ns.at' fun o e => hk₁ _ o (nI _ (Ne.symm hIL)) e, fun b o e => hk₁ b o (nI _ fun q => ?_) (F'.keep b o e), F'.above⟩, fun p hp => ⟨hk₁ _ _ (nI _ (Ne.symm (hoff' p hp))) (N' p hp).1, (N' p hp).2⟩⟩
    rw [q, hnew] at e
    cases e
  by_cases hlt : i < n
  · refine W.item i _ _ _ hlt hst' fun v h₁ tk₁ hP hst₁ hk₁ => ?_
    obtain ⟨F₁, N₁⟩ := next h₁ hk₁
    obtain ⟨oI, hoI⟩ := hI _ _ hst₁
    have N₁' : News h₀ env.locals h₁ ((I, oI) :: news') := fun p hp => by
      rcases List.mem_cons.mp hp with rfl | hp
      · exact ⟨hoI, hIL, hnew⟩
      · exact N₁ p hp
    refine wpAny_assign_Name (wpAny_mono (turn s2 i v oI m' news' h₁ tk₁ hs2 hlt hP hJ F₁ N₁' hoff') (fun _ s₂ h₂ => wpAny_mono h₂ (fun f s₃ h₃ => ?_) fun _ _ e => e.elim) fun _ _ e => e.elim)
    have fin : (∃ s3 h tk m news, SameS s s3 ∧ s₃ = { s3 with heap := h, toks := tk } ∧ Fr h₀ env.locals h m ∧ News h₀ env.locals h ((I, oI) :: news) ∧ (∀ p ∈ news, I ≠ p.1) ∧ J (i + 1) m news) →
        ∃ k, k < n + 1 - i ∧ ∃ s2 h' tk m' news' i, SameS s s2 ∧ s₃ = { s2 with heap := h', toks := tk } ∧ St i h' ∧ Fr h₀ env.locals h' m' ∧ News h₀ env.locals h' news' ∧ (∀ p ∈ news', I ≠ p.1) ∧ J i m' news' ∧ i ≤ n ∧ k = n + 1 - i := by
      rintro ⟨s3, h₃', tk₃, m₃, news₃, hs3, rfl, F₃, N₃, off₃, J₃⟩
      refine ⟨n + 1 - (i + 1), by omega, s3, h₃', tk₃, m₃, news₃, i + 1, hs3, rfl, W.frame _ _ _ hst₁ fun b hb o e => ?_, F₃, fun p hp => N₃ p (List.mem_cons_of_mem _ hp), off₃, J₃, hlt, rfl⟩
      by_cases hbI : b = I
      · subst hbI
        rw [hoI] at e
        cases e
        exact (N₃ _ List.mem_cons_self).1
      · rcases hfp b hb hbI with ⟨o', ho'⟩ | ⟨o', ho'⟩
        · have := F₁.keep b o' ho'
          rw [e] at this
          cases this
          exact F₃.keep b o ho'
        · have := (N₁ _ (hneed _ _ _ hJ _ ho')).1
          rw [e] at this
          cases this
          exact (N₃ _ (List.mem_cons_of_mem _ (hneed _ _ _ J₃ _ ho'))).1
    cases f with
    | ret v => exact h₃
    | brk => exact h₃
    | cont => exact fin h₃
    | next => exact fin h₃
  · have hin : i = n := by omega
    subst hin
    refine W.done _ _ _ hst' fun h₁ tk₁ hk₁ => ?_
    obtain ⟨F₁, N₁⟩ := next h₁ hk₁
    exact wpAny_mono (done s2 m' news' h₁ tk₁ hs2 hJ F₁ N₁) (fun _ _ e => e) fun _ _ e => e.elim
theorem list_mineD {x : Str} {px : Pos} {body orelse : List Stmt} {l : Addr} {vs : Array Value} {s : Shared} {m : Str → Option Value} {news : List (Addr × Obj)} (J : Nat → (Str → Option Value) → List (Addr × Obj) → Prop)
    (hh : A.handled = none) (hl : h₀.IsList l vs) (F : Fr h₀ env.locals s.heap m) (N : News h₀ env.locals s.heap news) (h0 : J 0 m news)
    (turn : ∀ s2 i v I oI m₁ news₁ h tk, SameS s s2 → vs[i]? = some v → J i m₁ news₁ → Fr h₀ env.locals h m₁ → News h₀ env.locals h ((I, oI) :: news₁) → (∀ p ∈ news₁, I ≠ p.1) →
      wpAny (model prog w) A (storeName env x v) (fun _ s₂ => wpAny (model prog w) A (execs body env) (EndD s h₀ env.locals (I, oI) (J (i + 1)) Q) (fun _ _ => False) s₂) (fun _ _ => False) { s2 with heap := h, toks := tk })
    (done : ∀ s2 m₁ news₁ h tk, SameS s s2 → J vs.size m₁ news₁ → Fr h₀ env.locals h m₁ → News h₀ env.locals h news₁ → wpAny (model prog w) A (execs orelse env) Q (fun _ _ => False) { s2 with heap := h, toks := tk }) :
    wpAny (model prog w) A (pyIter (.ref l)) (fun it s₂ => codeAny (model prog w) A (.forLoop (.Name x px) it body orelse env) (fun r s' => match r with | .ok f => Q f s' | .error e => cameBackBy (model prog w) A env E e s') s₂) E s := by
  have hls : s.heap.IsList l vs := hl.at fun o e => F.keep l o e
  obtain ⟨ol, hol, _⟩ := id hl
  have hlt : l < h₀.objs.size := Heap.lt_size hol
  have hne : l ≠ s.heap.objs.size := Nat.ne_of_lt (Nat.lt_trans (Nat.lt_of_lt_of_le hlt F.above) F.ns.lt)
  refine wpAny_pyIter_list hls ?_
  have W := Walks.list (prog := prog) (w := w) hh s.heap.objs.size l hne vs
  refine loop_mineD { s with heap := s.heap.push { cls := .type "list_iterator", data := .fields #[.ref l, .int 0 0] } } W (fun i h st => let ⟨o, ho, _⟩ := st.1; ⟨o, ho⟩) [] (fun b hb hbI => ?_) J (fun _ _ _ _ _ hp => nomatch hp) (fun e => absurd F.ns.lt (e ▸ Nat.lt_irrefl _)) (next_is_new F)
    ⟨⟨_, Heap.get?_push_size _ rfl, rfl, rfl⟩, hls.at fun o e => Heap.get?_push_of_some _ e⟩ (F.push _) (fun p hp => ⟨Heap.get?_push_of_some _ (N p hp).1, (N p hp).2⟩)
    (fun p hp hI => absurd (Heap.lt_size (N p hp).1) (hI ▸ Nat.lt_irrefl _)) h0 (fun s2 i v oI m₁ news₁ h tk hs hi hP hJ F₁ N₁ off => turn s2 i v _ oI m₁ news₁ h tk hs hP hJ F₁ N₁ off) (fun s2 m₁ news₁ h tk hs => done s2 m₁ news₁ h tk hs)
  rcases List.mem_cons.mp hb with e | hb
  · exact absurd e hbI
  · exact .inl ⟨ol, (List.mem_singleton.mp hb) ▸ hol⟩
end
end Mine
end
section
local macro_rules | `(tactic| walk_at "zz idle") => `(tactic| skip)
open PySem PySem.W PyProof.Rows PySem.Calls
set_option maxRecDepth 100000
namespace Mine
noncomputable def PSpecX (w : World) (f : Addr) (vs : List Value) (pre : Heap → Prop) (post : Value → Heap → Prop) : Prop :=
  ∀ (dp un : Nat) (fr : Option (List Env)) (gd : Option (List Code)) (s : Shared) (Q E : Value → Shared → Prop),
    Amb w s.heap → pre s.heap → dp + 16 < recursionLimit → un + 96 < cLine →
    (∀ s2 v h' tk', SameS s s2 → (∀ b o, s.heap.get? b = some o → h'.get? b = some o) → post v h' → Q v { s2 with heap := h', toks := tk' }) →
    wpAny (model PySem.Challenge.rw_sr0008_01.prog w) (AR dp un fr gd) (call (.ref f) vs) Q E s
noncomputable def JS (ms : List Nat) (cL : Addr) (i : Nat) (m : Str → Option Value) (news : List (Addr × Obj)) : Prop :=
  ∃ (m0 : Str → Option Value) (D : Addr) (us : List Value) (U : List Int) (c : Nat) (o1 : Obj) (v : Option Value), m = (fun y => if y = Str.ofString "used" then some (.ref D) else m0 y) ∧ news = [(D, W.listOf us.toArray c), (cL, o1)] ∧ o1.data = .cell v ∧ D ≠ cL ∧ IntsAre us U ∧ SV ms i U
theorem used_zero (ms : List Nat) : ∀ j, Used ms j 0
  | 0 => rfl
  | j + 1 => .inl (used_zero ms j)
theorem call_bits {w : World} {k : Int} {tk : Tok} {dp un : Nat} {fr : Option (List Env)} {gd : Option (List Code)} {env : Env} {s : Shared} {Q E : Value → Shared → Prop} {h₀ : Heap} {L : Addr} {m : Str → Option Value} {news : List (Addr × Obj)} {mean : ExcName → Option Value} {mg mb : Str → Option Value}
    (F : Fr h₀ L s.heap m) (X : (KF w.params).In h₀) (T : Top qv (looseW qv loose) mean mg mb h₀) (N : News h₀ L s.heap news) {U : List Int} (hk : k ∈ U) (hub : ∀ u ∈ U, 0 ≤ u ∧ u < 64) (hd : dp + 16 < recursionLimit) (hu : un + 96 < cLine)
    (h : ∀ t h' tk', Fr h₀ L h' m → News h₀ L h' news → Q (.int (popI k) t) { s with heap := h', toks := tk' }) :
    wpAny (model PySem.Challenge.rw_sr0008_01.prog w) ((AR dp un fr gd).deeper env) (call (.ref (nat_lit 187)) [.int k tk]) Q E s :=
  PSpec.use (dp := dp + 1) (bits_spec w k (hub k hk).1 (hub k hk).2 tk) F X T N trivial (by omega) (by show un + 3 + 64 < cLine; omega) fun v h' tk' F' N' _ hp => by obtain ⟨t, rfl⟩ := hp; exact h t h' tk' F' N'
local macro_rules | `(tactic| walk_at "call ref") => `(tactic| with_unfolding_all refine call_bits (by with_reducible assumption) (by with_reducible assumption) (by with_reducible assumption) (by with_reducible assumption) (by with_reducible assumption) (by with_reducible assumption) (by with_reducible assumption) (by with_reducible assumption) (fun t' h' tk' F' N' => ?_))
local macro_rules | `(tactic| walk_at "exec For Name Name cons nil") => `(tactic| with_unfolding_all refine For_mine ?_)
set_option maxHeartbeats 8000000 in
theorem served_spec (w : World) (l : Addr) (vs : List Value) (ms : List Nat) (hI : IntsAre vs (ms.map fun (m : Nat) => (m : Int))) (hlen : ms.length = 5) (hb : ∀ m ∈ ms, m < 64) : PSpecX w 192 [.ref l] (fun h => h.IsList l vs.toArray) (fun v _ => ∃ t, v = .int (5 - wantTo ms 31) t) := by
  unfold PSpecX Amb
  k_fill
  intro dp un fr gd s Q E hA hpre hd hu hret
  refine enterC 30 191 (binds := [("masks", .ref l)]) hA (by omega) rfl rfl rfl (by intro y hy; obtain rfl := List.mem_singleton.mp hy; first | exact .inl rfl | exact .inr ⟨rfl, rfl⟩) (by decide +kernel) rfl rfl rfl ?_
  intro mean mg mb g h₁ L tk' cells hg X T F N Y
  obtain ⟨o', hE', d1'⟩ := CellsAre.one Y
  subst hE'
  clear Y
  have hpre2 : g.IsList l vs.toArray := hg ▸ hpre
  k_steps
  (with_reducible rename Fr _ _ _ _ => kF)
  (with_reducible rename News _ _ _ _ => kN)
  refine list_mineD (JS ms (L + 1)) rfl hpre2 kF kN ?_ ?_ ?_
  · rename_i l1 _
    exact ⟨_, _, _, [0], _, _, _, rfl, rfl, d1', Nat.ne_of_gt l1, .cons _ _ .nil, sv_zero ms⟩
  · rintro s2 i v I oI _ _ h2 tk2 hs2 hv ⟨m0, D, us, U, c, o1, v1, rfl, rfl, hd1, hne, hU, hSV⟩ F2 N2 off
    have off1 : I ≠ D := off _ List.mem_cons_self
    have off2 : I ≠ L + 1 := off _ (List.mem_cons_of_mem _ List.mem_cons_self)
    obtain ⟨x, t, rfl, hx⟩ := IntsAre.at hI i v (by simpa using hv)
    have hi5 : i < 5 := by
      have := (List.getElem?_eq_some_iff.mp hx).1
      rw [List.length_map, hlen] at this
      exact this
    have hlu : U.length ≤ 63 := sv_len hSV (Nat.le_of_lt hi5)
    k_steps
    (with_reducible rename Fr _ _ _ _ => kF)
    (with_reducible rename News _ _ _ _ => kN)
    (with_reducible rename _ = Data.cell (some (Value.int x t)) => kD)
    refine more_assign (test := stest x) (val := sval) (U := U) (vs := us) (ax := D) rfl rfl (by with_unfolding_all rfl) (by with_unfolding_all rfl) (by decide) rfl (by decide) rfl rfl (by decide) rfl rfl kF kN (.inr ⟨_, List.mem_cons_of_mem _ List.mem_cons_self, rfl, _, rfl⟩) hU (Nat.le_succ_of_le hlu) ?_ ?_ ?_ ?_ ?_ (by intro _; rfl) (by intro _ _; rfl)
    · intro Q' hq
      k_steps
      exact hq
    · intro u tu I C D oI oC m₂ ys h tk E' hC hm F' N'
      dsimp only
      k_steps
      (with_reducible rename Fr _ _ _ _ => kF)
      (with_reducible rename News _ _ _ _ => kN)
      exact ⟨_, _, rfl, kF, fun p hp => kN p (by first | exact hp | exact List.mem_cons_of_mem _ hp | exact List.mem_cons_of_mem _ (List.mem_cons_of_mem _ hp))⟩
    · intro u k tu tk0 I C D I2 oI2 oI oC m₂ ys h tk E' huU hk0 hk6 hC hm1 hm2 F' N'
      dsimp only
      k_steps
      · rename_i a1 a2
        simp [stest, a1, a2]
      · exact ⟨_, _, rfl, by assumption, by assumption⟩
      · rename_i a1 a2
        simp [stest, a1, a2]
      · exact ⟨_, _, rfl, by assumption, by assumption⟩
      · rename_i a1
        simp [stest, a1]
      · exact ⟨_, _, rfl, by assumption, by assumption⟩
    · intro u k tu tk0 I C D I2 oI2 oI oC m₂ ys h tk E' huU hk0 hk6 hC hm1 hm2 F' N'
      dsimp only
      k_steps
      exact ⟨_, _, rfl, by assumption, by assumption⟩
    · intro D2 h tk ys F' N' off' hys hyl
      generalize hMe : moreL (stest x) sval U = M at hys
      have hlm : M.length ≤ 384 := by rw [← IntsAre.length hys]; exact hyl
      have ne1 : D ≠ D2 := off' _ (List.mem_cons_of_mem _ List.mem_cons_self)
      have ne2 : L + 1 ≠ D2 := off' _ (List.mem_cons_of_mem _ (List.mem_cons_of_mem _ List.mem_cons_self))
      have ne3 : I ≠ D2 := off' _ List.mem_cons_self
      dsimp only
      k_steps
      rename_i Dn ws hn Fn Nn hIn ltn
      refine set_of_list (ns := U ++ M) rfl ⟨_, (Nn _ List.mem_cons_self).1, rfl, _, rfl⟩ (by simpa using hIn) (by rw [List.size_toArray, IntsAre.length hIn, List.length_append]; unfold scanBound; omega) ?_
      intro h5 tk5 es hSL hHo k5
      have F5 := Fn.keeps k5
      have N5 := Nn.grown k5
      dsimp only
      k_steps
      have hlen5 : (U ++ M).length = ws.toArray.size := by rw [List.size_toArray, IntsAre.length hIn]
      have hmem : ∀ x, x ∈ es.map keyI ↔ x ∈ U ++ M := fun y => by
        rw [hHo.mem, List.mem_iff_getElem]
        constructor
        · rintro ⟨j, hj, rfl⟩
          exact ⟨j, hlen5 ▸ hj, by rw [List.getD_eq_getElem?_getD, List.getElem?_eq_getElem (hlen5 ▸ hj)]; rfl⟩
        · rintro ⟨j, hj, rfl⟩
          exact ⟨j, hlen5 ▸ hj, by rw [List.getD_eq_getElem?_getD, List.getElem?_eq_getElem hj]; rfl⟩
      have hx2 : x = ((ms.getD i 0 : Nat) : Int) := by
        rw [List.getElem?_map] at hx
        rw [List.getD_eq_getElem?_getD]
        cases hq : ms[i]? with
        | none => rw [hq] at hx; cases hx
        | some q => rw [hq] at hx; exact (Option.some.inj hx).symm
      have hSV5 : SV ms (i + 1) (es.map keyI) := sv_step hSV hHo.nodup fun y => by rw [hmem, ← hMe, hx2]
      have hel : es.length ≤ 63 := by
        have := sv_len hSV5 hi5
        rwa [List.length_map] at this
      refine sorted_set rfl hSL rfl hHo.isInts (Nat.lt_succ_of_le hel) ?_
      intro h6 d6 tk6 D6 c6 vs6 ns6 k6 lt6 g6 hI6 p6
      have F6 := F5.keeps k6
      have N6 := N5.grown k6
      have hSV6 : SV ms (i + 1) ns6 := ⟨p6.nodup_iff.mpr hSV5.1, fun y => by rw [p6.mem_iff]; exact hSV5.2 y⟩
      obtain ⟨s6, e1, e2, e3⟩ : ∃ s6 : Shared, s6.gens = s2.gens ∧ s6.drawn = d6 ∧ s6.os = s2.os := ⟨{ s2 with drawn := d6 }, rfl, rfl, rfl⟩
      have lt1 : I < D6 := lt6 _ _ (N5 (I, oI) (by simp)).1
      have lt2 : L + 1 < D6 := lt6 _ _ (N5 _ (List.mem_cons_of_mem _ (List.mem_cons_of_mem _ (List.mem_cons_of_mem _ (List.mem_cons_of_mem _ List.mem_cons_self))))).1
      have N7 : News g L h6 [(D6, W.listOf vs6.toArray c6), (I, oI), (L + 1, _)] := fun p hp => by
        rcases List.mem_cons.mp hp with rfl | hp
        · refine ⟨g6, ?_, ?_⟩
          · obtain ⟨oL, _, _, hoL, _⟩ := F5.ns
            exact Nat.ne_of_gt (lt6 _ _ hoL)
          · cases hq : g.get? D6 with
            | none => rfl
            | some o9 => exact absurd (lt6 _ _ (F5.keep _ _ hq)) (Nat.lt_irrefl _)
        · rcases List.mem_cons.mp hp with rfl | hp
          · exact N6 _ (List.mem_cons_of_mem _ (List.mem_cons_of_mem _ List.mem_cons_self))
          · rcases List.mem_cons.mp hp with rfl | hp
            · exact N6 _ (List.mem_cons_of_mem _ (List.mem_cons_of_mem _ (List.mem_cons_of_mem _ (List.mem_cons_of_mem _ List.mem_cons_self))))
            · cases hp
      clear N6 N5 Nn F5 Fn
      dsimp only
      rw [← e1, ← e2, ← e3]
      k_steps
      (with_reducible rename Fr _ _ _ _ => kF)
      (with_reducible rename News _ _ _ _ => kN)
      refine ⟨s6, _, _, _, [(D6, W.listOf vs6.toArray c6), (L + 1, _)], ⟨e1.trans hs2.1, e3.trans hs2.2⟩, rfl, kF, fun p hp => ?_, fun p hp => ?_, ⟨_, D6, vs6, ns6, c6, _, _, rfl, rfl, kD, Nat.ne_of_gt lt2, hI6, hSV6⟩⟩
      · rcases List.mem_cons.mp hp with rfl | hp
        · exact kN _ (List.mem_cons_of_mem _ List.mem_cons_self)
        · rcases List.mem_cons.mp hp with rfl | hp
          · exact kN _ List.mem_cons_self
          · rcases List.mem_cons.mp hp with rfl | hp
            · exact kN _ (List.mem_cons_of_mem _ (List.mem_cons_of_mem _ List.mem_cons_self))
            · cases hp
      · rcases List.mem_cons.mp hp with rfl | hp
        · exact Nat.ne_of_lt lt1
        · rcases List.mem_cons.mp hp with rfl | hp
          · exact off2
          · cases hp
  · intro s2 m₁ news₁ h2 tk2 hs2 hJ F2 N2
    obtain ⟨m0, D, us, U, c, o1, v1, rfl, rfl, hd1, hne, hU, hSV⟩ := hJ
    have hUl : U.length ≤ 63 := sv_len hSV (by rw [List.size_toArray, IntsAre.length hI, List.length_map, hlen]; exact Nat.le_refl _)
    have hub : ∀ u ∈ U, 0 ≤ u ∧ u < 64 := fun u hu' => by
      have := sv_bound hSV (by rw [List.size_toArray, IntsAre.length hI, List.length_map, hlen]; exact Nat.le_refl _) hu'
      omega
    k_steps
    rename_i gq ys hI8 hL8 Dq hq tkq Fq Nq oq
    have hpos : 0 < (U.map popI).length := by
      have : (0 : Int) ∈ U := (hSV.2 0).mpr ⟨0, rfl, used_zero ms _⟩
      rw [List.length_map]
      exact List.length_pos_of_mem this
    refine kso_max Fq Nq (vs := ys) (ns := U.map popI) ⟨_, (Nq _ List.mem_cons_self).1, rfl, _, rfl⟩ hI8 hpos rfl ?_
    intro h' M t' tk' F' N' hM1 hM2
    have hsz : vs.toArray.size = 5 := by rw [List.size_toArray, IntsAre.length hI, List.length_map, hlen]
    obtain ⟨u, hu, rfl⟩ := List.mem_map.mp hM1
    obtain ⟨mu, rfl, hmu⟩ := (hSV.2 u).mp hu
    rw [hsz] at hmu hSV
    have e := served_want hb (pop mu) ⟨mu, hmu, rfl⟩ fun m' hm' => by
      have := hM2 (popI (m' : Int)) (List.mem_map.mpr ⟨_, (hSV.2 _).mpr ⟨m', rfl, hm'⟩, rfl⟩)
      rw [popI_nat _ (used_lt hm'), popI_nat _ (used_lt hmu)] at this
      exact_mod_cast this
    refine hret s2 _ _ _ ⟨hs2.1, hs2.2⟩ (fun b o hb => F'.keep b o (hg ▸ hb)) ⟨t', ?_⟩
    rw [popI_nat _ (used_lt hmu), e]
end Mine
end
section
open PySem PySem.W PyProof.Rows PySem.Calls
set_option maxRecDepth 100000
namespace Mine
noncomputable def lawB (a b : Nat) : List Stmt := ((fnB (stN 32)).drop a).take b
noncomputable abbrev lawE (L : Addr) : Env := envOfC (Str.ofString "law") (fnS (stN 32)) L 204 (Value.ref 203)
noncomputable def Stop (p : Prop) : Prop := p
theorem stop_intro {p : Prop} (h : Stop p) : p := h
set_option maxHeartbeats 8000000 in
theorem law_A0 (w : World) (dp un : Nat) (fr : Option (List Env)) (gd : Option (List Code)) (s : Shared) (Q : Flow → Shared → Prop) (g h₁ : Heap) (L : Addr) (mean : ExcName → Option Value) (mg mb : Str → Option Value) (X : (KF w.params).In g) (T : Top qv (looseW qv loose) mean mg mb g)
   (hd : dp + 32 < recursionLimit) (hu : un + 128 < cLine) (l : Addr)
   (m0 : Str → Option Value) (o1 o2 o3 o4 o5 o6 : Obj) (tk : Tok) (F : Fr g L h₁ (fun y => if y = Str.ofString "script" then some (.ref l) else m0 y)) (N : News g L h₁ [(L + 1, o1), (L + 2, o2), (L + 3, o3), (L + 4, o4), (L + 5, o5), (L + 6, o6)])
   (hQ : ∀ h' tk' aF cF fv fx m', Fr g L h' m' → m' (Str.ofString "script") = some (.ref l) → m' (Str.ofString "fixed") = some (.ref aF) → News g L h' [(aF, W.listOf (List.toArray fv) cF), (L + 1, o1), (L + 2, o2), (L + 3, o3), (L + 4, o4), (L + 5, o5), (L + 6, o6)] → IntsAre fv fx → fx.length = 15 → (∀ x ∈ fx, 0 ≤ x ∧ x < 1000000) → Q .next { s with heap := h', toks := tk' }) :
   wpAny (model PySem.Challenge.rw_sr0008_01.prog w) ((AR dp un fr gd).deeper (lawE L)) (execs (lawB 0 1) (lawE L)) Q (fun _ _ => False) { s with heap := h₁, toks := tk } := by
  revert X T
  k_fill
  intro X T
  k_steps
  all_goals (try (show wpAny _ _ (execs [] _) _ _ _; refine wpAny_pure ?_))
  (with_reducible rename Fr _ _ _ _ => kF)
  (with_reducible rename News _ _ _ _ => kN)
  exact hQ _ _ _ 0 [.int 6 _, .int 0 _, .int 45 _, .int 7 _, .int 16 _, .int 99 _, .int 1 _, .int 9 _, .int 8 _, .int 3 _, .int 31 _, .int 6 _, .int 17 _, .int 7 _, .int 6 _] [6, 0, 45, 7, 16, 99, 1, 9, 8, 3, 31, 6, 17, 7, 6] _ kF (by with_unfolding_all rfl) (by with_unfolding_all rfl) kN (.cons _ _ (.cons _ _ (.cons _ _ (.cons _ _ (.cons _ _ (.cons _ _ (.cons _ _ (.cons _ _ (.cons _ _ (.cons _ _ (.cons _ _ (.cons _ _ (.cons _ _ (.cons _ _ (.cons _ _ .nil))))))))))))))) rfl (by decide)
section
local macro_rules | `(tactic| walk_at "call builtin:len") => `(tactic| ((with_reducible show wpAny _ _ (call (Value.builtin _) [Value.ref _]) _ _ _); with_unfolding_all refine stop_intro ?_))
local macro_rules | `(tactic| walk_at "subscriptTail Name Slice ref ref") => `(tactic| ((with_reducible show wpAny _ _ (subscriptTail _ (PySem.Expr.Slice (some _) _ none _) (Value.ref _) (Value.ref _)) _ _ _); with_unfolding_all refine stop_intro ?_))
theorem min15 (n : Nat) : min 15 n + (15 - min 15 n) = 15 := by omega
set_option maxHeartbeats 8000000 in
theorem law_A1 (w : World) (dp un : Nat) (fr : Option (List Env)) (gd : Option (List Code)) (s : Shared) (Q : Flow → Shared → Prop) (g h₁ : Heap) (L : Addr) (mean : ExcName → Option Value) (mg mb : Str → Option Value) (X : (KF w.params).In g) (T : Top qv (looseW qv loose) mean mg mb g)
   (hd : dp + 32 < recursionLimit) (hu : un + 128 < cLine) (l : Addr) (vs : List Value) (ns : List Int) (hI : IntsAre vs ns) (hlen : ns.length ≤ 63) (hpre2 : g.IsList l vs.toArray)
   (m0 : Str → Option Value) (o1 o2 o3 o4 o5 o6 : Obj) (tk : Tok) (aF : Addr) (cF : Nat) (fv : List Value) (fx : List Int) (hF : IntsAre fv fx) (hfx : fx.length = 15) (hfb : ∀ x ∈ fx, 0 ≤ x ∧ x < 1000000) (F : Fr g L h₁ (fun y => if y = Str.ofString "script" then some (.ref l) else if y = Str.ofString "fixed" then some (.ref aF) else m0 y)) (N : News g L h₁ [(aF, W.listOf fv.toArray cF), (L + 1, o1), (L + 2, o2), (L + 3, o3), (L + 4, o4), (L + 5, o5), (L + 6, o6)])
   (hQ : ∀ h' tk' aN cN nv NS m', Fr g L h' m' → m' (Str.ofString "nums") = some (.ref aN) → News g L h' [(aN, W.listOf (List.toArray nv) cN), (L + 1, o1), (L + 2, o2), (L + 3, o3), (L + 4, o4), (L + 5, o5), (L + 6, o6)] → LCg.Off1 aN [(L + 1, o1), (L + 2, o2), (L + 3, o3), (L + 4, o4), (L + 5, o5), (L + 6, o6)] → IntsAre nv NS → NS.length = 15 → (∀ x ∈ NS, 0 ≤ x ∧ x < 1000000) → Q .next { s with heap := h', toks := tk' }) :
   wpAny (model PySem.Challenge.rw_sr0008_01.prog w) ((AR dp un fr gd).deeper (lawE L)) (execs (lawB 1 1) (lawE L)) Q (fun _ _ => False) { s with heap := h₁, toks := tk } := by
  revert X T
  k_fill
  intro X T
  k_steps
  unfold Stop
  (with_reducible rename Fr _ _ _ _ => kF)
  (with_reducible rename News _ _ _ _ => kN)
  refine' len_ints_fit ⟨_, (kN _ List.mem_cons_self).1, rfl, _, rfl⟩ (by assumption) (by omega) ?_
  dsimp only
  k_steps
  unfold Stop
  refine kmk_slice_ints kF kN (News.isList kN (by k_mem)) (IsPart.int _ _) IsPart.none hF (kmk_from hF (Int.natCast_nonneg _)) (List.length_drop ..) ?_ (by with_unfolding_all rfl) (by intro _; with_unfolding_all rfl) (by rw [List.size_toArray, hF.length, hfx, sizeLine_eq]; decide)
  intro D9 ws9 h9 F9 N9 l9 hI9 hC9 hL9
  dsimp only
  k_steps
  all_goals (try (show wpAny _ _ (execs [] _) _ _ _; refine wpAny_pure ?_))
  (with_reducible rename Fr _ _ _ _ => kF)
  (with_reducible rename News _ _ _ _ => kN)
  (with_reducible rename IntsAre _ (_ ++ _) => kI)
  refine hQ _ _ _ 0 _ _ _ kF (by with_unfolding_all rfl) (fun p hp => kN p ?_) ?_ kI ?_ ?_
  · simp only [List.mem_cons, List.not_mem_nil, or_false] at hp ⊢
    rcases hp with rfl | rfl | rfl | rfl | rfl | rfl | rfl <;> simp
  · simp only [LCg.Off1, and_true]
    omega
  · simp only [List.length_append, List.length_map, List.length_take, List.length_drop, hfx]
    first | exact min15 _ | (clear kN kF; omega)
  · intro x hx
    rcases List.mem_append.mp hx with h | h
    · obtain ⟨y, _, rfl⟩ := List.mem_map.mp h
      exact ⟨Int.fmod_nonneg_of_pos _ (by decide), Int.fmod_lt_of_pos _ (by decide)⟩
    · exact hfb x (List.mem_of_mem_drop h)
end
end Mine
end
section
local macro_rules | `(tactic| walk_at "zz idle") => `(tactic| skip)
open PySem PySem.W PyProof.Rows PySem.Calls
set_option maxRecDepth 100000
namespace Mine
theorem call_sign {w : World} {k : Int} {tk : Tok} {dp un : Nat} {fr : Option (List Env)} {gd : Option (List Code)} {env : Env} {s : Shared} {Q E : Value → Shared → Prop} {h₀ : Heap} {L : Addr} {m : Str → Option Value} {news : List (Addr × Obj)} {mean : ExcName → Option Value} {mg mb : Str → Option Value}
    (F : Fr h₀ L s.heap m) (X : (KF w.params).In h₀) (T : Top qv (looseW qv loose) mean mg mb h₀) (N : News h₀ L s.heap news) {NS : List Int} (hk : k ∈ NS) (hb : ∀ x ∈ NS, 0 ≤ x ∧ x < 1000000) (hd : dp + 32 < recursionLimit) (hu : un + 128 < cLine)
    (h : ∀ t h' tk', Fr h₀ L h' m → News h₀ L h' news → Q (.str ⟨#[signOf k]⟩ t) { s with heap := h', toks := tk' }) :
    wpAny (model PySem.Challenge.rw_sr0008_01.prog w) ((AR dp un fr gd).deeper env) (call (.ref (nat_lit 168)) [.int k tk]) Q E s :=
  PSpec.use (dp := dp + 1) (sign_spec w k (hb k hk).1 (hb k hk).2 tk) F X T N trivial (by omega) (by show un + 3 + 64 < cLine; omega) fun v h' tk' F' N' _ hp => by obtain ⟨t, rfl⟩ := hp; exact h t h' tk' F' N'
section
local macro_rules | `(tactic| walk_at "call ref") => `(tactic| with_unfolding_all refine stop_intro ?_)
local macro_rules | `(tactic| walk_at "CompSrc") => `(tactic| with_unfolding_all refine stop_intro ?_)
set_option maxHeartbeats 8000000 in
theorem law_A2 (w : World) (dp un : Nat) (fr : Option (List Env)) (gd : Option (List Code)) (s : Shared) (Q : Flow → Shared → Prop) (g h₁ : Heap) (L : Addr) (mean : ExcName → Option Value) (mg mb : Str → Option Value) (X : (KF w.params).In g) (T : Top qv (looseW qv loose) mean mg mb g)
   (hd : dp + 32 < recursionLimit) (hu : un + 128 < cLine) (aN : Addr) (cN : Nat) (nv : List Value) (NS : List Int) (hI : IntsAre nv NS) (hlen : NS.length = 15) (hb : ∀ x ∈ NS, 0 ≤ x ∧ x < 1000000)
   (o1 o2 o3 o4 o5 o6 : Obj) (hoff : LCg.Off1 aN [(L + 1, o1), (L + 2, o2), (L + 3, o3), (L + 4, o4), (L + 5, o5), (L + 6, o6)])
   (m : Str → Option Value) (hm1 : m (Str.ofString "nums") = some (.ref aN)) (v1 : Option Value) (hd1 : o1.data = .cell v1) (tk : Tok) (F : Fr g L h₁ m) (N : News g L h₁ [(aN, W.listOf nv.toArray cN), (L + 1, o1), (L + 2, o2), (L + 3, o3), (L + 4, o4), (L + 5, o5), (L + 6, o6)])
   (hQ : ∀ h' tk' aS cS sv o', Fr g L h' m → News g L h' [(aS, W.listOf (List.toArray sv) cS), (aN, W.listOf nv.toArray cN), (L + 1, o'), (L + 2, o2), (L + 3, o3), (L + 4, o4), (L + 5, o5), (L + 6, o6)] → LCg.Off1 aS [(aN, W.listOf nv.toArray cN), (L + 1, o'), (L + 2, o2), (L + 3, o3), (L + 4, o4), (L + 5, o5), (L + 6, o6)] → o'.data = .cell (some (.ref aS)) → StrsAre sv (NS.map fun k => ⟨#[signOf k]⟩) → Q .next { s with heap := h', toks := tk' }) :
   wpAny (model PySem.Challenge.rw_sr0008_01.prog w) ((AR dp un fr gd).deeper (lawE L)) (execs (lawB 2 1) (lawE L)) Q (fun _ _ => False) { s with heap := h₁, toks := tk } := by
  rw [ifs1 hm1] at F
  have q1 : aN ≠ L + 1 := Ne.symm hoff.1
  clear hoff
  revert X T
  k_fill
  intro X T
  k_steps
  unfold Stop
  (with_reducible rename Fr _ _ _ _ => kF)
  (with_reducible rename News _ _ _ _ => kN)
  refine LCg.CompSrc.ledger (its := nv.toArray) (k := cN) (news := [(aN, W.listOf nv.toArray cN), (L + 1, o1), (L + 2, o2), (L + 3, o3), (L + 4, o4), (L + 5, o5), (L + 6, o6)]) ?_ ?_ ?_ ?_ ?_ ?_
  · rfl
  · exact kF
  · exact kN
  · exact List.mem_cons_self
  · rw [List.size_toArray, IntsAre.length hI, sizeLine_eq]; omega
  intro g9
  refine kct_list (fun k => ⟨#[signOf k]⟩) hI (fun k t I oI C oC D' m₂ ys h tk E' hk hC hm F' N' off' ne' hmark => ?_) ?_
  · k_steps
    unfold Stop
    refine call_sign F' X T N' hk hb hd hu ?_
    intro t5 h5 tk5 F5 N5
    try dsimp only
    k_steps
    exact ⟨h5, tk5, _, rfl, F5, fun p hp => N5 p hp, off', .inr ⟨_, List.mem_cons_self, rfl, _, rfl⟩, rfl, t5, rfl⟩
  · intro ys hys hyl
    dsimp only [LCg.FinE]
    intro D h tk F' N' off'
    simp only [LCg.Off1, and_true] at off'
    k_steps
    all_goals (try (show wpAny _ _ (execs [] _) _ _ _; refine wpAny_pure ?_))
    (with_reducible rename Fr _ _ _ _ => kF)
    (with_reducible rename News _ _ _ _ => kN)
    (with_reducible rename _ = Data.cell (some (Value.ref D)) => kD)
    rw [← ifs1 hm1] at kF
    exact hQ _ _ _ _ _ _ kF kN (by simp only [LCg.Off1, and_true]; exact off') kD hys.strsOf
end
end Mine
end
section
local macro_rules | `(tactic| walk_at "zz idle") => `(tactic| skip)
open PySem PySem.W PyProof.Rows PySem.Calls
set_option maxRecDepth 100000
namespace Mine
section
variable {prog : Program} {w : World} {A : Around} {E : Value → Shared → Prop} {s : Shared} {Q : Value → Shared → Prop} {h₀ : Heap} {L l : Addr} {m : Str → Option Value} {news : List (Addr × Obj)} {value slice : PySem.Expr}
theorem pick_run {vs : List Value} {a b : Int} (ha : 0 ≤ a) (hab : a ≤ b) (hb : b.toNat ≤ vs.length) : slicePick vs.toArray (some a) (some b) none = ((vs.drop a.toNat).take (b.toNat - a.toNat)).toArray := by
  have e : sliceBounds (some a) (some b) none vs.toArray.size = (((a.toNat : Nat) : Int), ((b.toNat : Nat) : Int), 1) := by
    simp only [sliceBounds, Option.getD_none, show (1 : Int) > 0 by decide, if_true, if_neg (show ¬ (a < 0) by omega), if_neg (show ¬ (b < 0) by omega), List.size_toArray]
    congr 1
    · omega
    · congr 1
      omega
  rw [kmk_pick_nat _ e]
theorem slice_strs {SL : List Str} {vs : List Value} {a b : Int} {ta tb : Tok} {n : Nat} (F : Fr h₀ L s.heap m) (N : News h₀ L s.heap news) (hm : (l, W.listOf vs.toArray n) ∈ news) (hS : StrsAre vs SL) (ha : 0 ≤ a) (hab : a ≤ b) (hb : b.toNat ≤ SL.length) (hsz : SL.length ≤ 100)
    (h : ∀ D ws h', Fr h₀ L h' m → News h₀ L h' ((D, W.listOf (List.toArray ws) 0) :: news) → (∀ p ∈ news, p.1 < D) → StrsAre ws ((SL.drop a.toNat).take (b.toNat - a.toNat)) → Q (.ref D) { s with heap := h' })
    (hs : subscripted slice false (.ref l) (.ref s.heap.objs.size) = operate [.ref s.heap.objs.size, .ref l] (getItem (.ref l) (.ref s.heap.objs.size))) (ht : ∀ r, letTemporaryGo value (.ref l) r = pure ()) :
    wpAny (model prog w) A (subscriptTail value slice (.ref l) (.ref s.heap.objs.size)) Q E { s with heap := s.heap.push { cls := .type "slice", data := .fields #[.int a ta, .int b tb, .none] } } := by
  have hl := strsAre_len hS
  refine kmk_slice F N (News.isList N hm) (IsPart.int _ _) (IsPart.int _ _) (fun D h' F' N' l1 => ?_) hs ht (by rw [List.size_toArray, hl, sizeLine_eq]; omega)
  rw [pick_run ha hab (hl ▸ hb)] at N'
  exact h D _ h' F' N' l1 ((hS.drop' _).take' _)
theorem sum_le {XS : List Str} (h : ∀ x ∈ XS, x.length ≤ 200) : (XS.map (·.length)).sum ≤ 200 * XS.length := by
  induction XS with
  | nil => exact Nat.le_refl _
  | cons x xs ih =>
    have h1 := h x List.mem_cons_self
    have h2 := ih fun y hy => h y (List.mem_cons_of_mem _ hy)
    simp only [List.map_cons, List.sum_cons, List.length_cons]
    omega
theorem join_strs {D : Addr} {ws : List Value} {XS : List Str} {x : Str} {t : Tok} {n : Nat} (N : News h₀ L s.heap news) (hm : (D, W.listOf ws.toArray n) ∈ news) (hi : StrsAre ws XS) (hx : x.length ≤ 10) (hb : ∀ x ∈ XS, x.length ≤ 200) (hl : XS.length ≤ 100)
    (h : ∀ t' k, Q (.str (Txt.join x XS) t') { s with toks := k }) : wpAny (model prog w) A (call (.builtin "str.join") [.str x t, .ref D]) Q E s :=
  join_list (ys := XS) (News.isList N hm) hi (by
    have h1 := sum_le hb
    have h2 : XS.length * x.length ≤ 100 * 10 := Nat.mul_le_mul hl hx
    omega) h
end
section
local macro_rules | `(tactic| walk_at "CompSrc") => `(tactic| with_unfolding_all refine stop_intro ?_)
local macro_rules | `(tactic| walk_at "subscriptTail Name Slice ref ref") => `(tactic| with_unfolding_all refine stop_intro ?_)
local macro_rules | `(tactic| walk_at "call builtin:str.join") => `(tactic| with_unfolding_all refine stop_intro ?_)
noncomputable def gJoin (SL : List Str) (a b k : Int) : Str := Txt.join (Str.ofString "") ((SL.drop (a * k).toNat).take ((a * k + b).toNat - (a * k).toNat))
set_option maxHeartbeats 8000000 in
theorem law_A3 (w : World) (dp un : Nat) (fr : Option (List Env)) (gd : Option (List Code)) (s : Shared) (Q : Flow → Shared → Prop) (g h₁ : Heap) (L : Addr) (mean : ExcName → Option Value) (mg mb : Str → Option Value) (X : (KF w.params).In g) (T : Top qv (looseW qv loose) mean mg mb g)
   (hd : dp + 32 < recursionLimit) (hu : un + 128 < cLine) (aS : Addr) (cS : Nat) (sv : List Value) (SL : List Str) (hS : StrsAre sv SL) (hlen : SL.length = 15) (hSb : ∀ x ∈ SL, x.length ≤ 200) (hG : ∀ x ∈ (rangeKs 0 5).map (gJoin SL 3 3), x.length ≤ 200)
   (m : Str → Option Value) (o1 o2 o3 o4 o5 o6 : Obj) (tk : Tok) (hd1 : o1.data = .cell (some (.ref aS))) (aN : Addr) (oN : Obj) (hoff : LCg.Off1 aS [(aN, oN), (L + 1, o1), (L + 2, o2), (L + 3, o3), (L + 4, o4), (L + 5, o5), (L + 6, o6)]) (F : Fr g L h₁ m) (N : News g L h₁ [(aS, W.listOf sv.toArray cS), (aN, oN), (L + 1, o1), (L + 2, o2), (L + 3, o3), (L + 4, o4), (L + 5, o5), (L + 6, o6)])
   (hQ : ∀ h' tk' t m', Fr g L h' m' → m' = (fun y => if y = Str.ofString "line" then some (.str (Txt.join (Str.ofString "'") ((rangeKs 0 5).map (gJoin SL 3 3))) t) else m y) → News g L h' [(aS, W.listOf sv.toArray cS), (aN, oN), (L + 1, o1), (L + 2, o2), (L + 3, o3), (L + 4, o4), (L + 5, o5), (L + 6, o6)] → Q .next { s with heap := h', toks := tk' }) :
   wpAny (model PySem.Challenge.rw_sr0008_01.prog w) ((AR dp un fr gd).deeper (lawE L)) (execs (lawB 3 1) (lawE L)) Q (fun _ _ => False) { s with heap := h₁, toks := tk } := by
  simp only [LCg.Off1, and_true] at hoff
  revert X T
  k_fill
  intro X T
  k_steps
  unfold Stop
  (with_reducible rename Fr _ _ _ _ => kF)
  (with_reducible rename News _ _ _ _ => kN)
  (with_reducible rename IsRange _ _ _ _ _ _ _ _ => kR)
  refine LCg.CompSrc.range ?_ kF kN kR (by decide) (n := 5) (by rfl) (by rw [sizeLine_eq]; decide) ?_
  · rfl
  intro g9
  refine kct_range (gJoin SL 3 3) (fun k t I oI C oC D' m₂ ys h tk E' hk0 hk5 hC hm F' N' off' ne' hmark => ?_) ?_
  · simp only [LCg.Off3, and_true] at off'
    k_steps
    unfold Stop
    refine slice_strs (n := cS) (SL := SL) (a := 3 * k) (b := 3 * k + 3) F' N' (by k_mem) hS (by omega) (by omega) (by omega) (by omega) ?_ (by with_unfolding_all rfl) (by intro _; with_unfolding_all rfl)
    intro D9 ws9 h9 F9 N9 l9 hws
    dsimp only
    k_steps
    unfold Stop
    refine join_strs N9 List.mem_cons_self hws (by decide) (fun x hx => hSb x (List.mem_of_mem_drop (List.mem_of_mem_take hx))) (by rw [List.length_take, List.length_drop]; omega) ?_
    intro t9 k9
    k_steps
    exact ⟨h9, k9, _, rfl, F9, fun p hp => N9 p (List.mem_cons_of_mem _ hp), (by simp only [LCg.Off3, and_true]; exact off'), trivial, rfl, t9, rfl⟩
  · intro ys hys hyl
    dsimp only [LCg.FinE]
    intro D h tk F' N' off'
    simp only [LCg.Off1, and_true] at off'
    have hys2 : StrsAre ys ((rangeKs 0 5).map (gJoin SL 3 3)) := hys.strsOf
    k_steps
    unfold Stop
    refine join_strs N' List.mem_cons_self hys2 (by decide) hG (by rw [List.length_map, rangeKs_length]; decide) ?_
    intro t9 k9
    k_steps
    all_goals (try (show wpAny _ _ (execs [] _) _ _ _; refine wpAny_pure ?_))
    (with_reducible rename Fr _ _ _ _ => kF)
    (with_reducible rename News _ _ _ _ => kN)
    exact hQ _ _ _ _ kF rfl fun p hp => kN p (List.mem_cons_of_mem _ hp)
end
end Mine
end
section
open PySem PySem.W PyProof.Rows PySem.Calls
set_option maxRecDepth 100000
namespace Mine
theorem news_new {h₀ h h' : Heap} {L D : Addr} {o : Obj} {m : Str → Option Value} {news : List (Addr × Obj)} (F : Fr h₀ L h m) (N : News h₀ L h news) (hD : h.get? D = none) (N' : News h₀ L h' news) (g : h'.get? D = some o) : News h₀ L h' ((D, o) :: news) ∧ ∀ p ∈ news, p.1 ≠ D := by
  refine ⟨fun p hp => ?_, fun p hp e => ?_⟩
  · rcases List.mem_cons.mp hp with rfl | hp
    · refine ⟨g, fun e => ?_, ?_⟩
      · obtain ⟨oL, _, _, hoL, _⟩ := F.ns
        have e' : D = L := e
        rw [← e', hD] at hoL
        cases hoL
      · cases hq : h₀.get? D with
        | none => rfl
        | some o9 => rw [F.keep _ _ hq] at hD; cases hD
    · exact N' p hp
  · have := (N p hp).1
    rw [e, hD] at this
    cases this
theorem off1_of {D : Addr} : ∀ {l : List (Addr × Obj)}, (∀ p ∈ l, p.1 ≠ D) → LCg.Off1 D l
  | [], _ => trivial
  | _ :: _, h => ⟨h _ List.mem_cons_self, off1_of fun p hp => h p (List.mem_cons_of_mem _ hp)⟩
theorem call_sent {w : World} {x : Str} {tk : Tok} {dp un : Nat} {fr : Option (List Env)} {gd : Option (List Code)} {env : Env} {s : Shared} {Q E : Value → Shared → Prop} {h₀ : Heap} {L : Addr} {m : Str → Option Value} {news : List (Addr × Obj)} {mean : ExcName → Option Value} {mg mb : Str → Option Value}
    (F : Fr h₀ L s.heap m) (X : (KF w.params).In h₀) (T : Top qv (looseW qv loose) mean mg mb h₀) (N : News h₀ L s.heap news) (hx : x.length ≤ 100) (hd : dp + 32 < recursionLimit) (hu : un + 128 < cLine)
    (h : ∀ D vs c h' tk', Fr h₀ L h' m → News h₀ L h' ((D, W.listOf (List.toArray vs) c) :: news) → LCg.Off1 D news → StrsAre vs ((List.range x.length).map (sentAt x)) → Q (.ref D) { s with heap := h', toks := tk' }) :
    wpAny (model PySem.Challenge.rw_sr0008_01.prog w) ((AR dp un fr gd).deeper env) (call (.ref (nat_lit 175)) [.str x tk]) Q E s :=
  PSpec.use (dp := dp + 1) (sent_spec w s.heap x hx tk) F X T N rfl (by omega) (by show un + 3 + 64 < cLine; omega) fun v h' tk' F' N' _ hp => by
    obtain ⟨D, vs, c, rfl, hD, hs, hn⟩ := hp
    obtain ⟨N2, off⟩ := news_new F N hn N' hD
    exact h D vs c h' tk' F' N2 (off1_of off) hs
section
local macro_rules | `(tactic| walk_at "call ref") => `(tactic| ((with_unfolding_all refine call_sent (by with_reducible assumption) (by with_reducible assumption) (by with_reducible assumption) (by with_reducible assumption) (by with_reducible assumption) (by with_reducible assumption) (by with_reducible assumption) ?_); intro Dn vsn cn hn tkn Fn Nn offn hsn; simp only [LCg.Off1, and_true] at offn))
set_option maxHeartbeats 8000000 in
theorem law_A4 (w : World) (dp un : Nat) (fr : Option (List Env)) (gd : Option (List Code)) (s : Shared) (Q : Flow → Shared → Prop) (g h₁ : Heap) (L : Addr) (mean : ExcName → Option Value) (mg mb : Str → Option Value) (X : (KF w.params).In g) (T : Top qv (looseW qv loose) mean mg mb g)
   (hd : dp + 32 < recursionLimit) (hu : un + 128 < cLine) (x : Str) (tx : Tok) (hx : x.length ≤ 100)
   (m : Str → Option Value) (hm1 : m (Str.ofString "line") = some (.str x tx)) (o1 o2 o3 o4 o5 o6 : Obj) (v3 : Option Value) (hd3 : o3.data = .cell v3) (tk : Tok) (aS aN : Addr) (oS oN : Obj) (hoS : LCg.Off1 aS [(L + 1, o1), (L + 2, o2), (L + 3, o3), (L + 4, o4), (L + 5, o5), (L + 6, o6)]) (hoN : LCg.Off1 aN [(L + 1, o1), (L + 2, o2), (L + 3, o3), (L + 4, o4), (L + 5, o5), (L + 6, o6)]) (F : Fr g L h₁ m) (N : News g L h₁ [(aS, oS), (aN, oN), (L + 1, o1), (L + 2, o2), (L + 3, o3), (L + 4, o4), (L + 5, o5), (L + 6, o6)])
   (hQ : ∀ h' tk' aT cT tv o', Fr g L h' m → News g L h' [(aT, W.listOf (List.toArray tv) cT), (aS, oS), (aN, oN), (L + 1, o1), (L + 2, o2), (L + 3, o'), (L + 4, o4), (L + 5, o5), (L + 6, o6)] → LCg.Off1 aT [(aS, oS), (aN, oN), (L + 1, o1), (L + 2, o2), (L + 3, o'), (L + 4, o4), (L + 5, o5), (L + 6, o6)] → o'.data = .cell (some (.ref aT)) → StrsAre tv ((List.range x.length).map (sentAt x)) → Q .next { s with heap := h', toks := tk' }) :
   wpAny (model PySem.Challenge.rw_sr0008_01.prog w) ((AR dp un fr gd).deeper (lawE L)) (execs (lawB 4 1) (lawE L)) Q (fun _ _ => False) { s with heap := h₁, toks := tk } := by
  rw [ifs1 hm1] at F
  have qS : aS ≠ L + 3 := Ne.symm hoS.2.2.1
  have qN : aN ≠ L + 3 := Ne.symm hoN.2.2.1
  clear hoS hoN
  revert X T
  k_fill
  intro X T
  k_steps
  all_goals (try (show wpAny _ _ (execs [] _) _ _ _; refine wpAny_pure ?_))
  (with_reducible rename Fr _ _ _ _ => kF)
  (with_reducible rename News _ _ _ _ => kN)
  (with_reducible rename _ = Data.cell (some (Value.ref _)) => kD)
  (with_reducible rename StrsAre _ _ => kS)
  rw [← ifs1 hm1] at kF
  refine hQ _ _ _ _ _ _ kF kN ?_ kD kS
  simp only [LCg.Off1, and_true]
  assumption
end
section
local macro_rules | `(tactic| walk_at "CompSrc") => `(tactic| with_unfolding_all refine stop_intro ?_)
local macro_rules | `(tactic| walk_at "subscriptTail Name Slice ref ref") => `(tactic| with_unfolding_all refine stop_intro ?_)
local macro_rules | `(tactic| walk_at "call builtin:str.join") => `(tactic| with_unfolding_all refine stop_intro ?_)
set_option maxHeartbeats 8000000 in
theorem law_A5 (w : World) (dp un : Nat) (fr : Option (List Env)) (gd : Option (List Code)) (s : Shared) (Q : Flow → Shared → Prop) (g h₁ : Heap) (L : Addr) (mean : ExcName → Option Value) (mg mb : Str → Option Value) (X : (KF w.params).In g) (T : Top qv (looseW qv loose) mean mg mb g)
   (hd : dp + 32 < recursionLimit) (hu : un + 128 < cLine) (aT : Addr) (cT : Nat) (tv : List Value) (TL : List Str) (hS : StrsAre tv TL) (hlen : TL.length = 19) (hSb : ∀ x ∈ TL, x.length ≤ 200)
   (m : Str → Option Value) (o1 o2 o3 o4 o5 o6 : Obj) (aS aN : Addr) (oS oN : Obj) (tk : Tok) (hd3 : o3.data = .cell (some (.ref aT))) (F : Fr g L h₁ m) (N : News g L h₁ [(aT, W.listOf tv.toArray cT), (aS, oS), (aN, oN), (L + 1, o1), (L + 2, o2), (L + 3, o3), (L + 4, o4), (L + 5, o5), (L + 6, o6)])
   (hQ : ∀ h' tk' aX cX xv m', Fr g L h' m' → m' = (fun y => if y = Str.ofString "texts" then some (.ref aX) else m y) → News g L h' [(aX, W.listOf (List.toArray xv) cX), (aT, W.listOf tv.toArray cT), (aS, oS), (aN, oN), (L + 1, o1), (L + 2, o2), (L + 3, o3), (L + 4, o4), (L + 5, o5), (L + 6, o6)] → LCg.Off1 aX [(aT, W.listOf tv.toArray cT), (aS, oS), (aN, oN), (L + 1, o1), (L + 2, o2), (L + 3, o3), (L + 4, o4), (L + 5, o5), (L + 6, o6)] → StrsAre xv ((rangeKs 0 5).map (gJoin TL 4 3)) → Q .next { s with heap := h', toks := tk' }) :
   wpAny (model PySem.Challenge.rw_sr0008_01.prog w) ((AR dp un fr gd).deeper (lawE L)) (execs (lawB 5 1) (lawE L)) Q (fun _ _ => False) { s with heap := h₁, toks := tk } := by
  revert X T
  k_fill
  intro X T
  k_steps
  unfold Stop
  (with_reducible rename Fr _ _ _ _ => kF)
  (with_reducible rename News _ _ _ _ => kN)
  (with_reducible rename IsRange _ _ _ _ _ _ _ _ => kR)
  refine LCg.CompSrc.range ?_ kF kN kR (by decide) (n := 5) (by rfl) (by rw [sizeLine_eq]; decide) ?_
  · rfl
  intro g9
  refine kct_range (gJoin TL 4 3) (fun k t I oI C oC D' m₂ ys h tk E' hk0 hk5 hC hm F' N' off' ne' hmark => ?_) ?_
  · simp only [LCg.Off3, and_true] at off'
    k_steps
    unfold Stop
    refine slice_strs (n := cT) (SL := TL) (a := 4 * k) (b := 4 * k + 3) F' N' (by k_mem) hS (by omega) (by omega) (by omega) (by omega) ?_ (by with_unfolding_all rfl) (by intro _; with_unfolding_all rfl)
    intro D9 ws9 h9 F9 N9 l9 hws
    dsimp only
    k_steps
    unfold Stop
    refine join_strs N9 List.mem_cons_self hws (by decide) (fun x hx => hSb x (List.mem_of_mem_drop (List.mem_of_mem_take hx))) (by rw [List.length_take, List.length_drop]; omega) ?_
    intro t9 k9
    k_steps
    exact ⟨h9, k9, _, rfl, F9, fun p hp => N9 p (List.mem_cons_of_mem _ hp), (by simp only [LCg.Off3, and_true]; exact off'), trivial, rfl, t9, rfl⟩
  · intro ys hys hyl
    dsimp only [LCg.FinA, LCg.FinE]
    intro D h tk F' N' off'
    simp only [LCg.Off1, and_true] at off'
    k_steps
    all_goals (try (show wpAny _ _ (execs [] _) _ _ _; refine wpAny_pure ?_))
    (with_reducible rename Fr _ _ _ _ => kF)
    (with_reducible rename News _ _ _ _ => kN)
    exact hQ _ _ _ _ _ _ kF rfl kN (by simp only [LCg.Off1, and_true]; exact off') hys.strsOf
end
end Mine
end
section
local macro_rules | `(tactic| walk_at "zz idle") => `(tactic| skip)
open PySem PySem.W PyProof.Rows PySem.Calls PyProof.V PySem.Spec
set_option maxRecDepth 100000
namespace Mine
theorem strs3 {vs : List Value} {a b c : Str} (h : StrsAre vs [a, b, c]) : ∃ t0 t1 t2, vs = [.str a t0, .str b t1, .str c t2] := by
  cases h with | cons _ t0 h => cases h with | cons _ t1 h => cases h with | cons _ t2 h => cases h; exact ⟨_, _, _, rfl⟩
theorem strs5 {vs : List Value} {a b c d e : Str} (h : StrsAre vs [a, b, c, d, e]) : ∃ t0 t1 t2 t3 t4, vs = [.str a t0, .str b t1, .str c t2, .str d t3, .str e t4] := by
  cases h with | cons _ t0 h => cases h with | cons _ t1 h => cases h with | cons _ t2 h => cases h with | cons _ t3 h => cases h with | cons _ t4 h => cases h; exact ⟨_, _, _, _, _, rfl⟩
theorem call_quote {w : World} {x : Str} {tk : Tok} {dp un : Nat} {fr : Option (List Env)} {gd : Option (List Code)} {env : Env} {s : Shared} {Q E : Value → Shared → Prop} {h₀ : Heap} {L : Addr} {m : Str → Option Value} {news : List (Addr × Obj)} {mean : ExcName → Option Value} {mg mb : Str → Option Value}
    (F : Fr h₀ L s.heap m) (X : (KF w.params).In h₀) (T : Top qv (looseW qv loose) mean mg mb h₀) (N : News h₀ L s.heap news) (hx : x.length ≤ 100) (hd : dp + 32 < recursionLimit) (hu : un + 128 < cLine)
    (h : ∀ y t h' tk', Fr h₀ L h' m → News h₀ L h' news → y.cps.toList = quoteL x.cps.toList → Q (.str y t) { s with heap := h', toks := tk' }) :
    wpAny (model PySem.Challenge.rw_sr0008_01.prog w) ((AR dp un fr gd).deeper env) (call (.ref (nat_lit 70)) [.str x tk]) Q E s :=
  PSpec.use (dp := dp + 1) (quote_spec w x hx tk) F X T N trivial (by omega) (by show un + 3 + 64 < cLine; omega) fun v h' tk' F' N' _ hp => by
    obtain ⟨y, t, rfl, hy⟩ := hp
    exact h y t h' tk' F' N' hy
theorem call_dec3 {w : World} {x a b c : Str} {tk : Tok} {dp un : Nat} {fr : Option (List Env)} {gd : Option (List Code)} {env : Env} {s : Shared} {Q E : Value → Shared → Prop} {h₀ : Heap} {L : Addr} {m : Str → Option Value} {news : List (Addr × Obj)} {mean : ExcName → Option Value} {mg mb : Str → Option Value}
    (F : Fr h₀ L s.heap m) (X : (KF w.params).In h₀) (T : Top qv (looseW qv loose) mean mg mb h₀) (N : News h₀ L s.heap news) (hx : x.length ≤ 100) (hsp : Txt.splitMax x ⟨#[39]⟩ 2 = [a, b, c]) (hd : dp + 32 < recursionLimit) (hu : un + 128 < cLine)
    (h : ∀ D cc t0 t1 t2 h' tk', Fr h₀ L h' m → News h₀ L h' ((D, W.listOf #[.str a t0, .str b t1, .str c t2] cc) :: news) → LCg.Off1 D news → Q (.ref D) { s with heap := h', toks := tk' }) :
    wpAny (model PySem.Challenge.rw_sr0008_01.prog w) ((AR dp un fr gd).deeper env) (call (.ref (nat_lit 38)) [.str x tk]) Q E s :=
  PSpec.use (dp := dp + 1) (decode_new w s.heap x hx tk) F X T N rfl (by omega) (by show un + 3 + 64 < cLine; omega) fun v h' tk' F' N' _ hp => by
    rw [hsp] at hp
    rcases hp with ⟨_, D, vs, cc, rfl, hD, hs, hn⟩ | ⟨hl, _⟩
    · obtain ⟨t0, t1, t2, rfl⟩ := strs3 hs
      obtain ⟨N2, off⟩ := news_new F N hn N' hD
      exact h D cc t0 t1 t2 h' tk' F' N2 (off1_of off)
    · exact absurd hl (by simp)
theorem call_dec1 {w : World} {x : Str} {tk : Tok} {dp un : Nat} {fr : Option (List Env)} {gd : Option (List Code)} {env : Env} {s : Shared} {Q E : Value → Shared → Prop} {h₀ : Heap} {L : Addr} {m : Str → Option Value} {news : List (Addr × Obj)} {mean : ExcName → Option Value} {mg mb : Str → Option Value}
    (F : Fr h₀ L s.heap m) (X : (KF w.params).In h₀) (T : Top qv (looseW qv loose) mean mg mb h₀) (N : News h₀ L s.heap news) (hx : x.length ≤ 100) (hsp : (Txt.splitMax x ⟨#[39]⟩ 2).length ≤ 2) (hd : dp + 32 < recursionLimit) (hu : un + 128 < cLine)
    (h : ∀ D h' tk', Fr h₀ L h' m → News h₀ L h' ((D, { cls := .type "tuple", data := .seq #[.none, .none, .str x tk] 0 }) :: news) → LCg.Off1 D news → Q (.ref D) { s with heap := h', toks := tk' }) :
    wpAny (model PySem.Challenge.rw_sr0008_01.prog w) ((AR dp un fr gd).deeper env) (call (.ref (nat_lit 38)) [.str x tk]) Q E s :=
  PSpec.use (dp := dp + 1) (decode_new w s.heap x hx tk) F X T N rfl (by omega) (by show un + 3 + 64 < cLine; omega) fun v h' tk' F' N' _ hp => by
    rcases hp with ⟨hl, _⟩ | ⟨_, D, rfl, hD, hn⟩
    · omega
    · obtain ⟨N2, off⟩ := news_new F N hn N' hD
      exact h D h' tk' F' N2 (off1_of off)
theorem ks_can : ∀ ns : List Str, (∀ x ∈ ns, PyData.strOk x = true) → PyData.canLayAll0 (ns.map PyData.str) = true
  | [], _ => rfl
  | x :: r, h => by simp [PyData.canLayAll0, PyData.canLay0, ks_can r fun y hy => h y (List.mem_cons_of_mem _ hy), h x List.mem_cons_self]
theorem ks_depth : ∀ ns : List Str, PyData.depthAll (ns.map PyData.str) = 0
  | [] => rfl
  | _ :: r => by simp [PyData.depthAll, PyData.depth, ks_depth r]
theorem ks_shaped (ns : List Str) (h : ∀ x ∈ ns, PyData.strOk x = true) : SeqAt.shaped (.list (ns.map PyData.str)) = true := by
  simp [SeqAt.shaped, PyData.canLay0, PyData.depth, ks_can ns h, ks_depth]
theorem ks_sameAll : ∀ ns ms : List Str, PySem.Spec.sameAll (ns.map PyData.str) (ms.map PyData.str) = decide (ns = ms)
  | [], [] => by simp [PySem.Spec.sameAll]
  | [], _ :: _ => by simp [PySem.Spec.sameAll]
  | _ :: _, [] => by simp [PySem.Spec.sameAll]
  | a :: r, b :: t => by
    simp only [List.map_cons, PySem.Spec.sameAll, PySem.Spec.same, ks_sameAll r t]
    by_cases h : a = b <;> by_cases h' : r = t <;> simp [h, h']
theorem ks_same (ns ms : List Str) : PySem.Spec.same (.list (ns.map PyData.str)) (.list (ms.map PyData.str)) = decide (ns = ms) := by
  simp only [PySem.Spec.same]; exact ks_sameAll ns ms
section
variable {prog : Program} {w : World} {A : Around} {E : Value → Shared → Prop} {s : Shared} {a b : Addr} {xs ys : List Value} {ns ms : List Str} {Q : Value → Shared → Prop}
theorem ne_strs (ha : s.heap.IsList a xs.toArray) (hb : s.heap.IsList b ys.toArray) (hi : StrsAre xs ns) (hj : StrsAre ys ms) (hu : A.units + 64 < cLine) (ho : ∀ x ∈ ns, PyData.strOk x = true) (ho2 : ∀ x ∈ ms, PyData.strOk x = true) (h : Q (.bool (!decide (ns = ms))) s) :
    wpAny (model prog w) A (compareOp .NotEq (.ref a) (.ref b)) Q E s :=
  ne_dataH_same (reads_newData ha hi.carried) (reads_newData hb hj.carried) (ks_shaped _ ho) (ks_shaped _ ho2) hu (SeqAt.noMix_of_shape (.list .str) rfl _ _ (list_map_has fun _ => rfl) (list_map_has fun _ => rfl)) (by rw [ks_same]; exact h)
end
section
local macro_rules | `(tactic| walk_at "call ref") => `(tactic| first
  | ((with_unfolding_all refine call_quote (by with_reducible assumption) (by with_reducible assumption) (by with_reducible assumption) (by with_reducible assumption) (by with_reducible assumption) (by with_reducible assumption) (by with_reducible assumption) ?_); intro yq tq hq9 tkq Fq Nq hyq)
  | (with_unfolding_all refine stop_intro ?_))
local macro_rules | `(tactic| walk_at "compareOp NotEq ref ref") => `(tactic| with_unfolding_all refine stop_intro ?_)
local macro_rules | `(tactic| walk_at "call builtin:str.join") => `(tactic| with_unfolding_all refine stop_intro ?_)
set_option maxHeartbeats 8000000 in
theorem law_C (w : World) (dp un : Nat) (fr : Option (List Env)) (gd : Option (List Code)) (s : Shared) (Q : Flow → Shared → Prop) (g h₁ : Heap) (L : Addr) (mean : ExcName → Option Value) (mg mb : Str → Option Value) (X : (KF w.params).In g) (T : Top qv (looseW qv loose) mean mg mb g)
   (hd : dp + 32 < recursionLimit) (hu : un + 128 < cLine) (x : Str) (tx : Tok) (hx : x.length ≤ 100) (x0 x1 x2 x3 x4 : Str) (t0 t1 t2 t3 t4 : Tok) (aX : Addr) (cX : Nat)
   (hq : ∀ y : Str, y.cps.toList = quoteL x.cps.toList → y.length ≤ 100 ∧ Txt.splitMax y ⟨#[39]⟩ 2 = [x0, x1, Txt.join (Str.ofString "'") [x2, x3, x4]]) (hxl : ∀ y ∈ [x2, x3, x4], y.length ≤ 200) (hok : ∀ y ∈ [x0, x1, Txt.join (Str.ofString "'") [x2, x3, x4]], PyData.strOk y = true)
   (m : Str → Option Value) (hm1 : m (Str.ofString "line") = some (.str x tx)) (hm2 : m (Str.ofString "texts") = some (.ref aX)) (tk : Tok) (aS aN : Addr) (oS oN o1 o2 o4 o5 o6 : Obj) (F : Fr g L h₁ m) (N : News g L h₁ [(aX, W.listOf #[.str x0 t0, .str x1 t1, .str x2 t2, .str x3 t3, .str x4 t4] cX), (aS, oS), (aN, oN), (L + 1, o1), (L + 2, o2), (L + 4, o4), (L + 5, o5), (L + 6, o6)])
   (hQ : ∀ h' tk' D cc ta tb tc m', Fr g L h' m' → m' = (fun y => if y = Str.ofString "first" then some (.ref D) else m y) → News g L h' [(D, W.listOf #[.str x0 ta, .str x1 tb, .str (Txt.join (Str.ofString "'") [x2, x3, x4]) tc] cc), (aX, W.listOf #[.str x0 t0, .str x1 t1, .str x2 t2, .str x3 t3, .str x4 t4] cX), (aS, oS), (aN, oN), (L + 1, o1), (L + 2, o2), (L + 4, o4), (L + 5, o5), (L + 6, o6)] →
      LCg.Off1 D [(aX, oS), (aS, oS), (aN, oN), (L + 1, o1), (L + 2, o2), (L + 4, o4), (L + 5, o5), (L + 6, o6)] → Q .next { s with heap := h', toks := tk' }) :
   wpAny (model PySem.Challenge.rw_sr0008_01.prog w) ((AR dp un fr gd).deeper (lawE L)) (execs (lawB 6 2) (lawE L)) Q (fun _ _ => False) { s with heap := h₁, toks := tk } := by
  rw [ifs2 hm1 hm2] at F
  revert X T
  k_fill
  intro X T
  k_steps
  unfold Stop
  have hqy := hq _ (by with_reducible assumption)
  refine call_dec3 (by with_reducible assumption) (by with_reducible assumption) (by with_reducible assumption) (by with_reducible assumption) hqy.1 hqy.2 (by with_reducible assumption) (by with_reducible assumption) ?_
  intro D cc ta tb tc h5 tk5 F5 N5 off5
  simp only [LCg.Off1, and_true] at off5
  dsimp only
  k_steps
  unfold Stop
  refine join_list (ys := [x2, x3, x4]) (News.isList (by with_reducible assumption) (by k_mem)) (.cons _ _ (.cons _ _ (.cons _ _ .nil))) ?_ ?_
  · have h1 := sum_le hxl
    have h2 : (Str.ofString "'").length = 1 := by decide +kernel
    simp only [List.length_cons, List.length_nil] at h1 ⊢
    rw [h2]
    omega
  intro t9 k9
  dsimp only
  k_steps
  unfold Stop
  refine ne_strs (xs := [_, _, _]) (ys := [_, _, _]) (ns := [x0, x1, Txt.join (Str.ofString "'") [x2, x3, x4]]) (ms := [x0, x1, Txt.join (Str.ofString "'") [x2, x3, x4]]) (News.isList (by with_reducible assumption) (by k_mem)) (News.isList (by with_reducible assumption) (by k_mem)) (.cons _ _ (.cons _ _ (.cons _ _ .nil))) (.cons _ _ (.cons _ _ (.cons _ _ .nil))) (by show un + 3 + 64 < cLine; omega) hok hok ?_
  rw [decide_eq_true rfl]
  k_steps
  all_goals (try (show wpAny _ _ (execs [] _) _ _ _; refine wpAny_pure ?_))
  (with_reducible rename Fr _ _ _ _ => kF)
  (with_reducible rename News _ _ _ _ => kN)
  refine hQ _ _ D cc ta tb tc _ kF ?_ (fun p hp => kN p (List.mem_cons_of_mem _ (List.mem_cons_of_mem _ hp))) (by simp only [LCg.Off1, and_true]; exact off5)
  funext y
  exact congrArg (fun z => if y = Str.ofString "first" then some (Value.ref D) else z) (congrFun (ifs2 hm1 hm2).symm y)
end
end Mine
end
section
open PySem PySem.W PyProof.Rows PySem.Calls PyProof.V PySem.Spec
set_option maxRecDepth 100000
namespace Mine
section
variable {prog : Program} {w : World} {A : Around} {E : Value → Shared → Prop} {s : Shared} {a b : Addr} {P : Str} {t1 t2 : Tok} {n1 n2 : Nat} {Q : Value → Shared → Prop}
theorem ne_tup (ha : s.heap.get? a = some { cls := .type "tuple", data := .seq #[.none, .none, .str P t1] n1 }) (hb : s.heap.get? b = some { cls := .type "tuple", data := .seq #[.none, .none, .str P t2] n2 }) (hu : A.units + 64 < cLine) (ho : PyData.strOk P = true) (h : Q (.bool false) s) :
    wpAny (model prog w) A (compareOp .NotEq (.ref a) (.ref b)) Q E s := by
  refine ne_dataH (da := .tuple [.none, .none, .str P]) (db := .tuple [.none, .none, .str P]) (reads_tuple_at ha rfl rfl (.cons Reads.none (.cons Reads.none (.cons (Reads.str _ _) .nil)))) (reads_tuple_at hb rfl rfl (.cons Reads.none (.cons Reads.none (.cons (Reads.str _ _) .nil)))) (by simp [SeqAt.shaped, PyData.canLay0, PyData.canLayAll0, PyData.depth, PyData.depthAll, ho]) (by simp [SeqAt.shaped, PyData.canLay0, PyData.canLayAll0, PyData.depth, PyData.depthAll, ho]) hu ?_
  simp [PyData.eqv, PyData.eqvAll]
  exact h
end
section
local macro_rules | `(tactic| walk_at "call ref") => `(tactic| with_unfolding_all refine stop_intro ?_)
local macro_rules | `(tactic| walk_at "call builtin:str.join") => `(tactic| with_unfolding_all refine stop_intro ?_)
local macro_rules | `(tactic| walk_at "compareOp NotEq ref ref") => `(tactic| (with_unfolding_all refine stop_intro ?_))
set_option maxHeartbeats 8000000 in
theorem law_D (w : World) (dp un : Nat) (fr : Option (List Env)) (gd : Option (List Code)) (s : Shared) (Q : Flow → Shared → Prop) (g h₁ : Heap) (L : Addr) (mean : ExcName → Option Value) (mg mb : Str → Option Value) (X : (KF w.params).In g) (T : Top qv (looseW qv loose) mean mg mb g)
   (hd : dp + 32 < recursionLimit) (hu : un + 128 < cLine) (x0 x1 x2 x3 x4 : Str) (t0 t1 t2 t3 t4 ta tb tc : Tok) (aX D : Addr) (cX cD : Nat) (R P : Str) (hRe : R = Txt.join (Str.ofString "'") [x2, x3, x4]) (hPe : P = Txt.join (Str.ofString "'") [x3, x4])
   (hR : R.length ≤ 100) (hP : P.length ≤ 100) (h4 : x4.length ≤ 100) (hxl : ∀ y ∈ [x3, x4], y.length ≤ 200) (hspR : Txt.splitMax R ⟨#[39]⟩ 2 = [x2, x3, x4]) (hspP : (Txt.splitMax P ⟨#[39]⟩ 2).length ≤ 2) (hsp4 : (Txt.splitMax x4 ⟨#[39]⟩ 2).length ≤ 2)
   (hok : ∀ y ∈ [x2, x3, x4], PyData.strOk y = true) (hokP : PyData.strOk P = true)
   (m : Str → Option Value) (hm1 : m (Str.ofString "first") = some (.ref D)) (hm2 : m (Str.ofString "texts") = some (.ref aX)) (tk : Tok) (aS aN : Addr) (oS oN o1 o2 o4 o5 o6 : Obj) (F : Fr g L h₁ m) (N : News g L h₁ [(D, W.listOf #[.str x0 ta, .str x1 tb, .str R tc] cD), (aX, W.listOf #[.str x0 t0, .str x1 t1, .str x2 t2, .str x3 t3, .str x4 t4] cX), (aS, oS), (aN, oN), (L + 1, o1), (L + 2, o2), (L + 4, o4), (L + 5, o5), (L + 6, o6)])
   (hQ : ∀ h' tk' D2 c2 u2 u3 u4 t9 m', Fr g L h' m' → m' = (fun y => if y = Str.ofString "pair" then some (.str P t9) else if y = Str.ofString "second" then some (.ref D2) else m y) → News g L h' [(D2, W.listOf #[.str x2 u2, .str x3 u3, .str x4 u4] c2), (D, W.listOf #[.str x0 ta, .str x1 tb, .str R tc] cD), (aS, oS), (aN, oN), (L + 1, o1), (L + 2, o2), (L + 4, o4), (L + 5, o5), (L + 6, o6)] →
      LCg.Off1 D2 [(D, oS), (aX, oS), (aS, oS), (aN, oN), (L + 1, o1), (L + 2, o2), (L + 4, o4), (L + 5, o5), (L + 6, o6)] → Q .next { s with heap := h', toks := tk' }) :
   wpAny (model PySem.Challenge.rw_sr0008_01.prog w) ((AR dp un fr gd).deeper (lawE L)) (execs (lawB 8 3) (lawE L)) Q (fun _ _ => False) { s with heap := h₁, toks := tk } := by
  rw [ifs2 hm1 hm2] at F
  revert X T
  k_fill
  intro X T
  k_steps
  unfold Stop
  refine call_dec3 (by with_reducible assumption) (by with_reducible assumption) (by with_reducible assumption) (by with_reducible assumption) hR hspR (by with_reducible assumption) (by with_reducible assumption) ?_
  intro D2 c2 u2 u3 u4 h5 tk5 F5 N5 off5
  simp only [LCg.Off1, and_true] at off5
  dsimp only
  k_steps
  unfold Stop
  refine join_list (ys := [x3, x4]) (News.isList (by with_reducible assumption) (by k_mem)) (.cons _ _ (.cons _ _ .nil)) ?_ ?_
  · have h1 := sum_le hxl
    have h2 : (Str.ofString "'").length = 1 := by decide +kernel
    simp only [List.length_cons, List.length_nil] at h1 ⊢
    rw [h2]
    omega
  intro t9 k9
  rw [← hPe]
  dsimp only
  k_steps
  unfold Stop
  refine ne_strs (xs := [_, _, _]) (ys := [_, _, _]) (ns := [x2, x3, x4]) (ms := [x2, x3, x4]) (News.isList (by with_reducible assumption) (by k_mem)) (News.isList (by with_reducible assumption) (by k_mem)) (.cons _ _ (.cons _ _ (.cons _ _ .nil))) (.cons _ _ (.cons _ _ (.cons _ _ .nil))) (by show un + 3 + 64 < cLine; omega) hok hok ?_
  rw [decide_eq_true rfl]
  k_steps
  unfold Stop
  refine call_dec1 (by with_reducible assumption) (by with_reducible assumption) (by with_reducible assumption) (by with_reducible assumption) hP hspP (by with_reducible assumption) (by with_reducible assumption) ?_
  intro D3 h6 tk6 F6 N6 off6
  simp only [LCg.Off1, and_true] at off6
  dsimp only
  k_steps
  unfold Stop
  refine ne_tup (News.get (by with_reducible assumption) (by k_mem)) (News.get (by with_reducible assumption) (by k_mem)) (by show un + 3 + 64 < cLine; omega) hokP ?_
  k_steps
  unfold Stop
  refine call_dec1 (by with_reducible assumption) (by with_reducible assumption) (by with_reducible assumption) (by with_reducible assumption) h4 hsp4 (by with_reducible assumption) (by with_reducible assumption) ?_
  intro D4 h7 tk7 F7 N7 off7
  simp only [LCg.Off1, and_true] at off7
  dsimp only
  k_steps
  unfold Stop
  refine ne_tup (News.get (by with_reducible assumption) (by k_mem)) (News.get (by with_reducible assumption) (by k_mem)) (by show un + 3 + 64 < cLine; omega) (hok x4 (by simp)) ?_
  k_steps
  all_goals (try (show wpAny _ _ (execs [] _) _ _ _; refine wpAny_pure ?_))
  (with_reducible rename Fr _ _ _ _ => kF)
  (with_reducible rename News _ _ _ _ => kN)
  refine hQ _ _ D2 c2 u2 u3 u4 t9 _ kF ?_ (fun p hp => kN p ?_) (by simp only [LCg.Off1, and_true]; exact off5)
  · funext y
    exact congrArg (fun z => if y = Str.ofString "pair" then some (Value.str P t9) else if y = Str.ofString "second" then some (Value.ref D2) else z) (congrFun (ifs2 hm1 hm2).symm y)
  · simp only [List.mem_cons, List.not_mem_nil, or_false] at hp ⊢
    rcases hp with rfl | rfl | rfl | rfl | rfl | rfl | rfl | rfl | rfl <;> simp
end
end Mine
end
section
open PySem PySem.W PyProof.Rows PySem.Calls PyProof.V PySem.Spec
set_option maxRecDepth 100000
namespace Mine
noncomputable def forB : Stmt → List Stmt | .For _ _ b _ _ => b | _ => []
noncomputable def bodyI : List Stmt := forB ((fnB (stN 32)).getD 13 (.Pass default))
noncomputable def bodyS : List Stmt := forB (bodyI.getD 2 (.Pass default))
noncomputable def bodyK : List Stmt := forB (bodyS.getD 1 (.Pass default))
section
variable {prog : Program} {w : World} {A : Around} {E : Value → Shared → Prop} {s : Shared} {h₀ : Heap} {L l : Addr} {news : List (Addr × Obj)} {value slice : PySem.Expr} {Q : Value → Shared → Prop}
theorem item6 {b0 b1 b2 b3 b4 b5 : Bool} {n : Nat} {k : Int} {u : Tok} (N : News h₀ L s.heap news) (hm : (l, W.listOf #[.bool b0, .bool b1, .bool b2, .bool b3, .bool b4, .bool b5] n) ∈ news) (h0 : 0 ≤ k) (h6 : k < 6) (h : Q (.bool ([b0, b1, b2, b3, b4, b5].getD k.toNat false)) s)
    (hs : subscripted slice false (.ref l) (.int k u) = operate [.ref l, .int k u] (getItem (.ref l) (.int k u)) := by with_unfolding_all rfl) (hg : ∀ r, letTemporaryGo value (.ref l) r = pure () := by intro _; with_unfolding_all rfl) :
    wpAny (model prog w) A (subscriptTail value slice (.ref l) (.int k u)) Q E s := by
  refine item_list (News.isList N hm) h0 (by omega) ?_ h hs hg
  have hk : k = 0 ∨ k = 1 ∨ k = 2 ∨ k = 3 ∨ k = 4 ∨ k = 5 := by omega
  rcases hk with rfl | rfl | rfl | rfl | rfl | rfl <;> rfl
theorem item_str {vs : List Value} {SL : List Str} {n : Nat} {k : Int} {u : Tok} (N : News h₀ L s.heap news) (hm : (l, W.listOf vs.toArray n) ∈ news) (hS : StrsAre vs SL) (h0 : 0 ≤ k) (h6 : k.toNat < SL.length) (hsz : SL.length ≤ 100) (h : ∀ t, Q (.str (SL.getD k.toNat Str.empty) t) s)
    (hs : subscripted slice false (.ref l) (.int k u) = operate [.ref l, .int k u] (getItem (.ref l) (.int k u)) := by with_unfolding_all rfl) (hg : ∀ r, letTemporaryGo value (.ref l) r = pure () := by intro _; with_unfolding_all rfl) :
    wpAny (model prog w) A (subscriptTail value slice (.ref l) (.int k u)) Q E s := by
  have hx : ∃ t, vs[k.toNat]? = some (.str (SL.getD k.toNat Str.empty) t) := by
    have : ∀ {vs : List Value} {SL : List Str}, StrsAre vs SL → ∀ j, j < SL.length → ∃ t, vs[j]? = some (.str (SL.getD j Str.empty) t) := by
      intro vs SL hS
      induction hS with
      | nil => intro j hj; exact absurd hj (Nat.not_lt_zero _)
      | cons y t h ih =>
        intro j hj
        cases j with
        | zero => exact ⟨t, rfl⟩
        | succ j => simpa using ih j (by simpa using hj)
    exact this hS _ h6
  obtain ⟨t, hx⟩ := hx
  exact item_list (News.isList N hm) h0 (by omega) (by rw [List.getElem?_toArray]; exact hx) (h t) hs hg
end
section
variable {prog : Program} {w : World} {A : Around} {h₀ : Heap} {L : Addr} {m : Str → Option Value} {env : Env} {ct elt : Expr} {x : Str} {scope : Scope} {cl : List (Str × Addr)} {s : Shared} {S : List (Addr × Obj) → Prop} {Fin : List Value → List (Addr × Obj) → Prop} {news : List (Addr × Obj)}
theorem strs_snoc : ∀ {vs : List Value} {ys : List Str} {y : Str} {t : Tok}, StrsAre vs ys → StrsAre (vs ++ [.str y t]) (ys ++ [y])
  | _, _, _, _, .nil => .cons _ _ .nil
  | _, _, _, _, .cons z u r => .cons z u (strs_snoc r)
theorem kst_range {n : Nat} (test : Int → Bool) (f : Int → Str)
    (turn : ∀ k t I oI C oC D m₂ ys h tk (E' : Value → Shared → Prop), 0 ≤ k → k < (n : Int) → LCg.NsObj oC m₂ → m₂ x = some (.int k t) → Fr h₀ L h m → News h₀ L h ((I, oI) :: (C, oC) :: (D, LCg.lst ys) :: news) → LCg.Off3 I C D news → ((@Ne Nat I C) ∧ (@Ne Nat I D) ∧ (@Ne Nat C D)) →
      wpAny (model prog w) A (isTrue ct (compEnvC scope cl C env) (eval ct (compEnvC scope cl C env))) (fun b s' => if b = true then wpAny (model prog w) A (eval elt (compEnvC scope cl C env)) (LCg.CompEnd h₀ L m { s with heap := h, toks := tk } I oI C oC D (LCg.lst ys) S (fun y news' => news' = news ∧ test k = true ∧ ∃ t, y = .str (f k) t)) E' s'
        else LCg.CompEnd h₀ L m { s with heap := h, toks := tk } I oI C oC D (LCg.lst ys) S (fun _ news' => news' = news ∧ test k = false) Value.none s') E' { s with heap := h, toks := tk })
    (fin : ∀ ys, StrsAre ys (((rangeKs 0 n).filter test).map f) → Fin ys news) : LCt.CompRestT prog w A h₀ L m env ct elt x scope cl s S (fun i v => ∃ t, v = .int (0 + (i : Int)) t) Fin n 0 [] news := by
  have hks := rangeKs_length 0 n
  have key : ∀ (j i : Nat) (ys : List Value), i + j = n → StrsAre ys ((((rangeKs 0 n).take i).filter test).map f) → LCt.CompRestT prog w A h₀ L m env ct elt x scope cl s S (fun i v => ∃ t, v = .int (0 + (i : Int)) t) Fin j i ys news := by
    intro j
    induction j with
    | zero =>
      intro i ys hi hy
      have e : i = (rangeKs 0 n).length := by omega
      rw [e, List.take_length] at hy
      exact LCt.CompRestT.zero (fin ys hy)
    | succ j ih =>
      intro i ys hi hy
      refine LCt.CompRestT.succ ?_
      intro v I oI C oC D m₂ h tk E' hv hC hx F N off ne
      obtain ⟨t, rfl⟩ := hv
      have hk : (rangeKs 0 n)[i]? = some (0 + (i : Int)) := by simp [rangeKs, show i < n by omega]
      have hs : (((rangeKs 0 n).take (i + 1)).filter test).map f = (((rangeKs 0 n).take i).filter test).map f ++ (if test (0 + (i : Int)) then [f (0 + (i : Int))] else []) := by
        rw [List.take_add_one, hk, List.filter_append, List.map_append]
        congr 1
        cases htt : test (0 + (i : Int)) <;> simp only [Option.toList, List.filter_cons, List.filter_nil, htt] <;> rfl
      refine wpAny_mono (turn _ t I oI C oC D m₂ ys h tk E' (by omega) (by omega) hC hx F N off ne) (fun b s₂ hq => ?_) fun _ _ e => e
      cases b with
      | true =>
        simp only [if_true] at hq ⊢
        refine wpAny_mono hq (fun y s₃ hr => ?_) fun _ _ e => e
        obtain ⟨h', tk', nw, e, F', N', off', hS, hn, ht, t', rfl⟩ := hr
        rw [hn] at N' off' hS
        refine ⟨h', tk', news, e, F', N', off', hS, ?_⟩
        refine ih (i + 1) _ (by omega) ?_
        rw [hs, ht]
        exact strs_snoc hy
      | false =>
        simp only [Bool.false_eq_true, if_false] at hq ⊢
        obtain ⟨h', tk', nw, e, F', N', off', hS, hn, ht⟩ := hq
        rw [hn] at N' off' hS
        refine ⟨h', tk', news, e, F', N', off', hS, ih (i + 1) _ (by omega) ?_⟩
        rw [hs, ht]
        simpa using hy
  exact key n 0 [] (by omega) .nil
end
theorem ifs3' {α : Type} {m : Str → Option α} {a b c : Str} {va vb vc : Option α} (ha : m a = va) (hb : m b = vb) (hc : m c = vc) : m = fun y => if y = a then va else if y = b then vb else if y = c then vc else m y := by
  funext y
  by_cases h1 : y = a
  · rw [if_pos h1, h1, ha]
  · rw [if_neg h1]
    by_cases h2 : y = b
    · rw [if_pos h2, h2, hb]
    · rw [if_neg h2]
      by_cases h3 : y = c
      · rw [if_pos h3, h3, hc]
      · rw [if_neg h3]
section
local macro_rules | `(tactic| walk_at "subscriptTail Name Name ref int") => `(tactic| first | (with_unfolding_all refine item6 (by with_reducible assumption) (by k_mem) (by with_reducible assumption) (by with_reducible assumption) ?_ (by with_unfolding_all rfl) (by intro _; with_unfolding_all rfl)))
local macro_rules | `(tactic| walk_at "compareOp In int ref") => `(tactic| with_unfolding_all refine stop_intro ?_)
local macro_rules | `(tactic| walk_at "CompSrcT") => `(tactic| with_unfolding_all refine stop_intro ?_)
local macro_rules | `(tactic| walk_at "CompSrc") => `(tactic| with_unfolding_all refine stop_intro ?_)
local macro_rules | `(tactic| walk_at "ite") => `(tactic| with_unfolding_all refine stop_intro ?_)
local macro_rules | `(tactic| walk_at "subscriptTail Name BinOp ref int") => `(tactic| first | (with_unfolding_all refine item_str (by with_reducible assumption) (by k_mem) (by with_reducible assumption) (by omega) (by omega) (by omega) ?_ (by with_unfolding_all rfl) (by intro _; with_unfolding_all rfl); intro _))
set_option maxHeartbeats 8000000 in
theorem law_K (w : World) (dp un : Nat) (fr : Option (List Env)) (gd : Option (List Code)) (s : Shared) (Q : Flow → Shared → Prop) (g h₁ : Heap) (L : Addr) (mean : ExcName → Option Value) (mg mb : Str → Option Value) (X : (KF w.params).In g) (T : Top qv (looseW qv loose) mean mg mb g)
   (hd : dp + 32 < recursionLimit) (hu : un + 128 < cLine) (b0 b1 b2 b3 b4 b5 : Bool) (cY cK cS c : Nat) (k i q0 q1 q2 M : Int) (tcc tk1 ti tM : Tok) (kv sv : List Value) (SL : List Str) (hk0 : 0 ≤ k) (hk6 : k < 6) (hi0 : 0 ≤ i) (hi5 : i < 5) (hK : IntsAre kv [q0, q1, q2]) (hS : StrsAre sv SL) (hSl : SL.length = 15)
   (m : Str → Option Value) (aY aK aS : Addr) (tk : Tok) (o1 o2 o4 o5 : Obj) (rest : List (Addr × Obj)) (hd1 : o1.data = .cell (some (.ref aS))) (hd2 : o2.data = .cell (some (.int i ti))) (hd4 : o4.data = .cell (some (.ref aK))) (hd5 : o5.data = .cell (some (.int k tk1)))
   (hm1 : m (Str.ofString "says") = some (.ref aY)) (hm2 : m (Str.ofString "sign") = some (.str ⟨#[c]⟩ tcc)) (hm3 : m (Str.ofString "mask") = some (.int M tM))
   (hb : [b0, b1, b2, b3, b4, b5].getD k.toNat false = (([q0, q1, q2].any fun x => x == k) && ((List.map (fun n => SL.getD (3 * i + n).toNat Str.empty) (List.filter (fun n => decide ([q0, q1, q2].getD n.toNat 0 = k)) (rangeKs 0 3))).any fun x => x == ⟨#[c]⟩)))
   (F : Fr g L h₁ m) (N : News g L h₁ ((aY, W.listOf #[.bool b0, .bool b1, .bool b2, .bool b3, .bool b4, .bool b5] cY) :: (aK, W.listOf kv.toArray cK) :: (aS, W.listOf sv.toArray cS) :: (L + 1, o1) :: (L + 2, o2) :: (L + 4, o4) :: (L + 5, o5) :: rest))
   (hQ : ∀ h' tk' t' m', Fr g L h' m' → m' (Str.ofString "mask") = some (.int (if [b0, b1, b2, b3, b4, b5].getD k.toNat false then Builtin.bitOr M (2 ^ k.toNat) else M) t') → (∀ y, y ≠ Str.ofString "mask" → m' y = m y) → News g L h' ((aY, W.listOf #[.bool b0, .bool b1, .bool b2, .bool b3, .bool b4, .bool b5] cY) :: (aK, W.listOf kv.toArray cK) :: (aS, W.listOf sv.toArray cS) :: (L + 1, o1) :: (L + 2, o2) :: (L + 4, o4) :: (L + 5, o5) :: rest) → Q .next { s with heap := h', toks := tk' }) :
   wpAny (model PySem.Challenge.rw_sr0008_01.prog w) ((AR dp un fr gd).deeper (lawE L)) (execs bodyK (lawE L)) Q (fun _ _ => False) { s with heap := h₁, toks := tk } := by
  have em := ifs3' hm1 hm2 hm3
  rw [em] at F
  revert X T
  k_fill
  intro X T
  k_steps
  unfold Stop
  refine in_list_ints (News.isList (by with_reducible assumption) (by k_mem)) hK ?_
  k_steps
  unfold Stop
  split
  · k_steps
    unfold Stop
    (with_reducible rename Fr _ _ _ _ => kF)
    (with_reducible rename News _ _ _ _ => kN)
    (with_reducible rename IsRange _ _ _ _ _ _ _ _ => kR)
    refine LCt.CompSrcT.range ?_ kF kN kR (by decide) (n := 3) (by rfl) (by rw [sizeLine_eq]; decide) ?_
    · rfl
    intro g9
    refine kst_range (fun n => decide ([q0, q1, q2].getD n.toNat 0 = k)) (fun n => SL.getD (3 * i + n).toNat Str.empty) (fun n t I oI C oC D' m₂ ys h tk E' hn0 hn3 hC hm F' N' off' ne' => ?_) ?_
    · simp only [LCg.Off3, and_true] at off'
      k_steps
      unfold Stop
      split
      · rename_i hte
        have hte2 := decide_eq_true (eq_of_beq hte)
        k_steps
        exact LCg.CompEnd.intro F' N' _ (fun p hp => hp) (by simp only [LCg.Off3, and_true]; exact off') trivial ⟨rfl, hte2, _, rfl⟩
      · rename_i hte
        exact LCg.CompEnd.intro F' N' _ (fun p hp => hp) (by simp only [LCg.Off3, and_true]; exact off') trivial ⟨rfl, decide_eq_false (by simpa using hte)⟩
    · intro ys hys
      dsimp only [LCg.FinE]
      intro D h tk F' N' off'
      simp only [LCg.Off1, and_true] at off'
      have hbn : ([b0, b1, b2, b3, b4, b5].getD k.toNat false != (List.map (fun n => SL.getD (3 * i + n).toNat Str.empty) (List.filter (fun n => decide ([q0, q1, q2].getD n.toNat 0 = k)) (rangeKs 0 3))).any fun x => x == ⟨#[c]⟩) = false := by
        rename_i hkin _ _ _ _ _ _
        rw [hb, hkin, Bool.true_and, bne_self_eq_false]
      k_steps
      unfold Stop
      rw [hbn, if_neg Bool.false_ne_true]
      k_steps
      unfold Stop
      split
      · rename_i hbt
        k_steps
        all_goals (try (show wpAny _ _ (execs [] _) _ _ _; refine wpAny_pure ?_))
        (with_reducible rename Fr _ _ _ _ => kF)
        (with_reducible rename News _ _ _ _ => kN)
        refine hQ _ _ _ _ kF (by rw [show [b0, b1, b2, b3, b4, b5].getD k.toNat false = true by simpa using hbt]; with_unfolding_all rfl) (fun y hy => ?_) (fun p hp => kN p (List.mem_cons_of_mem _ hp))
        have e := congrFun em y
        simp only [if_neg hy] at e ⊢
        exact e.symm
      · rename_i hbt
        k_steps
        all_goals (try (show wpAny _ _ (execs [] _) _ _ _; refine wpAny_pure ?_))
        (with_reducible rename Fr _ _ _ _ => kF)
        (with_reducible rename News _ _ _ _ => kN)
        refine hQ _ _ _ _ kF (by rw [show [b0, b1, b2, b3, b4, b5].getD k.toNat false = false by simpa using hbt]; with_unfolding_all rfl) (fun y hy => (congrFun em y).symm) (fun p hp => kN p (List.mem_cons_of_mem _ hp))
  · rename_i hkin
    have hbn : ([b0, b1, b2, b3, b4, b5].getD k.toNat false != [q0, q1, q2].any fun x => x == k) = false := by
      rw [hb, Bool.eq_false_iff.mpr hkin, Bool.false_and]; rfl
    k_steps
    unfold Stop
    rw [hbn, if_neg Bool.false_ne_true]
    k_steps
    unfold Stop
    split
    · rename_i hbt
      k_steps
      all_goals (try (show wpAny _ _ (execs [] _) _ _ _; refine wpAny_pure ?_))
      (with_reducible rename Fr _ _ _ _ => kF)
      (with_reducible rename News _ _ _ _ => kN)
      refine hQ _ _ _ _ kF (by rw [show [b0, b1, b2, b3, b4, b5].getD k.toNat false = true by simpa using hbt]; with_unfolding_all rfl) (fun y hy => ?_) (fun p hp => kN p hp)
      have e := congrFun em y
      simp only [if_neg hy] at e ⊢
      exact e.symm
    · rename_i hbt
      k_steps
      all_goals (try (show wpAny _ _ (execs [] _) _ _ _; refine wpAny_pure ?_))
      (with_reducible rename Fr _ _ _ _ => kF)
      (with_reducible rename News _ _ _ _ => kN)
      refine hQ _ _ _ _ kF (by rw [show [b0, b1, b2, b3, b4, b5].getD k.toNat false = false by simpa using hbt]; with_unfolding_all rfl) (fun y hy => (congrFun em y).symm) (fun p hp => kN p hp)
end
end Mine
end
section
open PySem PySem.W PyProof.Rows PySem.Calls
set_option maxRecDepth 100000
namespace Mine
section
variable {prog : Program} {w : World} {A : Around} {E : Value → Shared → Prop} {env : Env} {h₀ : Heap} {Q : Flow → Shared → Prop}
theorem str_mine {x : Str} {px : Pos} {body orelse : List Stmt} {X : Str} {t : Tok} {s : Shared} {m : Str → Option Value} {news : List (Addr × Obj)} (J : Nat → (Str → Option Value) → List (Addr × Obj) → Prop)
    (hh : A.handled = none) (F : Fr h₀ env.locals s.heap m) (N : News h₀ env.locals s.heap news) (h0 : J 0 m news)
    (turn : ∀ i c t I oI m₁ news₁ h tk, X.cps[i]? = some c → J i m₁ news₁ → Fr h₀ env.locals h m₁ → News h₀ env.locals h ((I, oI) :: news₁) → (∀ p ∈ news₁, I ≠ p.1) →
      wpAny (model prog w) A (storeName env x (.str ⟨#[c]⟩ t)) (fun _ s₂ => wpAny (model prog w) A (execs body env) (EndM s h₀ env.locals (I, oI) (J (i + 1)) Q) (fun _ _ => False) s₂) (fun _ _ => False) { s with heap := h, toks := tk })
    (done : ∀ m₁ news₁ h tk, J X.cps.size m₁ news₁ → Fr h₀ env.locals h m₁ → News h₀ env.locals h news₁ → wpAny (model prog w) A (execs orelse env) Q (fun _ _ => False) { s with heap := h, toks := tk }) :
    wpAny (model prog w) A (pyIter (.str X t)) (fun it s₂ => codeAny (model prog w) A (.forLoop (.Name x px) it body orelse env) (fun r s' => match r with | .ok f => Q f s' | .error e => cameBackBy (model prog w) A env E e s') s₂) E s := by
  have nx := next_is_new F
  have nL : s.heap.objs.size ≠ env.locals := fun e => absurd F.ns.lt (e ▸ Nat.lt_irrefl _)
  cases ha : X.cps.all (· < 128)
  · refine wpAny_pyIter_wide ha ?_
    refine loop_mine s (Walks.strWide (prog := prog) (w := w) hh s.heap.objs.size X t) (fun i h st => let ⟨o, ho, _⟩ := st; ⟨o, ho⟩) [] (fun b hb hbI => absurd (List.mem_singleton.mp hb) hbI) J (fun _ _ _ _ _ hp => nomatch hp) nL nx ⟨_, Heap.get?_push_size _ rfl, rfl, rfl⟩ (F.push _) (fun p hp => ⟨Heap.get?_push_of_some _ (N p hp).1, (N p hp).2⟩)
      (fun p hp hI => absurd (Heap.lt_size (N p hp).1) (hI ▸ Nat.lt_irrefl _)) h0 (fun i v oI m₁ news₁ h tk hi hP hJ F₁ N₁ off => ?_) done
    obtain ⟨c, u, hc, rfl⟩ := hP
    exact turn i c u _ oI m₁ news₁ h tk hc hJ F₁ N₁ off
  · refine wpAny_pyIter_ascii ha ?_
    refine loop_mine s (Walks.strAscii (prog := prog) (w := w) hh s.heap.objs.size X t) (fun i h st => let ⟨o, ho, _⟩ := st; ⟨o, ho⟩) [] (fun b hb hbI => absurd (List.mem_singleton.mp hb) hbI) J (fun _ _ _ _ _ hp => nomatch hp) nL nx ⟨_, Heap.get?_push_size _ rfl, rfl, rfl⟩ (F.push _) (fun p hp => ⟨Heap.get?_push_of_some _ (N p hp).1, (N p hp).2⟩)
      (fun p hp hI => absurd (Heap.lt_size (N p hp).1) (hI ▸ Nat.lt_irrefl _)) h0 (fun i v oI m₁ news₁ h tk hi hP hJ F₁ N₁ off => ?_) done
    obtain ⟨c, u, hc, rfl⟩ := hP
    exact turn i c u _ oI m₁ news₁ h tk hc hJ F₁ N₁ off
end
end Mine
end
section
open PySem PySem.W PyProof.Rows PySem.Calls PyProof.V PySem.Spec
set_option maxRecDepth 100000
namespace Mine
noncomputable def tabs6 (c : Nat) : List Bool := [isB1 c, isC4 c, isC6 c, isC7 c, isC8 c, isC9 c]
noncomputable def maskI (M : Int) (c : Nat) : Nat → Int
  | 0 => M
  | k + 1 => if (tabs6 c).getD k false then Builtin.bitOr (maskI M c k) (2 ^ k) else maskI M c k
noncomputable def goodC (SL : List Str) (i q0 q1 q2 : Int) (c : Nat) : Prop := ∀ k : Nat, k < 6 → (tabs6 c).getD k false = (([q0, q1, q2].any fun x => x == (k : Int)) && ((List.map (fun n => SL.getD (3 * i + n).toNat Str.empty) (List.filter (fun n => decide ([q0, q1, q2].getD n.toNat 0 = (k : Int))) (rangeKs 0 3))).any fun x => x == ⟨#[c]⟩))
theorem call_tab {w : World} {f : Addr} {c : Nat} {b : Bool} {tk : Tok} {dp un : Nat} {fr : Option (List Env)} {gd : Option (List Code)} {env : Env} {s : Shared} {Q E : Value → Shared → Prop} {h₀ : Heap} {L : Addr} {m : Str → Option Value} {news : List (Addr × Obj)} {mean : ExcName → Option Value} {mg mb : Str → Option Value}
    (S : PSpec w f [.str ⟨#[c]⟩ tk] (fun _ => True) (fun v _ => v = .bool b)) (F : Fr h₀ L s.heap m) (X : (KF w.params).In h₀) (T : Top qv (looseW qv loose) mean mg mb h₀) (N : News h₀ L s.heap news) (hd : dp + 32 < recursionLimit) (hu : un + 128 < cLine)
    (h : ∀ h' tk', Fr h₀ L h' m → News h₀ L h' news → Q (.bool b) { s with heap := h', toks := tk' }) :
    wpAny (model PySem.Challenge.rw_sr0008_01.prog w) ((AR dp un fr gd).deeper env) (call (.ref f) [.str ⟨#[c]⟩ tk]) Q E s :=
  PSpec.use (dp := dp + 1) S F X T N trivial (by omega) (by show un + 3 + 64 < cLine; omega) fun v h' tk' F' N' _ hp => by subst hp; exact h h' tk' F' N'
noncomputable def JK (L : Addr) (M : Int) (c : Nat) (m1 : Str → Option Value) (pre : List (Addr × Obj)) (rest : List (Addr × Obj)) (j : Nat) (m : Str → Option Value) (news : List (Addr × Obj)) : Prop :=
  ∃ (o5' : Obj) (v5' : Option Value) (t' : Tok), m (Str.ofString "mask") = some (.int (maskI M c j) t') ∧ (∀ y, y ≠ Str.ofString "mask" → m y = m1 y) ∧ news = pre ++ (L + 5, o5') :: rest ∧ o5'.data = .cell v5'
section
local macro_rules | `(tactic| walk_at "call ref") => `(tactic| ((with_unfolding_all first
  | refine call_tab (f := 88) (b1_spec _ _ _) (by with_reducible assumption) (by with_reducible assumption) (by with_reducible assumption) (by with_reducible assumption) (by with_reducible assumption) (by with_reducible assumption) ?_
  | refine call_tab (f := 95) (c4_spec _ _ _) (by with_reducible assumption) (by with_reducible assumption) (by with_reducible assumption) (by with_reducible assumption) (by with_reducible assumption) (by with_reducible assumption) ?_
  | refine call_tab (f := 107) (c6_spec _ _ _) (by with_reducible assumption) (by with_reducible assumption) (by with_reducible assumption) (by with_reducible assumption) (by with_reducible assumption) (by with_reducible assumption) ?_
  | refine call_tab (f := 119) (c7_spec _ _ _) (by with_reducible assumption) (by with_reducible assumption) (by with_reducible assumption) (by with_reducible assumption) (by with_reducible assumption) (by with_reducible assumption) ?_
  | refine call_tab (f := 143) (c8_spec _ _ _) (by with_reducible assumption) (by with_reducible assumption) (by with_reducible assumption) (by with_reducible assumption) (by with_reducible assumption) (by with_reducible assumption) ?_
  | refine call_tab (f := 161) (c9_spec _ _ _) (by with_reducible assumption) (by with_reducible assumption) (by with_reducible assumption) (by with_reducible assumption) (by with_reducible assumption) (by with_reducible assumption) ?_); intro hT9 tkT9 FT9 NT9))
local macro_rules | `(tactic| walk_at "exec For Name Call cons nil") => `(tactic| with_unfolding_all refine For_mine ?_)
local macro_rules | `(tactic| k_all) => `(tactic| with_reducible assumption)
set_option maxHeartbeats 8000000 in
theorem law_S (w : World) (dp un : Nat) (fr : Option (List Env)) (gd : Option (List Code)) (s : Shared) (Q : Flow → Shared → Prop) (g h₁ : Heap) (L : Addr) (mean : ExcName → Option Value) (mg mb : Str → Option Value) (X : (KF w.params).In g) (T : Top qv (looseW qv loose) mean mg mb g)
   (hd : dp + 32 < recursionLimit) (hu : un + 128 < cLine) (cK cS c : Nat) (i q0 q1 q2 M : Int) (tcc ti tM : Tok) (kv sv : List Value) (SL : List Str) (hi0 : 0 ≤ i) (hi5 : i < 5) (hK : IntsAre kv [q0, q1, q2]) (hS : StrsAre sv SL) (hSl : SL.length = 15)
   (m : Str → Option Value) (aK aS : Addr) (tk : Tok) (o1 o2 o4 o5 : Obj) (v5 : Option Value) (rest : List (Addr × Obj)) (hd1 : o1.data = .cell (some (.ref aS))) (hd2 : o2.data = .cell (some (.int i ti))) (hd4 : o4.data = .cell (some (.ref aK))) (hd5 : o5.data = .cell v5)
   (hm2 : m (Str.ofString "sign") = some (.str ⟨#[c]⟩ tcc)) (hm3 : m (Str.ofString "mask") = some (.int M tM)) (hc : goodC SL i q0 q1 q2 c) (hr5 : ∀ p ∈ rest, p.1 ≠ L + 5) (hne : L + 5 ≠ aK ∧ L + 5 ≠ aS)
   (F : Fr g L h₁ m) (N : News g L h₁ ((aK, W.listOf kv.toArray cK) :: (aS, W.listOf sv.toArray cS) :: (L + 1, o1) :: (L + 2, o2) :: (L + 4, o4) :: (L + 5, o5) :: rest))
   (hQ : ∀ h' tk' t' o5' v5' m', Fr g L h' m' → m' (Str.ofString "mask") = some (.int (maskI M c 6) t') → (∀ y, y ≠ Str.ofString "mask" → y ≠ Str.ofString "says" → m' y = m y) → News g L h' ((aK, W.listOf kv.toArray cK) :: (aS, W.listOf sv.toArray cS) :: (L + 1, o1) :: (L + 2, o2) :: (L + 4, o4) :: (L + 5, o5') :: rest) → o5'.data = .cell v5' → Q .next { s with heap := h', toks := tk' }) :
   wpAny (model PySem.Challenge.rw_sr0008_01.prog w) ((AR dp un fr gd).deeper (lawE L)) (execs bodyS (lawE L)) Q (fun _ _ => False) { s with heap := h₁, toks := tk } := by
  have em := ifs2 hm2 hm3
  rw [em] at F
  revert X T
  k_fill
  intro X T
  k_steps
  rename_i lY hY lt1 h3 F0 N0 h4 tk4 t1 u1 v1 r1 F1 N1 k1
  have hYne : L + 5 ≠ lY := Nat.ne_of_lt lt1.2.2.2.2.2.1
  refine range_mine (n := 6) (JK L M c (fun y => if y = Str.ofString "says" then some (.ref lY) else m y) [(lY, W.listOf #[.bool (isB1 c), .bool (isC4 c), .bool (isC6 c), .bool (isC7 c), .bool (isC8 c), .bool (isC9 c)] 0), (aK, W.listOf kv.toArray cK), (aS, W.listOf sv.toArray cS), (L + 1, o1), (L + 2, o2), (L + 4, o4)] rest) rfl r1 (by decide) (by rfl) F1 N1 ?_ ?_ ?_
  · refine ⟨o5, v5, tM, by with_unfolding_all rfl, fun y hy => ?_, rfl, hd5⟩
    have e := congrFun em y
    by_cases hs : y = Str.ofString "says"
    · simp only [if_pos hs]
    · simp only [if_neg hs]
      exact e.symm
  · rintro j tj I oI m₂ _ h5 tk5 hj ⟨o5', v5', t', e1, e2, rfl, hd5'⟩ F5 N5 off
    rw [Int.zero_add]
    refine storeX_C (c := L + 5) F5 N5 rfl (.tail (off (L + 5, o5') (by k_mem)) (.tail (Ne.symm hYne) (.tail (Ne.symm hne.1) (.tail (Ne.symm hne.2) (.tail (by k_ne) (.tail (by k_ne) (.tail (by k_ne) (.head hr5)))))))) hd5' ?_ rfl rfl
    intro h6 o6 F6 N6 d6
    refine law_K w dp un fr gd s _ g h6 L mean mg mb X T hd hu (isB1 c) (isC4 c) (isC6 c) (isC7 c) (isC8 c) (isC9 c) 0 cK cS c (j : Int) i q0 q1 q2 (maskI M c j) tcc tj ti t' kv sv SL (Int.natCast_nonneg _) (by omega) hi0 hi5 hK hS hSl m₂ lY aK aS tk5 o1 o2 o4 o6 ((I, oI) :: rest) hd1 hd2 hd4 d6 (by rw [e2 _ (by decide)]; exact if_pos rfl) (by rw [e2 _ (by decide)]; exact (if_neg (by decide)).trans hm2) e1 (by rw [Int.toNat_natCast]; exact hc j hj) F6 (fun p hp => N6 p ?_) ?_
    · iterate 8 (rcases List.mem_cons.mp hp with rfl | hp; (· k_mem))
      repeat (first | exact hp | refine List.Mem.tail _ ?_)
    · intro h7 tk7 t7 m7 F7 hmask hoth N7
      refine ⟨h7, tk7, m7, [(lY, W.listOf #[.bool (isB1 c), .bool (isC4 c), .bool (isC6 c), .bool (isC7 c), .bool (isC8 c), .bool (isC9 c)] 0), (aK, W.listOf kv.toArray cK), (aS, W.listOf sv.toArray cS), (L + 1, o1), (L + 2, o2), (L + 4, o4)] ++ (L + 5, o6) :: rest, rfl, F7, fun p hp => N7 p ?_, fun p hp => ?_, ⟨o6, _, t7, ?_, fun y hy => (hoth y hy).trans (e2 y hy), rfl, d6⟩⟩
      · iterate 8 (rcases List.mem_cons.mp hp with rfl | hp; (· k_mem))
        repeat (first | exact hp | refine List.Mem.tail _ ?_)
      · simp only [List.cons_append, List.nil_append, List.mem_cons] at hp
        rcases hp with rfl | rfl | rfl | rfl | rfl | rfl | rfl | hp
        · exact off _ (by k_mem)
        · exact off _ (by k_mem)
        · exact off _ (by k_mem)
        · exact off _ (by k_mem)
        · exact off _ (by k_mem)
        · exact off _ (by k_mem)
        · exact off (L + 5, o5') (by k_mem)
        · exact off p (by repeat (first | exact hp | refine List.Mem.tail _ ?_))
      · rw [hmask, Int.toNat_natCast]
        rfl
  · rintro m₂ _ h5 tk5 ⟨o5', v5', t', e1, e2, rfl, hd5'⟩ F5 N5
    refine wpAny_pure ?_
    refine wpAny_pure ?_
    exact hQ h5 tk5 t' o5' v5' m₂ F5 e1 (fun y h1 h2 => (e2 y h1).trans (if_neg h2)) (fun p hp => N5 p (List.mem_cons_of_mem _ hp)) hd5'
end
end Mine
end
section
open PySem PySem.W PyProof.Rows PySem.Calls PyProof.V PySem.Spec
set_option maxRecDepth 100000
namespace Mine
theorem is_lst {h₀ h : Heap} {L a : Addr} {its : Array Value} {n : Nat} {news : List (Addr × Obj)} (N : News h₀ L h news) (hm : (a, W.listOf its n) ∈ news) : h.IsList a its := ⟨_, (N _ hm).1, rfl, n, rfl⟩
noncomputable def maskAll (X : List Nat) : Int := X.foldl (fun M c => maskI M c 6) 0
section
variable {prog : Program} {w : World} {A : Around} {E : Value → Shared → Prop} {s : Shared} {Q : Value → Shared → Prop} {h₀ : Heap} {L l : Addr} {m : Str → Option Value} {news : List (Addr × Obj)} {value slice : PySem.Expr}
theorem slice_ints {NS : List Int} {vs : List Value} {a b : Int} {ta tb : Tok} {n : Nat} (F : Fr h₀ L s.heap m) (N : News h₀ L s.heap news) (hm : (l, W.listOf vs.toArray n) ∈ news) (hS : IntsAre vs NS) (ha : 0 ≤ a) (hab : a ≤ b) (hb : b.toNat ≤ NS.length) (hsz : NS.length ≤ 100)
    (h : ∀ D ws h', Fr h₀ L h' m → News h₀ L h' ((D, W.listOf (List.toArray ws) 0) :: news) → (∀ p ∈ news, p.1 < D) → IntsAre ws ((NS.drop a.toNat).take (b.toNat - a.toNat)) → Q (.ref D) { s with heap := h' })
    (hs : subscripted slice false (.ref l) (.ref s.heap.objs.size) = operate [.ref s.heap.objs.size, .ref l] (getItem (.ref l) (.ref s.heap.objs.size))) (ht : ∀ r, letTemporaryGo value (.ref l) r = pure ()) :
    wpAny (model prog w) A (subscriptTail value slice (.ref l) (.ref s.heap.objs.size)) Q E { s with heap := s.heap.push { cls := .type "slice", data := .fields #[.int a ta, .int b tb, .none] } } := by
  have hl := IntsAre.length hS
  refine kmk_slice F N (News.isList N hm) (IsPart.int _ _) (IsPart.int _ _) (fun D h' F' N' l1 => ?_) hs ht (by rw [List.size_toArray, hl, sizeLine_eq]; omega)
  rw [pick_run ha hab (hl ▸ hb)] at N'
  exact h D _ h' F' N' l1 ((hS.drop _).take _)
end
theorem three {NS : List Int} {i : Int} (h0 : 0 ≤ i) (h5 : i < 5) (hl : NS.length = 15) : (NS.drop (3 * i).toNat).take ((3 * i + 3).toNat - (3 * i).toNat) = [NS.getD (3 * i).toNat 0, NS.getD (3 * i + 1).toNat 0, NS.getD (3 * i + 2).toNat 0] := by
  have hi : i = 0 ∨ i = 1 ∨ i = 2 ∨ i = 3 ∨ i = 4 := by omega
  match NS, hl with
  | [a0, a1, a2, a3, a4, a5, a6, a7, a8, a9, a10, a11, a12, a13, a14], _ =>
    rcases hi with rfl | rfl | rfl | rfl | rfl <;> rfl
theorem maskAll_take {X : List Nat} {j c : Nat} (h : X[j]? = some c) : maskAll (X.take (j + 1)) = maskI (maskAll (X.take j)) c 6 := by
  unfold maskAll
  rw [List.take_add_one, h, List.foldl_append]
  rfl
noncomputable def JI (L : Addr) (XS : List Nat) (mm : Str → Option Value) (pre rest : List (Addr × Obj)) (j : Nat) (m : Str → Option Value) (news : List (Addr × Obj)) : Prop :=
  ∃ (o5' : Obj) (v5' : Option Value) (t' : Tok), m (Str.ofString "mask") = some (.int (maskAll (XS.take j)) t') ∧ (∀ y, y ≠ Str.ofString "mask" → y ≠ Str.ofString "sign" → y ≠ Str.ofString "says" → m y = mm y) ∧ news = pre ++ (L + 5, o5') :: rest ∧ o5'.data = .cell v5'
section
local macro_rules | `(tactic| walk_at "subscriptTail Name Slice ref ref") => `(tactic| with_unfolding_all refine stop_intro ?_)
local macro_rules | `(tactic| walk_at "eval ListComp") => `(tactic| k_dflt (refine LCg.ListComp_U (F₀ := by k_asm) (by with_unfolding_all rfl) (by decide) (by rfl) (by decide) (by rfl) ?_))
local macro_rules | `(tactic| walk_at "CompSrc") => `(tactic| with_unfolding_all refine stop_intro ?_)
local macro_rules | `(tactic| k_all) => `(tactic| with_reducible assumption)
local macro_rules | `(tactic| walk_at "exec For Name Subscript cons nil") => `(tactic| with_unfolding_all refine For_mine ?_)
local macro_rules | `(tactic| walk_at "subscriptTail Name Name ref int") => `(tactic| (with_unfolding_all refine item_str (by with_reducible assumption) (by k_mem) (by with_reducible assumption) (by with_reducible assumption) (by with_reducible assumption) (by with_reducible assumption) ?_ (by with_unfolding_all rfl) (by intro _; with_unfolding_all rfl); intro _))
local macro_rules | `(tactic| walk_at "binaryOp Add ref ref") => `(tactic| with_unfolding_all refine stop_intro ?_)
local macro_rules | `(tactic| walk_at "pyIter") => `(tactic| with_unfolding_all refine stop_intro ?_)
local macro_rules | `(tactic| walk_at "pyIter str") => `(tactic| with_unfolding_all refine stop_intro ?_)
local macro_rules | `(tactic| walk_at "call builtin:list.append") => `(tactic| with_unfolding_all refine stop_intro ?_)
local macro_rules | `(tactic| walk_at "ite") => `(tactic| with_unfolding_all refine stop_intro ?_)
local macro_rules | `(tactic| walk_at "exec For") => `(tactic| with_unfolding_all refine stop_intro ?_)
set_option maxHeartbeats 8000000 in
theorem law_I (w : World) (dp un : Nat) (fr : Option (List Env)) (gd : Option (List Code)) (s : Shared) (Q : Flow → Shared → Prop) (g h₁ : Heap) (L : Addr) (mean : ExcName → Option Value) (mg mb : Str → Option Value) (X : (KF w.params).In g) (T : Top qv (looseW qv loose) mean mg mb g)
   (hd : dp + 32 < recursionLimit) (hu : un + 128 < cLine) (cN cS cO cD c2 : Nat) (i : Int) (ti : Tok) (nv sv ov : List Value) (NS OS : List Int) (SL : List Str) (hi0 : 0 ≤ i) (hi5 : i < 5) (hN : IntsAre nv NS) (hNl : NS.length = 15) (hS : StrsAre sv SL) (hSl : SL.length = 15) (hO : IntsAre ov OS) (hOl : OS.length ≤ 5)
   (x0 x1 x2 x3 x4 R : Str) (ta tb tc u2 u3 u4 : Tok)
   (m : Str → Option Value) (aN aS aO D D2 : Addr) (tk : Tok) (o1 o2 o4 o5 : Obj) (v4 v5 : Option Value) (rest : List (Addr × Obj)) (hd1 : o1.data = .cell (some (.ref aS))) (hd2 : o2.data = .cell (some (.int i ti))) (hd4 : o4.data = .cell v4) (hd5 : o5.data = .cell v5)
   (hm1 : m (Str.ofString "nums") = some (.ref aN)) (hm2 : m (Str.ofString "first") = some (.ref D)) (hm3 : m (Str.ofString "second") = some (.ref D2)) (hm4 : m (Str.ofString "octets") = some (.ref aO))
   (hgood : ∀ c ∈ ([x0, x1, x2, x3, x4].getD i.toNat Str.empty).cps.toList, goodC SL i ((NS.getD (3 * i).toNat 0).fmod 9) ((NS.getD (3 * i + 1).toNat 0).fmod 9) ((NS.getD (3 * i + 2).toNat 0).fmod 9) c)
   (hr5 : ∀ p ∈ rest, p.1 ≠ L + 5) (hr4 : ∀ p ∈ rest, p.1 ≠ L + 4) (hrO : ∀ p ∈ rest, p.1 ≠ aO) (hne : LCg.Off1 (L + 4) [(aO, o1), (D2, o1), (D, o1), (aS, o1), (aN, o1)]) (hne5 : LCg.Off1 (L + 5) [(aO, o1), (D2, o1), (D, o1), (aS, o1), (aN, o1)]) (hneO : LCg.Off1 aO [(D2, o1), (D, o1), (aS, o1), (aN, o1), (L + 1, o1), (L + 2, o1)])
   (F : Fr g L h₁ m) (N : News g L h₁ ((aO, W.listOf ov.toArray cO) :: (D2, W.listOf #[.str x2 u2, .str x3 u3, .str x4 u4] c2) :: (D, W.listOf #[.str x0 ta, .str x1 tb, .str R tc] cD) :: (aS, W.listOf sv.toArray cS) :: (aN, W.listOf nv.toArray cN) :: (L + 1, o1) :: (L + 2, o2) :: (L + 4, o4) :: (L + 5, o5) :: rest))
   (hQ : ∀ h' tk' t' o4' o5' v4' v5' m', Fr g L h' m' → (∀ y, y ≠ Str.ofString "mask" → y ≠ Str.ofString "sign" → y ≠ Str.ofString "says" → m' y = m y) → News g L h' ((aO, W.listOf (ov.toArray.push (.int (maskAll ([x0, x1, x2, x3, x4].getD i.toNat Str.empty).cps.toList + (if i < 4 then 64 else 0)) t')) (cO + 1)) :: (D2, W.listOf #[.str x2 u2, .str x3 u3, .str x4 u4] c2) :: (D, W.listOf #[.str x0 ta, .str x1 tb, .str R tc] cD) :: (aS, W.listOf sv.toArray cS) :: (aN, W.listOf nv.toArray cN) :: (L + 1, o1) :: (L + 2, o2) :: (L + 4, o4') :: (L + 5, o5') :: rest) → o4'.data = .cell v4' → o5'.data = .cell v5' → Q .next { s with heap := h', toks := tk' }) :
   wpAny (model PySem.Challenge.rw_sr0008_01.prog w) ((AR dp un fr gd).deeper (lawE L)) (execs bodyI (lawE L)) Q (fun _ _ => False) { s with heap := h₁, toks := tk } := by
  have em := ifs4 hm1 hm2 hm3 hm4
  rw [em] at F
  simp only [LCg.Off1, and_true] at hne hne5 hneO
  revert X T
  k_fill
  intro X T
  k_steps
  unfold Stop
  (with_reducible rename Fr _ _ _ _ => kF)
  (with_reducible rename News _ _ _ _ => kN)
  refine slice_ints (n := cN) (NS := NS) (a := 3 * i) (b := 3 * i + 3) kF kN (by k_mem) hN (by omega) (by omega) (by omega) (by omega) ?_ (by with_unfolding_all rfl) (by intro _; with_unfolding_all rfl)
  intro D9 ws9 h9 F9 N9 l9 hws
  rw [three hi0 hi5 hNl] at hws
  try dsimp only
  k_steps
  unfold Stop
  refine LCg.CompSrc.ledger (its := ws9.toArray) (k := 0) (news := (D9, W.listOf ws9.toArray 0) :: (aO, W.listOf ov.toArray cO) :: (D2, W.listOf #[.str x2 u2, .str x3 u3, .str x4 u4] c2) :: (D, W.listOf #[.str x0 ta, .str x1 tb, .str R tc] cD) :: (aS, W.listOf sv.toArray cS) :: (aN, W.listOf nv.toArray cN) :: (L + 1, o1) :: (L + 2, o2) :: (L + 4, o4) :: (L + 5, o5) :: rest) ?_ ?_ ?_ ?_ ?_ ?_
  · rfl
  · exact F9
  · exact N9
  · exact List.mem_cons_self
  · rw [List.size_toArray, IntsAre.length hws, sizeLine_eq]; exact (by decide : 3 ≤ 16777216)
  intro g9
  refine kcf_list (fun k => k.fmod 9) hws (fun k t I oI C oC D' m₂ ys h tk E' hk hC hm F' N' off' ne' hmark => ?_) ?_
  · simp only [LCg.Off3, and_true] at off'
    k_steps
  · intro ys hys
    dsimp only [LCg.FinE]
    intro aK hh tkk F' N' off'
    simp only [LCg.Off1, and_true] at off'
    simp only [List.map_cons, List.map_nil] at hys
    have N2 : News g L hh ((aK, LCg.lst ys) :: (aO, W.listOf ov.toArray cO) :: (D2, W.listOf #[.str x2 u2, .str x3 u3, .str x4 u4] c2) :: (D, W.listOf #[.str x0 ta, .str x1 tb, .str R tc] cD) :: (aS, W.listOf sv.toArray cS) :: (aN, W.listOf nv.toArray cN) :: (L + 1, o1) :: (L + 2, o2) :: (L + 4, o4) :: (L + 5, o5) :: rest) := fun p hp => by
      rcases List.mem_cons.mp hp with rfl | hp
      · exact N' _ List.mem_cons_self
      · exact N' p (List.mem_cons_of_mem _ (List.mem_cons_of_mem _ hp))
    clear N' N9 kN l9
    replace off' := off'.2
    have h5s : StrsAre [.str x0 ta, .str x1 tb, .str x2 u2, .str x3 u3, .str x4 u4] [x0, x1, x2, x3, x4] := .cons _ _ (.cons _ _ (.cons _ _ (.cons _ _ (.cons _ _ .nil))))
    have h5l : [x0, x1, x2, x3, x4].length ≤ 100 := (by decide : 5 ≤ 100)
    have h5i : i.toNat < [x0, x1, x2, x3, x4].length := by show i.toNat < 5; omega
    refine storeX_C (c := L + 4) F' N2 rfl (.tail (Ne.symm off'.2.2.2.2.2.2.2.1) (.tail hne.1 (.tail hne.2.1 (.tail hne.2.2.1 (.tail hne.2.2.2.1 (.tail hne.2.2.2.2 (.tail (by k_ne) (.tail (by k_ne) (.head (List.forall_mem_cons.mpr ⟨by k_ne, hr4⟩)))))))))) hd4 ?_ rfl rfl
    intro h6 o6 F6 N6 d6
    k_steps
    unfold Stop
    refine kmk_slice_lit (zs := [.str x0 ta, .str x1 tb]) F6 N6 (is_lst N6 (n := cD) (its := #[.str x0 ta, .str x1 tb, .str R tc]) (by k_mem)) IsPart.none (IsPart.int _ _) (by rfl) ?_ (by with_unfolding_all rfl) (by intro _; with_unfolding_all rfl) (by rw [sizeLine_eq]; exact (by decide : 3 ≤ 16777216))
    intro D7 h7 F7 N7 l7
    try dsimp only
    k_steps
    unfold Stop
    refine kmk_add_lit (zs := [.str x0 ta, .str x1 tb, .str x2 u2, .str x3 u3, .str x4 u4]) F7 N7 (is_lst N7 (n := 0) (its := #[.str x0 ta, .str x1 tb]) (by k_mem)) (is_lst N7 (n := c2) (its := #[.str x2 u2, .str x3 u3, .str x4 u4]) (by k_mem)) (by rfl) ?_ (by rw [sizeLine_eq]; exact (by decide : 5 ≤ 16777216))
    intro D8 h8 F8 N8 l8
    try dsimp only
    k_steps
    unfold Stop
    have N9 : News g L h8 ((aK, LCg.lst ys) :: (aO, W.listOf ov.toArray cO) :: (D2, W.listOf #[.str x2 u2, .str x3 u3, .str x4 u4] c2) :: (D, W.listOf #[.str x0 ta, .str x1 tb, .str R tc] cD) :: (aS, W.listOf sv.toArray cS) :: (aN, W.listOf nv.toArray cN) :: (L + 1, o1) :: (L + 2, o2) :: (L + 4, o6) :: (L + 5, o5) :: rest) := fun p hp => N8 p (List.mem_cons_of_mem _ (List.mem_cons_of_mem _ hp))
    generalize hXS : [x0, x1, x2, x3, x4].getD i.toNat Str.empty = XS at hgood ⊢
    refine str_mine (JI L XS.cps.toList (fun y => if y = Str.ofString "mask" then some (Value.int 0 tk) else m y) [(aK, LCg.lst ys), (aO, W.listOf ov.toArray cO), (D2, W.listOf #[.str x2 u2, .str x3 u3, .str x4 u4] c2), (D, W.listOf #[.str x0 ta, .str x1 tb, .str R tc] cD), (aS, W.listOf sv.toArray cS), (aN, W.listOf nv.toArray cN), (L + 1, o1), (L + 2, o2), (L + 4, o6)] rest) rfl F8 N9 ?_ ?_ ?_
    · refine ⟨o5, v5, _, rfl, fun y h1 h2 h3 => ?_, rfl, hd5⟩
      simp only [if_neg h1]
      exact (congrFun em y).symm
    · rintro j c t I oI m₂ _ h tk2 hc ⟨o5', v5', t', e1, e2, rfl, hd5'⟩ F5 N5 off
      refine storeX_L F5 N5 ?_ rfl rfl
      intro ha Fa Na
      have hcm : c ∈ XS.cps.toList := by
        rw [← Array.getElem?_toList] at hc
        exact List.mem_of_getElem? hc
      refine law_S w dp un fr gd s _ g ha L mean mg mb X T hd hu ys.length cS c i _ _ _ (maskAll (XS.cps.toList.take j)) t ti t' ys sv SL hi0 hi5 hys hS hSl _ aK aS (tk2 + 1) o1 o2 o6 o5' v5' ((I, oI) :: (aO, W.listOf ov.toArray cO) :: (D2, W.listOf #[.str x2 u2, .str x3 u3, .str x4 u4] c2) :: (D, W.listOf #[.str x0 ta, .str x1 tb, .str R tc] cD) :: (aN, W.listOf nv.toArray cN) :: rest) hd1 hd2 d6 hd5' (if_pos rfl) ((if_neg (by decide)).trans e1) (hgood c hcm) ?_ ⟨off'.2.2.2.2.2.2.2.2.1, Ne.symm hne5.2.2.2.1⟩ Fa (fun p hp => Na p ?_) ?_
      · intro p hp
        simp only [List.mem_cons] at hp
        rcases hp with rfl | rfl | rfl | rfl | rfl | hp
        · exact off (L + 5, o5') (by k_mem)
        · exact hne5.1
        · exact hne5.2.1
        · exact hne5.2.2.1
        · exact hne5.2.2.2.2
        · exact hr5 p hp
      · iterate 11 (rcases List.mem_cons.mp hp with rfl | hp; (· k_mem))
        repeat (first | exact hp | refine List.Mem.tail _ ?_)
      · intro h7 tk7 t7 o7 v7 m7 F7' hmask hoth N7' hd7
        refine ⟨h7, tk7, m7, [(aK, LCg.lst ys), (aO, W.listOf ov.toArray cO), (D2, W.listOf #[.str x2 u2, .str x3 u3, .str x4 u4] c2), (D, W.listOf #[.str x0 ta, .str x1 tb, .str R tc] cD), (aS, W.listOf sv.toArray cS), (aN, W.listOf nv.toArray cN), (L + 1, o1), (L + 2, o2), (L + 4, o6)] ++ (L + 5, o7) :: rest, rfl, F7', fun p hp => N7' p ?_, fun p hp => ?_, ⟨o7, v7, t7, ?_, fun y h1 h2 h3 => (hoth y h1 h3).trans ((if_neg h2).trans (e2 y h1 h2 h3)), rfl, hd7⟩⟩
        · iterate 11 (rcases List.mem_cons.mp hp with rfl | hp; (· k_mem))
          repeat (first | exact hp | refine List.Mem.tail _ ?_)
        · simp only [List.cons_append, List.nil_append, List.mem_cons] at hp
          rcases hp with rfl | rfl | rfl | rfl | rfl | rfl | rfl | rfl | rfl | rfl | hp
          · exact off _ (by k_mem)
          · exact off _ (by k_mem)
          · exact off _ (by k_mem)
          · exact off _ (by k_mem)
          · exact off _ (by k_mem)
          · exact off _ (by k_mem)
          · exact off _ (by k_mem)
          · exact off _ (by k_mem)
          · exact off _ (by k_mem)
          · exact off (L + 5, o5') (by k_mem)
          · exact off p (by repeat (first | exact hp | refine List.Mem.tail _ ?_))
        · rw [hmask, maskAll_take (by rw [Array.getElem?_toList]; exact hc)]
    · rintro m₂ _ h tk2 ⟨o5', v5', t', e1, e2, rfl, hd5'⟩ F5 N5
      rw [List.take_of_length_le (by simp)] at e1
      refine wpAny_pure ?_
      have em2 := ifs2 e1 ((e2 (Str.ofString "octets") (by decide) (by decide) (by decide)).trans ((if_neg (by decide)).trans hm4))
      rw [em2] at F5
      simp only [List.cons_append, List.nil_append] at N5
      k_steps
      unfold Stop
      split
      · rename_i hlt
        have hlt4 : i < 4 := of_decide_eq_true hlt
        k_steps
        unfold Stop
        have zO := N5 (aO, W.listOf ov.toArray cO) (List.mem_cons_of_mem _ List.mem_cons_self)
        refine append_at (hsz := by rw [List.size_toArray, IntsAre.length hO, sizeLine_eq]; omega) zO.1 fun ha hsa hga => ?_
        have Fa := F5.change hsa zO.2.1 zO.2.2
        k_steps
        all_goals (try (show wpAny _ _ (execs [] _) _ _ _; refine wpAny_pure ?_))
        rw [← em2] at Fa
        refine hQ _ _ (tk2 + 1 + 1) o6 o5' _ v5' m₂ Fa (fun y h1 h2 h3 => (e2 y h1 h2 h3).trans (if_neg h1)) (fun p hp => ?_) d6 hd5'
        rw [hXS] at hp
        rcases List.mem_cons.mp hp with rfl | hp
        · exact ⟨by rw [if_pos hlt4]; exact hga, zO.2.1, zO.2.2⟩
        · have z := N5 p (List.mem_cons_of_mem _ (List.mem_cons_of_mem _ hp))
          refine ⟨(hsa.2 _ ?_).trans z.1, z.2⟩
          simp only [List.mem_cons] at hp
          rcases hp with rfl | rfl | rfl | rfl | rfl | rfl | rfl | rfl | hp
          · exact hneO.1
          · exact hneO.2.1
          · exact hneO.2.2.1
          · exact hneO.2.2.2.1
          · exact hneO.2.2.2.2.1
          · exact hneO.2.2.2.2.2
          · exact Ne.symm hne.1
          · exact Ne.symm hne5.1
          · exact hrO p hp
      · rename_i hlt
        have hlt4 : ¬ i < 4 := fun q => hlt (decide_eq_true q)
        k_steps
        unfold Stop
        have zO := N5 (aO, W.listOf ov.toArray cO) (List.mem_cons_of_mem _ List.mem_cons_self)
        refine append_at (hsz := by rw [List.size_toArray, IntsAre.length hO, sizeLine_eq]; omega) zO.1 fun ha hsa hga => ?_
        have Fa := F5.change hsa zO.2.1 zO.2.2
        k_steps
        all_goals (try (show wpAny _ _ (execs [] _) _ _ _; refine wpAny_pure ?_))
        rw [← em2] at Fa
        refine hQ _ _ t' o6 o5' _ v5' m₂ Fa (fun y h1 h2 h3 => (e2 y h1 h2 h3).trans (if_neg h1)) (fun p hp => ?_) d6 hd5'
        rw [hXS] at hp
        rcases List.mem_cons.mp hp with rfl | hp
        · exact ⟨by rw [if_neg hlt4, Int.add_zero]; exact hga, zO.2.1, zO.2.2⟩
        · have z := N5 p (List.mem_cons_of_mem _ (List.mem_cons_of_mem _ hp))
          refine ⟨(hsa.2 _ ?_).trans z.1, z.2⟩
          simp only [List.mem_cons] at hp
          rcases hp with rfl | rfl | rfl | rfl | rfl | rfl | rfl | rfl | hp
          · exact hneO.1
          · exact hneO.2.1
          · exact hneO.2.2.1
          · exact hneO.2.2.2.1
          · exact hneO.2.2.2.2.1
          · exact hneO.2.2.2.2.2
          · exact Ne.symm hne.1
          · exact Ne.symm hne5.1
          · exact hrO p hp
end
end Mine
end
section
open PySem PySem.W PyProof.Rows PySem.Calls PyProof.V PySem.Spec
set_option maxRecDepth 100000
namespace Mine
noncomputable def OVs (XL : List Str) (j : Nat) : Int := maskAll ((XL.getD j Str.empty).cps.toList) + (if (j : Int) < 4 then 64 else 0)
noncomputable def JQ (XL : List Str) (L aO : Addr) (mm : Str → Option Value) (mid : List (Addr × Obj)) (post : List (Addr × Obj)) (j : Nat) (m : Str → Option Value) (news : List (Addr × Obj)) : Prop :=
  ∃ (cO : Nat) (ov : List Value) (o2 o4 o5 : Obj) (v2 v4 v5 : Option Value), (∀ y, y ≠ Str.ofString "mask" → y ≠ Str.ofString "sign" → y ≠ Str.ofString "says" → m y = mm y) ∧ news = (aO, W.listOf ov.toArray cO) :: mid ++ (L + 2, o2) :: (L + 4, o4) :: (L + 5, o5) :: post ∧ o2.data = .cell v2 ∧ o4.data = .cell v4 ∧ o5.data = .cell v5 ∧ IntsAre ov ((List.range j).map (OVs XL))
section
local macro_rules | `(tactic| walk_at "exec For Name Call cons nil") => `(tactic| with_unfolding_all refine For_mine ?_)
set_option maxHeartbeats 8000000 in
theorem law_J (w : World) (dp un : Nat) (fr : Option (List Env)) (gd : Option (List Code)) (s : Shared) (Q : Flow → Shared → Prop) (g h₁ : Heap) (L : Addr) (mean : ExcName → Option Value) (mg mb : Str → Option Value) (X : (KF w.params).In g) (T : Top qv (looseW qv loose) mean mg mb g)
   (hd : dp + 32 < recursionLimit) (hu : un + 128 < cLine) (cN cS cD c2 : Nat) (nv sv : List Value) (NS : List Int) (SL : List Str) (hN : IntsAre nv NS) (hNl : NS.length = 15) (hS : StrsAre sv SL) (hSl : SL.length = 15)
   (x0 x1 x2 x3 x4 R : Str) (ta tb tc u2 u3 u4 : Tok)
   (m : Str → Option Value) (aN aS D D2 : Addr) (tk : Tok) (o1 o2 o4 o5 o6 : Obj) (v2 v4 v5 : Option Value) (hd1 : o1.data = .cell (some (.ref aS))) (hd2 : o2.data = .cell v2) (hd4 : o4.data = .cell v4) (hd5 : o5.data = .cell v5)
   (hm1 : m (Str.ofString "nums") = some (.ref aN)) (hm2 : m (Str.ofString "first") = some (.ref D)) (hm3 : m (Str.ofString "second") = some (.ref D2))
   (hgood : ∀ j : Nat, j < 5 → ∀ c ∈ ([x0, x1, x2, x3, x4].getD j Str.empty).cps.toList, goodC SL (j : Int) ((NS.getD (3 * (j : Int)).toNat 0).fmod 9) ((NS.getD (3 * (j : Int) + 1).toNat 0).fmod 9) ((NS.getD (3 * (j : Int) + 2).toNat 0).fmod 9) c)
   (hof : ∀ q ∈ [L + 1, L + 2, L + 4, L + 5, L + 6], ∀ p ∈ [D2, D, aS, aN], p ≠ q)
   (F : Fr g L h₁ m) (N : News g L h₁ [(D2, W.listOf #[.str x2 u2, .str x3 u3, .str x4 u4] c2), (D, W.listOf #[.str x0 ta, .str x1 tb, .str R tc] cD), (aS, W.listOf sv.toArray cS), (aN, W.listOf nv.toArray cN), (L + 1, o1), (L + 2, o2), (L + 4, o4), (L + 5, o5), (L + 6, o6)])
   (hQ : ∀ h' tk' aO aD cO ov o2' o4' o5' v2' v4' v5' m', Fr g L h' m' → m' (Str.ofString "octets") = some (.ref aO) → m' (Str.ofString "due") = some (.ref aD) → m' (Str.ofString "nums") = some (.ref aN) → News g L h' [(aO, W.listOf (List.toArray ov) cO), (aD, W.listOf #[] 0), (aS, W.listOf sv.toArray cS), (aN, W.listOf nv.toArray cN), (L + 1, o1), (L + 2, o2'), (L + 4, o4'), (L + 5, o5'), (L + 6, o6)] → o2'.data = .cell v2' → o4'.data = .cell v4' → o5'.data = .cell v5' → IntsAre ov ((List.range 5).map (OVs [x0, x1, x2, x3, x4])) →
      (L + 6 < aO ∧ L + 6 < aD ∧ aO ≠ aD ∧ aN < aO ∧ aN < aD) → Q .next { s with heap := h', toks := tk' }) :
   wpAny (model PySem.Challenge.rw_sr0008_01.prog w) ((AR dp un fr gd).deeper (lawE L)) (execs (lawB 11 3) (lawE L)) Q (fun _ _ => False) { s with heap := h₁, toks := tk } := by
  have em := ifs3' hm1 hm2 hm3
  rw [em] at F
  revert X T
  k_fill
  intro X T
  k_steps
  rename_i aO h4 l1 h3 aD h2 l2 h0 F0 N0 h5 tk5 t1 u1 v1 r1 F1 N1 k1
  have q1 := fun p hp => hof (L + 1) (by k_mem) p hp
  have q2 := fun p hp => hof (L + 2) (by k_mem) p hp
  have q4 := fun p hp => hof (L + 4) (by k_mem) p hp
  have q5 := fun p hp => hof (L + 5) (by k_mem) p hp
  have q6 := fun p hp => hof (L + 6) (by k_mem) p hp
  refine range_mine (n := 5) (JQ [x0, x1, x2, x3, x4] L aO (fun y => if y = Str.ofString "due" then some (Value.ref aD) else if y = Str.ofString "octets" then some (Value.ref aO) else m y) [(D2, W.listOf #[.str x2 u2, .str x3 u3, .str x4 u4] c2), (D, W.listOf #[.str x0 ta, .str x1 tb, .str R tc] cD), (aS, W.listOf sv.toArray cS), (aN, W.listOf nv.toArray cN), (L + 1, o1)] [(aD, W.listOf #[] 0), (L + 6, o6)]) rfl r1 (by decide) (by rfl) F1 (news := (aO, W.listOf #[] 0) :: [(D2, W.listOf #[.str x2 u2, .str x3 u3, .str x4 u4] c2), (D, W.listOf #[.str x0 ta, .str x1 tb, .str R tc] cD), (aS, W.listOf sv.toArray cS), (aN, W.listOf nv.toArray cN), (L + 1, o1)] ++ (L + 2, o2) :: (L + 4, o4) :: (L + 5, o5) :: [(aD, W.listOf #[] 0), (L + 6, o6)]) (fun p hp => N1 p ?_) ?_ ?_ ?_
  · iterate 11 (rcases List.mem_cons.mp hp with rfl | hp; (· k_mem))
    exact nomatch hp
  · refine ⟨0, [], o2, o4, o5, v2, v4, v5, fun y h1 h2 h3 => ?_, rfl, hd2, hd4, hd5, .nil⟩
    exact congrArg (fun z => if y = Str.ofString "due" then some (Value.ref aD) else if y = Str.ofString "octets" then some (Value.ref aO) else z) (congrFun em y).symm
  · rintro j tj I oI m₂ _ h tk2 hj ⟨cO, ov, o2', o4', o5', v2', v4', v5', e1, rfl, d2, d4, d5, hO⟩ F5 N5 off
    rw [Int.zero_add]
    simp only [List.cons_append, List.nil_append] at N5 off
    refine storeX_C (c := L + 2) F5 N5 rfl (.tail (off (L + 2, o2') (by k_mem)) (.tail (Nat.ne_of_gt l1.2.2.2.2.2.1) (.tail (q2 D2 (by k_mem)) (.tail (q2 D (by k_mem)) (.tail (q2 aS (by k_mem)) (.tail (q2 aN (by k_mem)) (.tail (by k_ne) (.head (List.forall_mem_cons.mpr ⟨by k_ne, List.forall_mem_cons.mpr ⟨by k_ne, List.forall_mem_cons.mpr ⟨Nat.ne_of_gt l2.2.2.2.2.2.2.1, List.forall_mem_cons.mpr ⟨by k_ne, List.forall_mem_nil _⟩⟩⟩⟩)))))))))
      d2 ?_ rfl rfl
    intro ha oa Fa Na da
    refine law_I w dp un fr gd s _ g ha L mean mg mb X T hd hu cN cS cO cD c2 (j : Int) tj nv sv ov NS ((List.range j).map (OVs [x0, x1, x2, x3, x4])) SL (Int.natCast_nonneg _) (by omega) hN hNl hS hSl hO (by rw [List.length_map, List.length_range]; omega) x0 x1 x2 x3 x4 R ta tb tc u2 u3 u4 m₂ aN aS aO D D2 tk2 o1 oa o4' o5' v4' v5' ((I, oI) :: (aD, W.listOf #[] 0) :: (L + 6, o6) :: []) hd1 da d4 d5
      ((e1 _ (by decide) (by decide) (by decide)).trans hm1) ((e1 _ (by decide) (by decide) (by decide)).trans hm2) ((e1 _ (by decide) (by decide) (by decide)).trans hm3) (e1 _ (by decide) (by decide) (by decide)) (by rw [Int.toNat_natCast]; exact hgood j hj)
      (List.forall_mem_cons.mpr ⟨off (L + 5, o5') (by k_mem), List.forall_mem_cons.mpr ⟨Nat.ne_of_gt l2.2.2.2.2.2.2.2.2.1, List.forall_mem_cons.mpr ⟨by k_ne, List.forall_mem_nil _⟩⟩⟩)
      (List.forall_mem_cons.mpr ⟨off (L + 4, o4') (by k_mem), List.forall_mem_cons.mpr ⟨Nat.ne_of_gt l2.2.2.2.2.2.2.2.1, List.forall_mem_cons.mpr ⟨by k_ne, List.forall_mem_nil _⟩⟩⟩)
      (List.forall_mem_cons.mpr ⟨off (aO, W.listOf ov.toArray cO) (by k_mem), List.forall_mem_cons.mpr ⟨Nat.ne_of_gt l2.1, List.forall_mem_cons.mpr ⟨Nat.ne_of_lt l1.2.2.2.2.2.2.2.2, List.forall_mem_nil _⟩⟩⟩)
      ⟨Nat.ne_of_gt l1.2.2.2.2.2.2.1, q4 D2 (by k_mem), q4 D (by k_mem), q4 aS (by k_mem), q4 aN (by k_mem), trivial⟩ ⟨Nat.ne_of_gt l1.2.2.2.2.2.2.2.1, q5 D2 (by k_mem), q5 D (by k_mem), q5 aS (by k_mem), q5 aN (by k_mem), trivial⟩ ⟨Nat.ne_of_lt l1.1, Nat.ne_of_lt l1.2.1, Nat.ne_of_lt l1.2.2.1, Nat.ne_of_lt l1.2.2.2.1, Nat.ne_of_lt l1.2.2.2.2.1, Nat.ne_of_lt l1.2.2.2.2.2.1, trivial⟩ Fa (fun p hp => Na p ?_) ?_
    · iterate 12 (rcases List.mem_cons.mp hp with rfl | hp; (· k_mem))
      exact nomatch hp
    · intro h7 tk7 t7 p4 p5 w4 w5 m7 F7 hoth N7 dp4 dp5
      refine ⟨h7, tk7, m7, (aO, W.listOf (ov ++ [Value.int (maskAll ([x0, x1, x2, x3, x4].getD (j : Int).toNat Str.empty).cps.toList + (if (j : Int) < 4 then 64 else 0)) t7]).toArray (cO + 1)) :: [(D2, W.listOf #[.str x2 u2, .str x3 u3, .str x4 u4] c2), (D, W.listOf #[.str x0 ta, .str x1 tb, .str R tc] cD), (aS, W.listOf sv.toArray cS), (aN, W.listOf nv.toArray cN), (L + 1, o1)] ++ (L + 2, oa) :: (L + 4, p4) :: (L + 5, p5) :: [(aD, W.listOf #[] 0), (L + 6, o6)], rfl, F7, fun p hp => ?_, fun p hp => ?_, ⟨cO + 1, _, oa, p4, p5, _, w4, w5, fun y h1 h2 h3 => (hoth y h1 h2 h3).trans (e1 y h1 h2 h3), rfl, da, dp4, dp5, ?_⟩⟩
      · rw [← List.push_toArray] at hp
        refine N7 p ?_
        iterate 12 (rcases List.mem_cons.mp hp with rfl | hp; (· k_mem))
        exact nomatch hp
      · simp only [List.cons_append, List.nil_append, List.mem_cons, List.not_mem_nil, or_false] at hp
        rcases hp with rfl | rfl | rfl | rfl | rfl | rfl | rfl | rfl | rfl | rfl | rfl
        · exact off (aO, W.listOf ov.toArray cO) (by k_mem)
        · exact off _ (by k_mem)
        · exact off _ (by k_mem)
        · exact off _ (by k_mem)
        · exact off _ (by k_mem)
        · exact off _ (by k_mem)
        · exact off (L + 2, o2') (by k_mem)
        · exact off (L + 4, o4') (by k_mem)
        · exact off (L + 5, o5') (by k_mem)
        · exact off (aD, W.listOf #[] 0) (by k_mem)
        · exact off (L + 6, o6) (by k_mem)
      · rw [List.range_succ, List.map_append, Int.toNat_natCast]
        exact ints_snoc hO _ _
  · rintro m₂ _ h tk2 ⟨cO, ov, o2', o4', o5', v2', v4', v5', e1, rfl, d2, d4, d5, hO⟩ F5 N5
    simp only [List.cons_append, List.nil_append] at N5
    refine wpAny_pure ?_
    refine wpAny_pure ?_
    refine hQ h tk2 aO aD cO ov o2' o4' o5' v2' v4' v5' m₂ F5 (e1 _ (by decide) (by decide) (by decide)) (e1 _ (by decide) (by decide) (by decide)) ((e1 _ (by decide) (by decide) (by decide)).trans hm1) (fun p hp => N5 p ?_) d2 d4 d5 hO ⟨l1.2.2.2.2.2.2.2.2, l2.2.2.2.2.2.2.2.2.2, Nat.ne_of_lt l2.1, l1.2.2.2.1, l2.2.2.2.2.1⟩
    iterate 9 (rcases List.mem_cons.mp hp with rfl | hp; (· k_mem))
    exact nomatch hp
end
end Mine
end
section
open PySem PySem.W PyProof.Rows PySem.Calls PyProof.V PySem.Spec
set_option maxRecDepth 100000
namespace Mine
theorem iter_entry : entryFor table "iter" = some Builtin.«iter» := entryFor_of_tree (by kernel_rfl)
theorem iter_args (a : Value) : argsOk "iter" ⟨[a], []⟩ := by unfold argsOk; kernel_rfl
theorem iter_list {prog : Program} {w : World} {A : Around} {E : Value → Shared → Prop} {s : Shared} {l : Addr} {its : Array Value} {Q : Value → Shared → Prop} (hl : s.heap.IsList l its)
    (h : Q (.ref s.heap.objs.size) { s with heap := s.heap.push { cls := .type "list_iterator", data := .fields #[.ref l, .int 0 0] } }) : wpAny (model prog w) A (call (.builtin "iter") [.ref l]) Q E s := by
  refine Calls.call_function_entry (by decide +kernel) (by decide +kernel) iter_entry (iter_args _) ?_
  unfold Builtin.«iter»
  refine wpAny_bind (m := someArgs "iter" 1 2 _) (wpAny_of_eq (a := [Value.ref l]) (by first | rfl | kernel_rfl!) ?_)
  show wpAny _ _ (pyIter (.ref l) >>= _) _ _ _
  refine wpAny_bind (wpAny_pyIter_list hl ?_)
  exact wpAny_pure ⟨_, rfl, h⟩
section
local macro_rules | `(tactic| walk_at "call ref") => `(tactic| with_unfolding_all refine stop_intro ?_)
local macro_rules | `(tactic| walk_at "call builtin:str.split") => `(tactic| with_unfolding_all refine stop_intro ?_)
local macro_rules | `(tactic| walk_at "storeName") => `(tactic| with_unfolding_all refine stop_intro ?_)
set_option maxHeartbeats 8000000 in
theorem law_L (w : World) (dp un : Nat) (fr : Option (List Env)) (gd : Option (List Code)) (s : Shared) (Q : Flow → Shared → Prop) (g h₁ : Heap) (L : Addr) (mean : ExcName → Option Value) (mg mb : Str → Option Value) (X : (KF w.params).In g) (T : Top qv (looseW qv loose) mean mg mb g)
   (hd : dp + 32 < recursionLimit) (hu : un + 128 < cLine) (cO : Nat) (ov : List Value) (a b c d e : Nat) (ha : a < 64) (hb : b < 64) (hc : c < 64) (hdd : d < 64) (he : e < 64) (hO : IntsAre ov [(a : Int) + 64, (b : Int) + 64, (c : Int) + 64, (d : Int) + 64, (e : Int)]) (hsp : Txt.split (Txt.join (Str.ofString ", ") (prettyL ((((a * 64 + b) * 64 + c) * 64 + d) * 64 + e))) (Str.ofString ", ") = prettyL ((((a * 64 + b) * 64 + c) * 64 + d) * 64 + e))
   (hlen : (Txt.join (Str.ofString ", ") (prettyL ((((a * 64 + b) * 64 + c) * 64 + d) * 64 + e))).length ≤ 2000)
   (m : Str → Option Value) (aO : Addr) (tk : Tok) (o6 : Obj) (v6 : Option Value) (hd6 : o6.data = .cell v6) (hm1 : m (Str.ofString "octets") = some (.ref aO))
   (F : Fr g L h₁ m) (rest : List (Addr × Obj)) (N : News g L h₁ ((aO, W.listOf ov.toArray cO) :: (L + 6, o6) :: rest)) (hne : aO ≠ L + 6) (hr6 : ∀ p ∈ rest, p.1 ≠ L + 6)
   (hQ : ∀ h' tk' D ws o6' m', Fr g L h' m' → (∀ y, y ≠ Str.ofString "number" → m' y = m y) → News g L h' ((D, W.listOf (List.toArray ws) 0) :: (L + 6, o6') :: rest) → StrsAre ws (prettyL ((((a * 64 + b) * 64 + c) * 64 + d) * 64 + e)) → o6'.data = .cell (some (.ref D)) → (∀ p ∈ (L + 6, o6') :: rest, p.1 < D) → Q .next { s with heap := h', toks := tk' }) :
   wpAny (model PySem.Challenge.rw_sr0008_01.prog w) ((AR dp un fr gd).deeper (lawE L)) (execs (lawB 14 2) (lawE L)) Q (fun _ _ => False) { s with heap := h₁, toks := tk } := by
  have em := ifs1 hm1
  rw [em] at F
  revert X T
  k_fill
  intro X T
  k_steps
  refine iter_list (is_lst N List.mem_cons_self) ?_
  have up : ∀ b o, h₁.get? b = some o → (h₁.push { cls := .type "list_iterator", data := .fields #[.ref aO, .int 0 0] }).get? b = some o := fun b o e => Heap.get?_push_of_some _ e
  generalize hH : h₁.push { cls := .type "list_iterator", data := .fields #[.ref aO, .int 0 0] } = H at up ⊢
  have F1 := F.keeps up
  have N1 := N.grown up
  dsimp only
  k_steps
  unfold Stop
  have hti : ∃ t0 t1 t2 t3 t4, ov = [.int ((a : Int) + 64) t0, .int ((b : Int) + 64) t1, .int ((c : Int) + 64) t2, .int ((d : Int) + 64) t3, .int (e : Int) t4] := by
    cases hO with | cons _ t0 hO => cases hO with | cons _ t1 hO => cases hO with | cons _ t2 hO => cases hO with | cons _ t3 hO => cases hO with | cons _ t4 hO => cases hO; exact ⟨_, _, _, _, _, rfl⟩
  obtain ⟨t0, t1, t2, t3, t4, rfl⟩ := hti
  have hlt : ∀ p ∈ (aO, W.listOf _ cO) :: (L + 6, o6) :: rest, p.1 < h₁.objs.size := fun p hp => Heap.lt_size (N p hp).1
  have nL : L ≠ h₁.objs.size := Nat.ne_of_lt F.ns.lt
  have nG : g.get? h₁.objs.size = none := next_is_new F
  refine varint_spec w h₁.objs.size aO _ (a : Int) (b : Int) (c : Int) (d : Int) (e : Int) t0 t1 t2 t3 t4 (by omega) (by omega) (by omega) (by omega) (by omega) rfl rfl rfl rfl rfl (dp + 1) _ _ _ _ g _ _ ⟨X, mean, mg, mb, T⟩ F1.keep nG ⟨⟨_, by rw [← hH]; exact Heap.get?_push_size _ rfl, rfl, rfl⟩, Nat.ne_of_lt (hlt _ List.mem_cons_self), is_lst N1 List.mem_cons_self⟩ (by omega) (by show un + 3 + 64 < cLine; omega) ?_
  rintro v h2 tk2 hk ⟨t, rfl⟩
  have hk' : ∀ b o, b ∉ [h₁.objs.size] → H.get? b = some o → h2.get? b = some o := fun b o hb e => hk b o (fun q => hb (List.mem_singleton.mpr q)) e
  have F2 := LCg.fr_but F1 hk' nL nG
  have N2 := LCg.news_but N1 hk' fun p hp => Nat.ne_of_lt (hlt p hp)
  clear hk hk' N1 F1
  rw [show ((((a : Int) * 64 + b) * 64 + c) * 64 + d) * 64 + e = (((((a * 64 + b) * 64 + c) * 64 + d) * 64 + e : Nat) : Int) by push_cast; rfl]
  have hn : (((a * 64 + b) * 64 + c) * 64 + d) * 64 + e < 1073741824 := by omega
  generalize ((((a * 64 + b) * 64 + c) * 64 + d) * 64 + e) = n at hn hsp hlen hQ ⊢
  refine storeX_L F2 N2 ?_ rfl rfl
  intro h3 F3 N3
  dsimp only
  k_steps
  unfold Stop
  refine call_pretty F3 X T N3 hn (by omega) (by omega) ?_
  intro t5 h5 tk5 F5 N5
  dsimp only
  k_steps
  unfold Stop
  refine KSpl.split1 F5 N5 (by decide +kernel) ?_ (by rw [sizeLine_eq]; omega)
  intro D l h6 k6 e6 hs6 F6 N6 l6
  rw [e6, hsp] at hs6
  dsimp only
  refine storeX_C (c := L + 6) F6 N6 rfl (.tail (Nat.ne_of_gt (l6 (L + 6, o6) (by k_mem))) (.tail hne (.head hr6))) hd6 ?_ rfl rfl
  intro h7 o7 F7 N7 d7
  k_steps
  all_goals (try (show wpAny _ _ (execs [] _) _ _ _; refine wpAny_pure ?_))
  refine hQ h7 k6 D (strValues l) o7 _ F7 (fun y hy => ?_) (fun p hp => N7 p ?_) hs6 d7 (fun p hp => ?_)
  · exact (if_neg hy).trans (congrFun em y).symm
  · rcases List.mem_cons.mp hp with rfl | hp
    · exact List.mem_cons_self
    · exact List.mem_cons_of_mem _ (List.mem_cons_of_mem _ hp)
  · rcases List.mem_cons.mp hp with rfl | hp
    · exact l6 (L + 6, o6) (by k_mem)
    · exact l6 p (by repeat (first | exact hp | refine List.Mem.tail _ ?_))
end
end Mine
end
section
open PySem PySem.W PyProof.Rows PySem.Calls PyProof.V PySem.Spec
set_option maxRecDepth 100000
namespace Mine
noncomputable def bodyDI : List Stmt := forB ((fnB (stN 32)).getD 16 (.Pass default))
noncomputable def bodyDK : List Stmt := forB (bodyDI.getD 0 (.Pass default))
theorem threeR {NS : List Int} {i : Int} (h0 : 0 ≤ i) (h5 : i < 5) (hl : NS.length = 15) : (NS.drop (12 - 3 * i).toNat).take ((15 - 3 * i).toNat - (12 - 3 * i).toNat) = [NS.getD (12 - 3 * i).toNat 0, NS.getD (13 - 3 * i).toNat 0, NS.getD (14 - 3 * i).toNat 0] := by
  have hi : i = 0 ∨ i = 1 ∨ i = 2 ∨ i = 3 ∨ i = 4 := by omega
  match NS, hl with
  | [a0, a1, a2, a3, a4, a5, a6, a7, a8, a9, a10, a11, a12, a13, a14], _ =>
    rcases hi with rfl | rfl | rfl | rfl | rfl <;> rfl
noncomputable def kindR (NS : List Int) (i k : Int) : Bool := [(NS.getD (12 - 3 * i).toNat 0).fmod 9, (NS.getD (13 - 3 * i).toNat 0).fmod 9, (NS.getD (14 - 3 * i).toNat 0).fmod 9].any fun x => x == k
theorem call_flag {w : World} {k : Int} {tk : Tok} {dp un : Nat} {fr : Option (List Env)} {gd : Option (List Code)} {env : Env} {s : Shared} {Q E : Value → Shared → Prop} {h₀ : Heap} {L : Addr} {m : Str → Option Value} {news : List (Addr × Obj)} {mean : ExcName → Option Value} {mg mb : Str → Option Value}
    (F : Fr h₀ L s.heap m) (X : (KF w.params).In h₀) (T : Top qv (looseW qv loose) mean mg mb h₀) (N : News h₀ L s.heap news) (h0 : 0 ≤ k) (h1 : k < 30) (hd : dp + 32 < recursionLimit) (hu : un + 128 < cLine)
    (h : ∀ t h' tk', Fr h₀ L h' m → News h₀ L h' news → Q (.str (flagOf k) t) { s with heap := h', toks := tk' }) :
    wpAny (model PySem.Challenge.rw_sr0008_01.prog w) ((AR dp un fr gd).deeper env) (call (.ref (nat_lit 182)) [.int k tk]) Q E s :=
  PSpec.use (dp := dp + 1) (flag_spec w k h0 h1 tk) F X T N trivial (by omega) (by show un + 3 + 64 < cLine; omega) fun v h' tk' F' N' _ hp => by obtain ⟨t, rfl⟩ := hp; exact h t h' tk' F' N'
section
local macro_rules | `(tactic| walk_at "call ref") => `(tactic| with_unfolding_all refine stop_intro ?_)
local macro_rules | `(tactic| walk_at "subscriptTail Name Slice ref ref") => `(tactic| with_unfolding_all refine stop_intro ?_)
local macro_rules | `(tactic| walk_at "eval ListComp") => `(tactic| k_dflt (refine LCg.ListComp_U (F₀ := by k_asm) (by with_unfolding_all rfl) (by decide) (by rfl) (by decide) (by rfl) ?_))
local macro_rules | `(tactic| walk_at "CompSrc") => `(tactic| with_unfolding_all refine stop_intro ?_)
local macro_rules | `(tactic| walk_at "compareOp In int ref") => `(tactic| with_unfolding_all refine stop_intro ?_)
local macro_rules | `(tactic| walk_at "ite") => `(tactic| with_unfolding_all refine stop_intro ?_)
local macro_rules | `(tactic| walk_at "call builtin:list.append") => `(tactic| with_unfolding_all refine stop_intro ?_)
set_option maxHeartbeats 8000000 in
theorem law_M (w : World) (dp un : Nat) (fr : Option (List Env)) (gd : Option (List Code)) (s : Shared) (Q : Flow → Shared → Prop) (g h₁ : Heap) (L : Addr) (mean : ExcName → Option Value) (mg mb : Str → Option Value) (X : (KF w.params).In g) (T : Top qv (looseW qv loose) mean mg mb g)
   (hd : dp + 32 < recursionLimit) (hu : un + 128 < cLine) (cN cD : Nat) (nv dv : List Value) (NS : List Int) (DS : List Str) (hN : IntsAre nv NS) (hNl : NS.length = 15) (hD : StrsAre dv DS) (hDl : DS.length ≤ 30) (i k : Int) (ti tk1 : Tok) (hi0 : 0 ≤ i) (hi5 : i < 5) (hk0 : 0 ≤ k) (hk6 : k < 6)
   (m : Str → Option Value) (aN aD : Addr) (tk : Tok) (o2 o5 : Obj) (hd2 : o2.data = .cell (some (.int i ti))) (hd5 : o5.data = .cell (some (.int k tk1))) (hm1 : m (Str.ofString "nums") = some (.ref aN)) (hm2 : m (Str.ofString "due") = some (.ref aD)) (rest : List (Addr × Obj)) (hneD : aN ≠ aD ∧ L + 2 ≠ aD ∧ L + 5 ≠ aD) (hrD : ∀ p ∈ rest, p.1 ≠ aD)
   (F : Fr g L h₁ m) (N : News g L h₁ ((aD, W.listOf dv.toArray cD) :: (aN, W.listOf nv.toArray cN) :: (L + 2, o2) :: (L + 5, o5) :: rest))
   (hQ : ∀ h' tk' dv' cD', Fr g L h' m → News g L h' ((aD, W.listOf (List.toArray dv') cD') :: (aN, W.listOf nv.toArray cN) :: (L + 2, o2) :: (L + 5, o5) :: rest) → StrsAre dv' (DS ++ if kindR NS i k then [flagOf (6 * i + k)] else []) → Q .next { s with heap := h', toks := tk' }) :
   wpAny (model PySem.Challenge.rw_sr0008_01.prog w) ((AR dp un fr gd).deeper (lawE L)) (execs bodyDK (lawE L)) Q (fun _ _ => False) { s with heap := h₁, toks := tk } := by
  have em := ifs2 hm1 hm2
  rw [em] at F
  revert X T
  k_fill
  intro X T
  k_steps
  unfold Stop
  (with_reducible rename Fr _ _ _ _ => kF)
  (with_reducible rename News _ _ _ _ => kN)
  refine slice_ints (n := cN) (NS := NS) (a := 12 - 3 * i) (b := 15 - 3 * i) kF kN (by k_mem) hN (by omega) (by omega) (by omega) (by omega) ?_ (by with_unfolding_all rfl) (by intro _; with_unfolding_all rfl)
  intro D9 ws9 h9 F9 N9 l9 hws
  rw [threeR hi0 hi5 hNl] at hws
  try dsimp only
  k_steps
  unfold Stop
  refine LCg.CompSrc.ledger (its := ws9.toArray) (k := 0) (news := (D9, W.listOf ws9.toArray 0) :: (aD, W.listOf dv.toArray cD) :: (aN, W.listOf nv.toArray cN) :: (L + 2, o2) :: (L + 5, o5) :: rest) ?_ ?_ ?_ ?_ ?_ ?_
  · rfl
  · exact F9
  · exact N9
  · exact List.mem_cons_self
  · rw [List.size_toArray, IntsAre.length hws, sizeLine_eq]; exact (by decide : 3 ≤ 16777216)
  intro g9
  refine kcf_list (fun k => k.fmod 9) hws (fun k t I oI C oC D' m₂ ys h tk E' hk hC hm F' N' off' ne' hmark => ?_) ?_
  · simp only [LCg.Off3, and_true] at off'
    k_steps
  · intro ys hys
    dsimp only [LCg.FinE]
    intro aK hh tkk F' N' off'
    simp only [List.map_cons, List.map_nil] at hys
    k_steps
    unfold Stop
    refine in_list_ints (is_lst N' List.mem_cons_self) hys ?_
    have N2 : News g L hh ((aD, W.listOf dv.toArray cD) :: (aN, W.listOf nv.toArray cN) :: (L + 2, o2) :: (L + 5, o5) :: rest) := fun p hp => N' p (List.mem_cons_of_mem _ (List.mem_cons_of_mem _ hp))
    clear N' N9 kN l9
    k_steps
    unfold Stop
    split
    · rename_i hkin
      k_steps
      unfold Stop
      refine call_flag F' X T N2 (by omega) (by omega) hd hu ?_
      intro t5 h5 tk5 F5 N5
      try dsimp only
      k_steps
      unfold Stop
      have zO := N5 (aD, W.listOf dv.toArray cD) List.mem_cons_self
      refine append_at (hsz := by rw [List.size_toArray, strsAre_len hD, sizeLine_eq]; omega) zO.1 fun ha hsa hga => ?_
      have Fa := F5.change hsa zO.2.1 zO.2.2
      k_steps
      all_goals (try (show wpAny _ _ (execs [] _) _ _ _; refine wpAny_pure ?_))
      rw [← em] at Fa
      refine hQ _ _ (dv ++ [.str (flagOf (6 * i + k)) t5]) (cD + 1) Fa (fun p hp => ?_) ?_
      · rcases List.mem_cons.mp hp with rfl | hp
        · rw [← List.push_toArray]
          exact ⟨hga, zO.2.1, zO.2.2⟩
        · have z := N5 p (List.mem_cons_of_mem _ hp)
          refine ⟨(hsa.2 _ ?_).trans z.1, z.2⟩
          simp only [List.mem_cons] at hp
          rcases hp with rfl | rfl | rfl | hp
          · exact hneD.1
          · exact hneD.2.1
          · exact hneD.2.2
          · exact hrD p hp
      · rw [show kindR NS i k = true from hkin, if_pos rfl]
        exact strs_snoc hD
    · rename_i hkin
      k_steps
      all_goals (try (show wpAny _ _ (execs [] _) _ _ _; refine wpAny_pure ?_))
      rw [← em] at F'
      refine hQ _ _ dv cD F' N2 ?_
      rw [show kindR NS i k = false from Bool.eq_false_iff.mpr hkin]
      simpa using hD
end
end Mine
end
section
open PySem PySem.W PyProof.Rows PySem.Calls PyProof.V PySem.Spec
set_option maxRecDepth 100000
namespace Mine
noncomputable def dueTo (NS : List Int) (t : Nat) : List Str := ((List.range t).filter fun (t : Nat) => kindR NS ((t / 6 : Nat) : Int) ((t % 6 : Nat) : Int)).map fun (t : Nat) => flagOf (t : Int)
theorem dueTo_succ (NS : List Int) {i k : Nat} (hk : k < 6) : dueTo NS (6 * i + (k + 1)) = dueTo NS (6 * i + k) ++ if kindR NS (i : Int) (k : Int) then [flagOf (6 * (i : Int) + (k : Int))] else [] := by
  have e1 : (6 * i + k) / 6 = i := by omega
  have e2 : (6 * i + k) % 6 = k := by omega
  unfold dueTo
  rw [show 6 * i + (k + 1) = (6 * i + k) + 1 by omega, List.range_succ, List.filter_append, List.map_append]
  congr 1
  rw [List.filter_cons, e1, e2]
  cases kindR NS (i : Int) (k : Int) with
  | true => simp
  | false => simp
theorem dueTo_len (NS : List Int) (t : Nat) : (dueTo NS t).length ≤ t := by
  unfold dueTo
  rw [List.length_map]
  exact Nat.le_trans (List.length_filter_le _ _) (by rw [List.length_range]; exact Nat.le_refl _)
noncomputable def JDk (NS : List Int) (L aD : Addr) (o2 : Obj) (i : Nat) (mm : Str → Option Value) (nO : Addr × Obj) (post : List (Addr × Obj)) (k : Nat) (m : Str → Option Value) (news : List (Addr × Obj)) : Prop :=
  ∃ (cD : Nat) (dv : List Value) (o5 : Obj) (v5 : Option Value), m = mm ∧ news = (aD, W.listOf dv.toArray cD) :: nO :: (L + 2, o2) :: (L + 5, o5) :: post ∧ o5.data = .cell v5 ∧ StrsAre dv (dueTo NS (6 * i + k))
noncomputable def JD (NS : List Int) (L aD : Addr) (mm : Str → Option Value) (nO : Addr × Obj) (post : List (Addr × Obj)) (i : Nat) (m : Str → Option Value) (news : List (Addr × Obj)) : Prop :=
  ∃ (cD : Nat) (dv : List Value) (o2 o5 : Obj) (v2 v5 : Option Value), m = mm ∧ news = (aD, W.listOf dv.toArray cD) :: nO :: (L + 2, o2) :: (L + 5, o5) :: post ∧ o2.data = .cell v2 ∧ o5.data = .cell v5 ∧ StrsAre dv (dueTo NS (6 * i))
section
local macro_rules | `(tactic| walk_at "exec For Name Call cons nil") => `(tactic| with_unfolding_all refine For_mine ?_)
set_option maxHeartbeats 8000000 in
theorem law_N (w : World) (dp un : Nat) (fr : Option (List Env)) (gd : Option (List Code)) (s : Shared) (Q : Flow → Shared → Prop) (g h₁ : Heap) (L : Addr) (mean : ExcName → Option Value) (mg mb : Str → Option Value) (X : (KF w.params).In g) (T : Top qv (looseW qv loose) mean mg mb g)
   (hd : dp + 32 < recursionLimit) (hu : un + 128 < cLine) (cN : Nat) (nv : List Value) (NS : List Int) (hN : IntsAre nv NS) (hNl : NS.length = 15)
   (m : Str → Option Value) (aN aD : Addr) (tk : Tok) (o2 o5 : Obj) (v2 v5 : Option Value) (hd2 : o2.data = .cell v2) (hd5 : o5.data = .cell v5) (hm1 : m (Str.ofString "nums") = some (.ref aN)) (hm2 : m (Str.ofString "due") = some (.ref aD)) (rest : List (Addr × Obj)) (hneD : aN ≠ aD ∧ L + 2 ≠ aD ∧ L + 5 ≠ aD) (hneN : aN ≠ L + 2 ∧ aN ≠ L + 5) (hrD : ∀ p ∈ rest, p.1 ≠ aD) (hr2 : ∀ p ∈ rest, p.1 ≠ L + 2) (hr5 : ∀ p ∈ rest, p.1 ≠ L + 5)
   (F : Fr g L h₁ m) (N : News g L h₁ ((aD, W.listOf #[] 0) :: (aN, W.listOf nv.toArray cN) :: (L + 2, o2) :: (L + 5, o5) :: rest))
   (hQ : ∀ h' tk' dv' cD' o2' o5' v2' v5', Fr g L h' m → News g L h' ((aD, W.listOf (List.toArray dv') cD') :: (aN, W.listOf nv.toArray cN) :: (L + 2, o2') :: (L + 5, o5') :: rest) → StrsAre dv' (dueTo NS 30) → o2'.data = .cell v2' → o5'.data = .cell v5' → Q .next { s with heap := h', toks := tk' }) :
   wpAny (model PySem.Challenge.rw_sr0008_01.prog w) ((AR dp un fr gd).deeper (lawE L)) (execs (lawB 16 1) (lawE L)) Q (fun _ _ => False) { s with heap := h₁, toks := tk } := by
  have em := ifs2 hm1 hm2
  rw [em] at F
  revert X T
  k_fill
  intro X T
  k_steps
  rename_i h5 tk5 t1 u1 v1 r1 F1 N1 k1
  rw [← em] at F1
  refine range_mine (n := 5) (JD NS L aD m (aN, W.listOf nv.toArray cN) rest) rfl r1 (by decide) (by rfl) F1 (news := (aD, W.listOf #[] 0) :: (aN, W.listOf nv.toArray cN) :: (L + 2, o2) :: (L + 5, o5) :: rest) N1 ?_ ?_ ?_
  · exact ⟨0, [], o2, o5, v2, v5, rfl, rfl, hd2, hd5, .nil⟩
  · rintro i ti I oI m₂ _ h tk2 hi ⟨cD, dv, o2', o5', v2', v5', e9, rfl, d2, d5, hD⟩ F5 N5 off
    subst m₂
    rw [Int.zero_add]
    refine storeX_C (c := L + 2) F5 N5 rfl (.tail (off (L + 2, o2') (by k_mem)) (.tail (Ne.symm hneD.2.1) (.tail hneN.1 (.head (List.forall_mem_cons.mpr ⟨by k_ne, hr2⟩)))))
      d2 ?_ rfl rfl
    intro ha oa Fa Na da
    rw [em] at Fa
    k_steps
    rename_i h6 tk6 t6 u6 v6 r6 F6 N6 k6
    rw [← em] at F6
    refine range_mine (n := 6) (JDk NS L aD oa i m (aN, W.listOf nv.toArray cN) ((I, oI) :: rest)) rfl r6 (by decide) (by rfl) F6 (news := (aD, W.listOf dv.toArray cD) :: (aN, W.listOf nv.toArray cN) :: (L + 2, oa) :: (L + 5, o5') :: (I, oI) :: rest) (fun p hp => N6 p ?_) ?_ ?_ ?_
    · iterate 5 (rcases List.mem_cons.mp hp with rfl | hp; (· k_mem))
      repeat (first | exact hp | refine List.Mem.tail _ ?_)
    · exact ⟨cD, dv, o5', v5', rfl, rfl, d5, hD⟩
    · rintro k tk3 I2 oI2 m₃ _ h3 tk4 hk ⟨cD2, dv2, o52, v52, e9, rfl, d52, hD2⟩ F7 N7 off2
      subst m₃
      rw [Int.zero_add]
      refine storeX_C (c := L + 5) F7 N7 rfl (.tail (off2 (L + 5, o52) (by k_mem)) (.tail (Ne.symm hneD.2.2) (.tail hneN.2 (.tail (by k_ne) (.head (List.forall_mem_cons.mpr ⟨off (L + 5, o5') (by k_mem), hr5⟩))))))
        d52 ?_ rfl rfl
      intro hb ob Fb Nb db
      refine law_M w dp un fr gd s _ g hb L mean mg mb X T hd hu cN cD2 nv dv2 NS (dueTo NS (6 * i + k)) hN hNl hD2 (Nat.le_trans (dueTo_len _ _) (by omega)) (i : Int) (k : Int) ti tk3 (Int.natCast_nonneg _) (by omega) (Int.natCast_nonneg _) (by omega) m aN aD _ oa ob da db hm1 hm2 ((I2, oI2) :: (I, oI) :: rest) hneD
        (List.forall_mem_cons.mpr ⟨off2 (aD, W.listOf dv2.toArray cD2) (by k_mem), List.forall_mem_cons.mpr ⟨off (aD, W.listOf dv.toArray cD) (by k_mem), hrD⟩⟩) Fb (fun p hp => Nb p ?_) ?_
      · iterate 6 (rcases List.mem_cons.mp hp with rfl | hp; (· k_mem))
        repeat (first | exact hp | refine List.Mem.tail _ ?_)
      · intro h8 tk8 dv8 cD8 F8 N8 hD8
        refine ⟨h8, tk8, m, (aD, W.listOf dv8.toArray cD8) :: (aN, W.listOf nv.toArray cN) :: (L + 2, oa) :: (L + 5, ob) :: (I, oI) :: rest, rfl, F8, fun p hp => N8 p ?_, fun p hp => ?_, ⟨cD8, dv8, ob, _, rfl, rfl, db, ?_⟩⟩
        · iterate 6 (rcases List.mem_cons.mp hp with rfl | hp; (· k_mem))
          repeat (first | exact hp | refine List.Mem.tail _ ?_)
        · simp only [List.mem_cons] at hp
          rcases hp with rfl | rfl | rfl | rfl | rfl | hp
          · exact off2 (aD, W.listOf dv2.toArray cD2) (by k_mem)
          · exact off2 _ (by k_mem)
          · exact off2 _ (by k_mem)
          · exact off2 (L + 5, o52) (by k_mem)
          · exact off2 _ (by k_mem)
          · exact off2 p (by repeat (first | exact hp | refine List.Mem.tail _ ?_))
        · rw [dueTo_succ NS hk]
          exact hD8
    · rintro m₃ _ h3 tk4 ⟨cD2, dv2, o52, v52, e9, rfl, d52, hD2⟩ F7 N7
      subst m₃
      refine wpAny_pure ?_
      refine wpAny_pure ?_
      refine ⟨h3, tk4, m, (aD, W.listOf dv2.toArray cD2) :: (aN, W.listOf nv.toArray cN) :: (L + 2, oa) :: (L + 5, o52) :: rest, rfl, F7, fun p hp => N7 p ?_, fun p hp => ?_, ⟨cD2, dv2, oa, o52, _, _, rfl, rfl, da, d52, ?_⟩⟩
      · iterate 5 (rcases List.mem_cons.mp hp with rfl | hp; (· k_mem))
        repeat (first | exact hp | refine List.Mem.tail _ ?_)
      · simp only [List.mem_cons] at hp
        rcases hp with rfl | rfl | rfl | rfl | hp
        · exact off (aD, W.listOf dv.toArray cD) (by k_mem)
        · exact off _ (by k_mem)
        · exact off (L + 2, o2') (by k_mem)
        · exact off (L + 5, o5') (by k_mem)
        · exact off p (by repeat (first | exact hp | refine List.Mem.tail _ ?_))
      · rw [show 6 * (i + 1) = 6 * i + 6 by omega]
        exact hD2
  · rintro m₂ _ h tk2 ⟨cD, dv, o2', o5', v2', v5', e9, rfl, d2, d5, hD⟩ F5 N5
    subst m₂
    refine wpAny_pure ?_
    refine wpAny_pure ?_
    exact hQ h tk2 dv cD o2' o5' v2' v5' F5 N5 hD d2 d5
end
end Mine
end
section
local macro_rules | `(tactic| walk_at "zz idle") => `(tactic| skip)
open PySem PySem.W PyProof.Rows PySem.Calls PyProof.V PySem.Spec
set_option maxRecDepth 100000
namespace Mine
section
local macro_rules | `(tactic| walk_at "compareOp NotEq ref ref") => `(tactic| with_unfolding_all refine stop_intro ?_)
set_option maxHeartbeats 8000000 in
theorem law_O (w : World) (dp un : Nat) (fr : Option (List Env)) (gd : Option (List Code)) (s : Shared) (Q : Flow → Shared → Prop) (g h₁ : Heap) (L : Addr) (mean : ExcName → Option Value) (mg mb : Str → Option Value) (X : (KF w.params).In g) (T : Top qv (looseW qv loose) mean mg mb g)
   (hd : dp + 32 < recursionLimit) (hu : un + 128 < cLine) (cD : Nat) (ws dv : List Value) (PL DS : List Str) (hW : StrsAre ws PL) (hD : StrsAre dv DS) (hDl : DS.length ≤ 30) (hPl : PL.length ≤ 30) (heq : PL = if DS = [] then [Str.ofString "0x0"] else DS) (hok : ∀ x ∈ PL, PyData.strOk x = true)
   (m : Str → Option Value) (D aD : Addr) (tk : Tok) (o6 : Obj) (hd6 : o6.data = .cell (some (.ref D))) (hm2 : m (Str.ofString "due") = some (.ref aD)) (rest : List (Addr × Obj))
   (F : Fr g L h₁ m) (N : News g L h₁ ((D, W.listOf ws.toArray 0) :: (aD, W.listOf dv.toArray cD) :: (L + 6, o6) :: rest))
   (hQ : ∀ h' tk', Fr g L h' m → News g L h' ((D, W.listOf ws.toArray 0) :: (aD, W.listOf dv.toArray cD) :: (L + 6, o6) :: rest) → Q .next { s with heap := h', toks := tk' }) :
   wpAny (model PySem.Challenge.rw_sr0008_01.prog w) ((AR dp un fr gd).deeper (lawE L)) (execs (lawB 17 1) (lawE L)) Q (fun _ _ => False) { s with heap := h₁, toks := tk } := by
  have em := ifs1 hm2
  rw [em] at F
  revert X T
  k_fill
  intro X T
  k_steps
  unfold Stop
  rename_i D1 h1 F1 N1 l1
  by_cases hDS : DS = []
  · subst hDS
    rw [if_pos rfl] at heq
    subst heq
    refine ne_strs (xs := dv) (ys := []) (ns := []) (ms := []) (is_lst N1 (n := cD) (by k_mem)) (is_lst N1 (n := 0) List.mem_cons_self) hD .nil (by show un + 3 + 64 < cLine; omega) (fun x hx => nomatch hx) (fun x hx => nomatch hx) ?_
    rw [decide_eq_true rfl]
    k_steps
    unfold Stop
    (with_reducible rename Fr _ _ _ _ => kF)
    (with_reducible rename News _ _ _ _ => kN)
    refine ne_strs (xs := ws) (ys := [_]) (ns := [Str.ofString "0x0"]) (ms := [Str.ofString "0x0"]) (is_lst kN (n := 0) (by k_mem)) (is_lst kN List.mem_cons_self) hW (.cons _ _ .nil) (by show un + 3 + 64 < cLine; omega) hok hok ?_
    rw [decide_eq_true rfl]
    k_steps
    all_goals (try (show wpAny _ _ (execs [] _) _ _ _; refine wpAny_pure ?_))
    rw [← em] at kF
    exact hQ _ _ kF (fun p hp => kN p (List.mem_cons_of_mem _ (List.mem_cons_of_mem _ hp)))
  · rw [if_neg hDS] at heq
    subst heq
    refine ne_strs (xs := dv) (ys := []) (ns := PL) (ms := []) (is_lst N1 (n := cD) (by k_mem)) (is_lst N1 (n := 0) List.mem_cons_self) hD .nil (by show un + 3 + 64 < cLine; omega) hok (fun x hx => nomatch hx) ?_
    rw [decide_eq_false hDS]
    k_steps
    unfold Stop
    refine ne_strs (xs := ws) (ys := dv) (ns := PL) (ms := PL) (is_lst N1 (n := 0) (by k_mem)) (is_lst N1 (n := cD) (by k_mem)) hW hD (by show un + 3 + 64 < cLine; omega) hok hok ?_
    rw [decide_eq_true rfl]
    k_steps
    all_goals (try (show wpAny _ _ (execs [] _) _ _ _; refine wpAny_pure ?_))
    rw [← em] at F1
    exact hQ _ _ F1 (fun p hp => N1 p (List.mem_cons_of_mem _ hp))
end
end Mine
end
section
open PySem PySem.W PyProof.Rows PySem.Calls PyProof.V PySem.Spec
set_option maxRecDepth 100000
namespace Mine
noncomputable def bodyMI : List Stmt := forB ((fnB (stN 32)).getD 19 (.Pass default))
section
variable {prog : Program} {w : World} {A : Around} {h₀ : Heap} {L : Addr} {m : Str → Option Value} {env : Env} {ct elt : Expr} {x : Str} {scope : Scope} {cl : List (Str × Addr)} {s : Shared} {S : List (Addr × Obj) → Prop} {Fin : List Value → List (Addr × Obj) → Prop} {news : List (Addr × Obj)}
theorem kit_range {n : Nat} (test : Int → Bool) (f : Int → Int)
    (turn : ∀ k t I oI C oC D m₂ ys h tk (E' : Value → Shared → Prop), 0 ≤ k → k < (n : Int) → LCg.NsObj oC m₂ → m₂ x = some (.int k t) → Fr h₀ L h m → News h₀ L h ((I, oI) :: (C, oC) :: (D, LCg.lst ys) :: news) → LCg.Off3 I C D news → ((@Ne Nat I C) ∧ (@Ne Nat I D) ∧ (@Ne Nat C D)) →
      wpAny (model prog w) A (isTrue ct (compEnvC scope cl C env) (eval ct (compEnvC scope cl C env))) (fun b s' => if b = true then wpAny (model prog w) A (eval elt (compEnvC scope cl C env)) (LCg.CompEnd h₀ L m { s with heap := h, toks := tk } I oI C oC D (LCg.lst ys) S (fun y news' => news' = news ∧ test k = true ∧ ∃ t, y = .int (f k) t)) E' s'
        else LCg.CompEnd h₀ L m { s with heap := h, toks := tk } I oI C oC D (LCg.lst ys) S (fun _ news' => news' = news ∧ test k = false) Value.none s') E' { s with heap := h, toks := tk })
    (fin : ∀ ys, IntsAre ys (((rangeKs 0 n).filter test).map f) → Fin ys news) : LCt.CompRestT prog w A h₀ L m env ct elt x scope cl s S (fun i v => ∃ t, v = .int (0 + (i : Int)) t) Fin n 0 [] news := by
  have hks := rangeKs_length 0 n
  have key : ∀ (j i : Nat) (ys : List Value), i + j = n → IntsAre ys ((((rangeKs 0 n).take i).filter test).map f) → LCt.CompRestT prog w A h₀ L m env ct elt x scope cl s S (fun i v => ∃ t, v = .int (0 + (i : Int)) t) Fin j i ys news := by
    intro j
    induction j with
    | zero =>
      intro i ys hi hy
      have e : i = (rangeKs 0 n).length := by omega
      rw [e, List.take_length] at hy
      exact LCt.CompRestT.zero (fin ys hy)
    | succ j ih =>
      intro i ys hi hy
      refine LCt.CompRestT.succ ?_
      intro v I oI C oC D m₂ h tk E' hv hC hx F N off ne
      obtain ⟨t, rfl⟩ := hv
      have hk : (rangeKs 0 n)[i]? = some (0 + (i : Int)) := by simp [rangeKs, show i < n by omega]
      have hs : (((rangeKs 0 n).take (i + 1)).filter test).map f = (((rangeKs 0 n).take i).filter test).map f ++ (if test (0 + (i : Int)) then [f (0 + (i : Int))] else []) := by
        rw [List.take_add_one, hk, List.filter_append, List.map_append]
        congr 1
        cases htt : test (0 + (i : Int)) <;> simp only [Option.toList, List.filter_cons, List.filter_nil, htt] <;> rfl
      refine wpAny_mono (turn _ t I oI C oC D m₂ ys h tk E' (by omega) (by omega) hC hx F N off ne) (fun b s₂ hq => ?_) fun _ _ e => e
      cases b with
      | true =>
        simp only [if_true] at hq ⊢
        refine wpAny_mono hq (fun y s₃ hr => ?_) fun _ _ e => e
        obtain ⟨h', tk', nw, e, F', N', off', hS, hn, ht, t', rfl⟩ := hr
        rw [hn] at N' off' hS
        refine ⟨h', tk', news, e, F', N', off', hS, ?_⟩
        refine ih (i + 1) _ (by omega) ?_
        rw [hs, ht]
        exact ints_snoc hy _ _
      | false =>
        simp only [Bool.false_eq_true, if_false] at hq ⊢
        obtain ⟨h', tk', nw, e, F', N', off', hS, hn, ht⟩ := hq
        rw [hn] at N' off' hS
        refine ⟨h', tk', news, e, F', N', off', hS, ih (i + 1) _ (by omega) ?_⟩
        rw [hs, ht]
        simpa using hy
  exact key n 0 [] (by omega) .nil
end
noncomputable def maskW (PL : List Str) (i : Int) : Int := (((rangeKs 0 6).filter fun k => PL.any fun x => x == flagOf (24 - 6 * i + k)).map fun k => (2 : Int) ^ k.toNat).sum
section
local macro_rules | `(tactic| walk_at "call ref") => `(tactic| with_unfolding_all refine stop_intro ?_)
local macro_rules | `(tactic| walk_at "CompSrcT") => `(tactic| with_unfolding_all refine stop_intro ?_)
local macro_rules | `(tactic| walk_at "CompSrc") => `(tactic| with_unfolding_all refine stop_intro ?_)
local macro_rules | `(tactic| walk_at "compareOp In str ref") => `(tactic| with_unfolding_all refine stop_intro ?_)
local macro_rules | `(tactic| walk_at "ite") => `(tactic| with_unfolding_all refine stop_intro ?_)
local macro_rules | `(tactic| walk_at "call builtin:sum") => `(tactic| with_unfolding_all refine stop_intro ?_)
local macro_rules | `(tactic| walk_at "call builtin:list.append") => `(tactic| with_unfolding_all refine stop_intro ?_)
set_option maxHeartbeats 8000000 in
theorem law_P (w : World) (dp un : Nat) (fr : Option (List Env)) (gd : Option (List Code)) (s : Shared) (Q : Flow → Shared → Prop) (g h₁ : Heap) (L : Addr) (mean : ExcName → Option Value) (mg mb : Str → Option Value) (X : (KF w.params).In g) (T : Top qv (looseW qv loose) mean mg mb g)
   (hd : dp + 32 < recursionLimit) (hu : un + 128 < cLine) (cW cM : Nat) (ws mv : List Value) (PL : List Str) (MS : List Int) (hW : StrsAre ws PL) (hPl : PL.length ≤ 30) (hM : IntsAre mv MS) (hMl : MS.length ≤ 5) (i : Int) (ti : Tok) (hi0 : 0 ≤ i) (hi5 : i < 5)
   (m : Str → Option Value) (D aM : Addr) (tk : Tok) (o2 o6 : Obj) (hd2 : o2.data = .cell (some (.int i ti))) (hd6 : o6.data = .cell (some (.ref D))) (hm2 : m (Str.ofString "masks") = some (.ref aM)) (rest : List (Addr × Obj)) (hneM : D ≠ aM ∧ L + 2 ≠ aM ∧ L + 6 ≠ aM) (hrM : ∀ p ∈ rest, p.1 ≠ aM)
   (F : Fr g L h₁ m) (N : News g L h₁ ((aM, W.listOf mv.toArray cM) :: (D, W.listOf ws.toArray cW) :: (L + 2, o2) :: (L + 6, o6) :: rest))
   (hQ : ∀ h' tk' t, Fr g L h' m → News g L h' ((aM, W.listOf (List.toArray (mv ++ [.int (maskW PL i) t])) (cM + 1)) :: (D, W.listOf ws.toArray cW) :: (L + 2, o2) :: (L + 6, o6) :: rest) → Q .next { s with heap := h', toks := tk' }) :
   wpAny (model PySem.Challenge.rw_sr0008_01.prog w) ((AR dp un fr gd).deeper (lawE L)) (execs bodyMI (lawE L)) Q (fun _ _ => False) { s with heap := h₁, toks := tk } := by
  have em := ifs1 hm2
  rw [em] at F
  revert X T
  k_fill
  intro X T
  k_steps
  unfold Stop
  (with_reducible rename Fr _ _ _ _ => kF)
  (with_reducible rename News _ _ _ _ => kN)
  (with_reducible rename IsRange _ _ _ _ _ _ _ _ => kR)
  refine LCt.CompSrcT.range ?_ kF kN kR (by decide) (n := 6) (by rfl) (by rw [sizeLine_eq]; decide) ?_
  · rfl
  intro g9
  refine kit_range (fun k => PL.any fun x => x == flagOf (24 - 6 * i + k)) (fun k => (2 : Int) ^ k.toNat) (fun k t I oI C oC D' m₂ ys h tk E' hk0 hk6 hC hm F' N' off' ne' => ?_) ?_
  · simp only [LCg.Off3] at off'
    k_steps
    unfold Stop
    refine call_flag F' X T N' (by omega) (by omega) hd hu ?_
    intro t5 h5 tk5 F5 N5
    dsimp only
    k_steps
    unfold Stop
    refine in_list_strs (is_lst N5 (n := cW) (its := ws.toArray) (by k_mem)) hW ?_
    k_steps
    unfold Stop
    split
    · rename_i hte
      k_steps
      exact LCg.CompEnd.intro F5 N5 _ (fun p hp => hp) (by simp only [LCg.Off3]; exact off') trivial ⟨rfl, hte, _, rfl⟩
    · rename_i hte
      exact LCg.CompEnd.intro F5 N5 _ (fun p hp => hp) (by simp only [LCg.Off3]; exact off') trivial ⟨rfl, Bool.eq_false_iff.mpr hte⟩
  · intro ys hys
    dsimp only [LCg.FinE]
    intro D9 h tk F' N' off'
    simp only [LCg.Off1] at off'
    k_steps
    unfold Stop
    refine LSm.sum_ints F' N' rfl (is_lst N' (n := ys.length) (its := ys.toArray) List.mem_cons_self) hys ?_
    intro h6 tk6 t6 F6 N6
    dsimp only
    k_steps
    unfold Stop
    have zO := N6 (aM, W.listOf mv.toArray cM) (List.mem_cons_of_mem _ List.mem_cons_self)
    refine append_at (hsz := by rw [List.size_toArray, IntsAre.length hM, sizeLine_eq]; omega) zO.1 fun ha hsa hga => ?_
    have Fa := F6.change hsa zO.2.1 zO.2.2
    k_steps
    all_goals (try (show wpAny _ _ (execs [] _) _ _ _; refine wpAny_pure ?_))
    rw [← em] at Fa
    refine hQ _ _ t6 Fa (fun p hp => ?_)
    rcases List.mem_cons.mp hp with rfl | hp
    · rw [← List.push_toArray]
      exact ⟨hga, zO.2.1, zO.2.2⟩
    · have z := N6 p (List.mem_cons_of_mem _ (List.mem_cons_of_mem _ hp))
      refine ⟨(hsa.2 _ ?_).trans z.1, z.2⟩
      simp only [List.mem_cons] at hp
      rcases hp with rfl | rfl | rfl | hp
      · exact hneM.1
      · exact hneM.2.1
      · exact hneM.2.2
      · exact hrM p hp
end
end Mine
end
section
open PySem PySem.W PyProof.Rows PySem.Calls PyProof.V PySem.Spec
set_option maxRecDepth 100000
namespace Mine
theorem allLt_mem {d : Nat} : ∀ {l : List (Addr × Obj)}, AllLt d l → ∀ p : Addr × Obj, p ∈ l → @LT.lt Nat _ p.1 d
  | [], _, p, hp => nomatch hp
  | q :: r, h, p, hp => by
    unfold AllLt at h
    rcases List.mem_cons.mp hp with e | hp
    · rw [e]; exact h.1
    · exact allLt_mem h.2 p hp
noncomputable def JM (PL : List Str) (L aM : Addr) (mm : Str → Option Value) (nO : Addr × Obj) (post : List (Addr × Obj)) (i : Nat) (m : Str → Option Value) (news : List (Addr × Obj)) : Prop :=
  ∃ (cM : Nat) (mv : List Value) (o2 : Obj) (v2 : Option Value), m = mm ∧ news = (aM, W.listOf mv.toArray cM) :: nO :: (L + 2, o2) :: post ∧ o2.data = .cell v2 ∧ IntsAre mv ((List.range i).map fun (j : Nat) => maskW PL (j : Int))
section
local macro_rules | `(tactic| walk_at "exec For Name Call cons nil") => `(tactic| with_unfolding_all refine For_mine ?_)
set_option maxHeartbeats 8000000 in
theorem law_Q (w : World) (dp un : Nat) (fr : Option (List Env)) (gd : Option (List Code)) (s : Shared) (Q : Flow → Shared → Prop) (g h₁ : Heap) (L : Addr) (mean : ExcName → Option Value) (mg mb : Str → Option Value) (X : (KF w.params).In g) (T : Top qv (looseW qv loose) mean mg mb g)
   (hd : dp + 32 < recursionLimit) (hu : un + 128 < cLine) (cW : Nat) (ws : List Value) (PL : List Str) (hW : StrsAre ws PL) (hPl : PL.length ≤ 30)
   (m : Str → Option Value) (D : Addr) (tk : Tok) (o2 o6 : Obj) (v2 : Option Value) (hd2 : o2.data = .cell v2) (hd6 : o6.data = .cell (some (.ref D))) (rest : List (Addr × Obj)) (hD2 : D ≠ L + 2) (hr2 : ∀ p ∈ rest, p.1 ≠ L + 2)
   (F : Fr g L h₁ m) (N : News g L h₁ ((D, W.listOf ws.toArray cW) :: (L + 2, o2) :: (L + 6, o6) :: rest))
   (hQ : ∀ h' tk' aM cM mv m', Fr g L h' m' → m' (Str.ofString "masks") = some (.ref aM) → News g L h' [(aM, W.listOf (List.toArray mv) cM)] → IntsAre mv ((List.range 5).map fun (j : Nat) => maskW PL (j : Int)) → Q .next { s with heap := h', toks := tk' }) :
   wpAny (model PySem.Challenge.rw_sr0008_01.prog w) ((AR dp un fr gd).deeper (lawE L)) (execs (lawB 18 2) (lawE L)) Q (fun _ _ => False) { s with heap := h₁, toks := tk } := by
  revert X T
  k_fill
  intro X T
  k_steps
  rename_i aM hx0 lA hx Fx Nx h5 tk5 t1 u1 v1 r1 F1 N1 k1
  refine range_mine (n := 5) (JM PL L aM (fun y => if y = Str.ofString "masks" then some (Value.ref aM) else m y) (D, W.listOf ws.toArray cW) ((L + 6, o6) :: rest)) rfl r1 (by decide) (by rfl) F1 (news := (aM, W.listOf #[] 0) :: (D, W.listOf ws.toArray cW) :: (L + 2, o2) :: (L + 6, o6) :: rest) N1 ?_ ?_ ?_
  · exact ⟨0, [], o2, v2, rfl, rfl, hd2, .nil⟩
  · rintro i ti I oI m₂ _ h tk2 hi ⟨cM, mv, o2', v2', e9, rfl, d2, hM⟩ F5 N5 off
    subst m₂
    rw [Int.zero_add]
    refine storeX_C (c := L + 2) F5 N5 rfl (.tail (off (L + 2, o2') (by k_mem)) (.tail (Nat.ne_of_gt lA.2.1) (.tail hD2 (.head (List.forall_mem_cons.mpr ⟨by k_ne, hr2⟩)))))
      d2 ?_ rfl rfl
    intro ha oa Fa Na da
    refine law_P w dp un fr gd s _ g ha L mean mg mb X T hd hu cW cM ws mv PL ((List.range i).map fun (j : Nat) => maskW PL (j : Int)) hW hPl hM (by rw [List.length_map, List.length_range]; omega) (i : Int) ti (Int.natCast_nonneg _) (by omega) (fun y => if y = Str.ofString "masks" then some (Value.ref aM) else m y) D aM _ oa o6 da hd6 (if_pos rfl) ((I, oI) :: rest) ⟨Nat.ne_of_lt lA.1, Nat.ne_of_lt lA.2.1, Nat.ne_of_lt lA.2.2.1⟩
      (List.forall_mem_cons.mpr ⟨off (aM, W.listOf mv.toArray cM) (by k_mem), fun p hp => Nat.ne_of_lt (allLt_mem lA.2.2.2 p hp)⟩) Fa (fun p hp => Na p ?_) ?_
    · iterate 5 (rcases List.mem_cons.mp hp with rfl | hp; (· k_mem))
      repeat (first | exact hp | refine List.Mem.tail _ ?_)
    · intro h8 tk8 t8 F8 N8
      refine ⟨h8, tk8, _, (aM, W.listOf (List.toArray (mv ++ [Value.int (maskW PL (i : Int)) t8])) (cM + 1)) :: (D, W.listOf ws.toArray cW) :: (L + 2, oa) :: (L + 6, o6) :: rest, rfl, F8, fun p hp => N8 p ?_, fun p hp => ?_, ⟨cM + 1, _, oa, _, rfl, rfl, da, ?_⟩⟩
      · iterate 5 (rcases List.mem_cons.mp hp with rfl | hp; (· k_mem))
        repeat (first | exact hp | refine List.Mem.tail _ ?_)
      · simp only [List.mem_cons] at hp
        rcases hp with rfl | rfl | rfl | rfl | hp
        · exact off (aM, W.listOf mv.toArray cM) (by k_mem)
        · exact off _ (by k_mem)
        · exact off (L + 2, o2') (by k_mem)
        · exact off (L + 6, o6) (by k_mem)
        · exact off p (by repeat (first | exact hp | refine List.Mem.tail _ ?_))
      · rw [List.range_succ, List.map_append]
        exact ints_snoc hM _ _
  · rintro m₂ _ h tk2 ⟨cM, mv, o2', v2', e9, rfl, d2, hM⟩ F5 N5
    subst m₂
    refine wpAny_pure ?_
    refine wpAny_pure ?_
    exact hQ h tk2 aM cM mv _ F5 (if_pos rfl) (fun p hp => N5 p (by rw [List.mem_singleton.mp hp]; exact List.mem_cons_self)) hM
end
end Mine
end
section
local macro_rules | `(tactic| walk_at "zz idle") => `(tactic| skip)
open PySem PySem.W PyProof.Rows PySem.Calls PyProof.V PySem.Spec
set_option maxRecDepth 100000
namespace Mine
section
local macro_rules | `(tactic| walk_at "call ref") => `(tactic| with_unfolding_all refine stop_intro ?_)
set_option maxHeartbeats 8000000 in
theorem law_R (w : World) (dp un : Nat) (fr : Option (List Env)) (gd : Option (List Code)) (s : Shared) (Q : Flow → Shared → Prop) (g h₁ : Heap) (L : Addr) (mean : ExcName → Option Value) (mg mb : Str → Option Value) (X : (KF w.params).In g) (T : Top qv (looseW qv loose) mean mg mb g)
   (hd : dp + 32 < recursionLimit) (hu : un + 128 < cLine) (cM : Nat) (mv : List Value) (ms : List Nat) (hI : IntsAre mv (ms.map fun (m : Nat) => (m : Int))) (hlen : ms.length = 5) (hb : ∀ m ∈ ms, m < 64)
   (m : Str → Option Value) (aM : Addr) (tk : Tok) (hm1 : m (Str.ofString "masks") = some (.ref aM))
   (F : Fr g L h₁ m) (N : News g L h₁ [(aM, W.listOf mv.toArray cM)])
   (hQ : ∀ s2 h' tk', SameS s s2 → Fr g L h' m → Q (.ret (.bool true)) { s2 with heap := h', toks := tk' }) :
   wpAny (model PySem.Challenge.rw_sr0008_01.prog w) ((AR dp un fr gd).deeper (lawE L)) (execs (lawB 20 1) (lawE L)) Q (fun _ _ => False) { s with heap := h₁, toks := tk } := by
  have em := ifs1 hm1
  rw [em] at F
  revert X T
  k_fill
  intro X T
  k_steps
  unfold Stop
  (with_reducible rename Fr _ _ _ _ => kF)
  (with_reducible rename News _ _ _ _ => kN)
  refine served_spec w aM mv ms hI hlen hb (dp + 1) _ _ _ _ _ _ ⟨X.keeps kF.keep, _, _, _, T.keeps kF.keep⟩ (is_lst kN (n := cM) List.mem_cons_self) (by omega) (by show un + 3 + 96 < cLine; omega) ?_
  rintro s2 v h2 tk2 hs hk ⟨t, rfl⟩
  have F2 := fr_of_keeps kF hk
  have N2 := kN.grown hk
  clear hk kF kN
  k_steps
  unfold Stop
  refine PSpecD.use (dp := dp + 1) (want_spec w aM mv ms hI hlen hb) F2 X T N2 (is_lst N2 (n := cM) List.mem_cons_self) (by omega) (by show un + 3 + 96 < cLine; omega) ?_
  rintro v h3 tk3 F3 N3 _ ⟨t3, rfl⟩
  k_steps
  rw [← em] at F3
  rw [beq_self_eq_true]
  exact hQ s2 h3 _ hs F3
end
end Mine
end
section
open PySem PySem.Builtin.Str
set_option maxRecDepth 100000
namespace Mine
open PySem.StrLaws
noncomputable def RestC (s sub : Str) (hi : Nat) : Nat → Nat → List Nat → Prop
  | _, 0, cuts => cuts = []
  | a, _ + 1, [] => ∀ k, a ≤ k → ¬ At s sub hi k
  | a, n + 1, c :: r => a ≤ c ∧ At s sub hi c ∧ (∀ k, a ≤ k → k < c → ¬ At s sub hi k) ∧ RestC s sub hi (c + sub.length) n r
theorem rest_nil {s sub : Str} {hi p left : Nat} {cuts : List Nat} (hp : hi < p) (h : RestC s sub hi p left cuts) : cuts = [] := by
  match left, cuts, h with
  | 0, _, h => exact h
  | _ + 1, [], _ => rfl
  | n + 1, c :: r, h => exact absurd (Nat.le_trans h.1 (Nat.le_trans (Nat.le_add_right _ _) h.2.1.1)) (Nat.not_le_of_gt hp)
theorem rest_hit {s sub : Str} {hi cur left : Nat} {cuts : List Nat} (hl : left ≠ 0) (hA : At s sub hi cur) (h : RestC s sub hi cur left cuts) : ∃ n r, left = n + 1 ∧ cuts = cur :: r ∧ RestC s sub hi (cur + sub.length) n r := by
  match left, cuts, h with
  | 0, _, _ => exact absurd rfl hl
  | n + 1, [], h => exact absurd hA (h cur (Nat.le_refl _))
  | n + 1, c :: r, h =>
    rcases Nat.lt_or_ge cur c with g | g
    · exact absurd hA (h.2.2.1 cur (Nat.le_refl _) g)
    · have e : c = cur := Nat.le_antisymm g h.1
      subst e
      exact ⟨n, r, rfl, rfl, h.2.2.2⟩
theorem rest_miss {s sub : Str} {hi cur left : Nat} {cuts : List Nat} (hA : left ≠ 0 → ¬ At s sub hi cur) (h : RestC s sub hi cur left cuts) : RestC s sub hi (cur + 1) left cuts := by
  match left, cuts, h with
  | 0, _, h => exact h
  | n + 1, [], h => exact fun k hk => h k (Nat.le_of_succ_le hk)
  | n + 1, c :: r, h =>
    have hne : c ≠ cur := fun e => hA (Nat.succ_ne_zero _) (e ▸ h.2.1)
    exact ⟨Nat.lt_of_le_of_ne h.1 (Ne.symm hne), h.2.1, fun k h1 h2 => h.2.2.1 k (Nat.le_of_succ_le h1) h2, h.2.2.2⟩
theorem occ_walk (s sub : Str) (hi limit : Nat) (hw : 1 ≤ sub.length) : ∀ (m cur left : Nat) (cuts : List Nat) (st : Array Nat × Nat), st.1.size + left = limit → cur + m = hi + 1 → ∀ p, cur ≤ p → st.2 ≤ p → (p = cur ∨ p = st.2) → RestC s sub hi p left cuts →
    (forIn (List.range' cur m) st (occBody s sub hi limit)).run.fst.toList = st.1.toList ++ cuts
  | 0, cur, left, cuts, st, hl, hc, p, h1, h2, h3, hr => by
    have hc : cur = hi + 1 := hc
    rw [rest_nil (show hi < p from Nat.lt_of_lt_of_le (by rw [hc]; exact Nat.lt_succ_self hi) h1) hr, List.append_nil]
    rfl
  | m + 1, cur, left, cuts, st, hl, hc, p, h1, h2, h3, hr => by
    have hc' : cur + 1 + m = hi + 1 := by rw [← hc, Nat.add_assoc, Nat.add_comm 1 m]
    rw [List.range'_succ, List.forIn_cons]
    by_cases hb : ((st.fst.size < limit ∧ st.snd ≤ cur) ∧ cur + sub.length ≤ hi) ∧ subAt s sub cur = true
    · rw [show occBody s sub hi limit cur st = pure (ForInStep.yield (st.fst.push cur, cur + sub.length)) from if_pos hb]
      have hpc : p = cur := h3.elim id fun e => Nat.le_antisymm (e ▸ hb.1.1.2) h1
      subst hpc
      obtain ⟨n, r, rfl, rfl, hr'⟩ := rest_hit (fun e => by rw [e] at hl; exact absurd hl (Nat.ne_of_lt hb.1.1.1)) ⟨hb.1.2, hb.2⟩ hr
      have := occ_walk s sub hi limit hw m (p + 1) n r (st.fst.push p, p + sub.length) (by rw [Array.size_push, Nat.add_assoc, Nat.add_comm 1 n]; exact hl) hc' (p + sub.length) (Nat.add_le_add_left hw p) (Nat.le_refl _) (.inr rfl) hr'
      refine Eq.trans this ?_
      show (st.fst.push p).toList ++ r = _
      rw [Array.toList_push, List.append_assoc]
      rfl
    · rw [show occBody s sub hi limit cur st = pure (ForInStep.yield (st.fst, st.snd)) from if_neg hb]
      rcases Nat.lt_or_ge cur st.2 with g | g
      · have e : p = st.2 := h3.elim (fun e => absurd h2 (Nat.not_le_of_gt (e ▸ g))) id
        exact occ_walk s sub hi limit hw m (cur + 1) left cuts (st.fst, st.snd) hl hc' p (e ▸ g) h2 (.inr e) hr
      · have e : p = cur := h3.elim id fun e => Nat.le_antisymm (e ▸ g) h1
        subst e
        exact occ_walk s sub hi limit hw m (p + 1) left cuts (st.fst, st.snd) hl hc' (p + 1) (Nat.le_refl _) (Nat.le_succ_of_le g) (.inl rfl) (rest_miss (fun hne hA => hb ⟨⟨⟨by rw [← hl]; exact Nat.lt_add_of_pos_right (Nat.pos_of_ne_zero hne), g⟩, hA.1⟩, hA.2⟩) hr)
theorem occ_cuts {x y : Str} {limit : Nat} {cuts : List Nat} (hw : 1 ≤ y.length) (h : RestC x y x.length 0 limit cuts) : occurrences x y 0 x.length limit = cuts := by
  rw [occ_eq]
  have := occ_walk x y x.length limit hw (x.length + 1 - 0) 0 limit cuts ((#[] : Array Nat), 0) (by simp) (by omega) 0 (Nat.le_refl _) (Nat.le_refl _) (.inl rfl) h
  simpa using this
noncomputable def JL (sep : List Nat) : List (List Nat) → List Nat
  | [] => []
  | [p] => p
  | p :: q :: r => p ++ (sep ++ JL sep (q :: r))
noncomputable def cutP (sep : List Nat) : Nat → List (List Nat) → List (List Nat)
  | _, [] => []
  | 0, ps => [JL sep ps]
  | _ + 1, [p] => [p]
  | n + 1, p :: q :: r => p :: cutP sep n (q :: r)
theorem at_iff (x y : Str) (k : Nat) : At x y x.length k ↔ k + y.length ≤ x.length ∧ (x.cps.toList.drop k).take y.length = y.cps.toList := by
  unfold At
  rw [subAt_eq]
  simp
theorem at_head {x y : Str} {k c : Nat} {t : List Nat} (hy : y.cps.toList = c :: t) (h : At x y x.length k) : x.cps.toList[k]? = some c := by
  have h2 := ((at_iff x y k).mp h).2
  rw [hy] at h2
  have hl : y.length = t.length + 1 := by
    have : y.cps.toList.length = y.length := by simp [Str.length]
    rw [← this, hy, List.length_cons]
  rw [hl] at h2
  have := congrArg (fun l => l[0]?) h2
  simp only [List.getElem?_cons_zero] at this
  rw [List.getElem?_take_of_lt (by omega), List.getElem?_drop] at this
  simpa using this
theorem rest_of {x y : Str} {c : Nat} {t : List Nat} (hy : y.cps.toList = c :: t) : ∀ (ps : List (List Nat)) (left a : Nat), ps ≠ [] → (∀ p ∈ ps, c ∉ p) → a ≤ x.length → x.cps.toList.drop a = JL y.cps.toList ps →
    ∃ cuts, RestC x y x.length a left cuts ∧ (partsFrom x y.length a cuts).map (fun z => z.cps.toList) = cutP y.cps.toList left ps
  | [], _, _, h, _, _, _ => absurd rfl h
  | ps@(p :: r), 0, a, _, hf, ha, hd => by
    refine ⟨[], rfl, ?_⟩
    show [(strSub x a x.length).cps.toList] = _
    rw [strSub_toList, hd]
    show [List.take _ (JL _ (p :: r))] = [JL _ (p :: r)]
    rw [List.take_of_length_le]
    rw [← hd, List.length_drop]
    simp [Str.length]
  | [p], n + 1, a, _, hf, ha, hd => by
    refine ⟨[], ?_, ?_⟩
    · intro k hk hA
      have h1 := at_head hy hA
      have h2 : (x.cps.toList.drop a)[k - a]? = some c := by rw [List.getElem?_drop, show a + (k - a) = k by omega]; exact h1
      rw [hd] at h2
      exact hf p List.mem_cons_self (List.mem_of_getElem? h2)
    · show [(strSub x a x.length).cps.toList] = [p]
      rw [strSub_toList, hd]
      show [List.take _ p] = [p]
      rw [List.take_of_length_le]
      show p.length ≤ _
      have : p = x.cps.toList.drop a := hd.symm
      rw [this, List.length_drop]
      simp [Str.length]
  | p :: q :: r, n + 1, a, _, hf, ha, hd => by
    have hxl : x.cps.toList.length = x.length := by simp [Str.length]
    have hyl : y.cps.toList.length = y.length := by simp [Str.length]
    have hd' : x.cps.toList.drop a = p ++ (y.cps.toList ++ JL y.cps.toList (q :: r)) := hd
    have hlen := congrArg List.length hd'
    rw [List.length_drop, List.length_append, List.length_append, hxl, hyl] at hlen
    have hdr : x.cps.toList.drop (a + p.length) = y.cps.toList ++ JL y.cps.toList (q :: r) := by
      rw [← List.drop_drop, hd', List.drop_left]
    have hdr2 : x.cps.toList.drop (a + p.length + y.length) = JL y.cps.toList (q :: r) := by
      rw [← List.drop_drop, hdr, ← hyl, List.drop_left]
    obtain ⟨cuts, h1, h2⟩ := rest_of hy (q :: r) n (a + p.length + y.length) (by simp) (fun z hz => hf z (List.mem_cons_of_mem _ hz)) (by omega) hdr2
    refine ⟨(a + p.length) :: cuts, ⟨by omega, (at_iff _ _ _).mpr ⟨by omega, by rw [hdr, ← hyl, List.take_left]⟩, ?_, h1⟩, ?_⟩
    · intro k hk1 hk2 hA
      have h3 := at_head hy hA
      have h4 : (x.cps.toList.drop a)[k - a]? = some c := by rw [List.getElem?_drop, show a + (k - a) = k by omega]; exact h3
      rw [hd', List.getElem?_append_left (by omega)] at h4
      exact hf p List.mem_cons_self (List.mem_of_getElem? h4)
    · show (strSub x a (a + p.length)).cps.toList :: (partsFrom x y.length (a + p.length + y.length) cuts).map (fun z => z.cps.toList) = p :: cutP _ n (q :: r)
      rw [h2, strSub_toList, hd', show a + p.length - a = p.length by omega, List.take_left]
theorem kind_pos (x : Str) : ¬ Builtin.Str.strKind x < 1 := by
  unfold Builtin.Str.strKind
  split
  · decide
  · split <;> decide
theorem splitMax_J {x y : Str} {c : Nat} {t : List Nat} (hy : y.cps.toList = c :: t) (hk : Builtin.Str.strKind y = 1) {ps : List (List Nat)} (hne : ps ≠ []) (hf : ∀ p ∈ ps, c ∉ p) (hx : x.cps.toList = JL y.cps.toList ps) (k : Int) :
    (Txt.splitMax x y k).map (fun z => z.cps.toList) = cutP y.cps.toList (limitOf x k) ps := by
  have hyl : y.length = t.length + 1 := by
    have : y.cps.toList.length = y.length := by simp [Str.length]
    rw [← this, hy, List.length_cons]
  obtain ⟨cuts, h1, h2⟩ := rest_of hy ps (limitOf x k) 0 hne hf (Nat.zero_le _) hx
  have ho := occ_cuts (by omega) h1
  unfold Txt.splitMax
  rw [hk, ho]
  have hempty : cuts = [] → [x] = partsFrom x y.length 0 cuts := by
    rintro rfl
    show [x] = [strSub x 0 x.length]
    rw [sub_whole]
  split
  · rename_i h
    have hlt : x.length < y.length := by
      rcases Bool.or_eq_true_iff.mp h with h | h
      · exact of_decide_eq_true h
      · exact absurd (of_decide_eq_true h) (kind_pos x)
    have : cuts = [] := by
      match hl : limitOf x k, cuts, h1 with
      | 0, _, h1 => exact h1
      | n + 1, [], _ => rfl
      | n + 1, c :: r, h1 => have := h1.2.1.1; omega
    rw [hempty this, h2]
  · split
    · rename_i h
      rw [hempty (List.isEmpty_iff.mp h), h2]
    · rw [partsBetween_eq, h2]
theorem cutP_all (sep : List Nat) : ∀ (ps : List (List Nat)) (n : Nat), ps.length ≤ n + 1 → cutP sep n ps = ps
  | [], 0, _ => rfl
  | [], _ + 1, _ => rfl
  | [p], 0, _ => rfl
  | [p], _ + 1, _ => rfl
  | _ :: _ :: _, 0, h => absurd h (by simp)
  | p :: q :: r, n + 1, h => by
    show p :: cutP sep n (q :: r) = _
    rw [cutP_all sep (q :: r) n (by simp only [List.length_cons] at h ⊢; omega)]
theorem JL_len {sep : List Nat} (hs : 1 ≤ sep.length) : ∀ ps : List (List Nat), ps.length ≤ (JL sep ps).length + 1
  | [] => Nat.zero_le _
  | [p] => by simp
  | p :: q :: r => by
    have := JL_len hs (q :: r)
    simp only [JL, List.length_append, List.length_cons] at this ⊢
    omega
theorem split_J {x y : Str} {c : Nat} {t : List Nat} (hy : y.cps.toList = c :: t) (hk : Builtin.Str.strKind y = 1) {ps : List (List Nat)} (hne : ps ≠ []) (hf : ∀ p ∈ ps, c ∉ p) (hx : x.cps.toList = JL y.cps.toList ps) :
    (Txt.split x y).map (fun z => z.cps.toList) = ps := by
  have h := splitMax_J hy hk hne hf hx (-1)
  rw [show limitOf x (-1) = x.length + 1 from rfl] at h
  have hl := JL_len (sep := y.cps.toList) (by rw [hy, List.length_cons]; omega) ps
  rw [← hx] at hl
  have hxs : x.cps.toList.length = x.cps.size := Array.length_toList
  rw [cutP_all _ ps _ (show ps.length ≤ x.length + 1 + 1 by show ps.length ≤ x.cps.size + 1 + 1; omega)] at h
  exact h
theorem join_J (y : Str) : ∀ ps : List Str, (Txt.join y ps).cps.toList = JL y.cps.toList (ps.map fun z => z.cps.toList) := by
  intro ps
  show (glued y ps).cps.toList = _
  rw [glued_eq_join]
  induction ps with
  | nil => rfl
  | cons p r ih =>
    cases r with
    | nil => rfl
    | cons q r =>
      show (p ++ y ++ Str.join y (q :: r)).cps.toList = p.cps.toList ++ (y.cps.toList ++ JL y.cps.toList (List.map (fun z => z.cps.toList) (q :: r)))
      rw [← ih]
      simp only [Str.cps_append, Array.toList_append, List.append_assoc]
theorem strs_inj {a b : List Str} (h : a.map (fun z => z.cps.toList) = b.map (fun z => z.cps.toList)) : a = b := by
  refine List.map_inj_right ?_ |>.mp h
  intro x y e
  exact Str.ext' (Array.toList_inj.mp e)
end Mine
end
section
open PySem PySem.W PyProof.Rows PySem.Calls
set_option maxRecDepth 100000
namespace Mine
noncomputable def emit (p c : Nat) : List Nat := if c = 46 ∧ (p = 13 ∨ p = 10) then [46, 46] else if c = 10 ∧ p = 13 then [] else if c = 13 ∨ c = 10 then [13, 10] else [c]
noncomputable def em : Nat → List Nat → List Nat
  | _, [] => []
  | p, c :: cs => emit p c ++ em c cs
theorem em_quote : ∀ (n : Nat) (l : List Nat) (p : Nat) (b : Bool), l.length ≤ n → (b = true ↔ p = 10 ∨ p = 13) → ¬(p = 13 ∧ ∃ t, l = 10 :: t) → d1 b (nl2 l) = em p l
  | _, [], _, _, _, _, _ => rfl
  | 0, _ :: _, _, _, h, _, _ => absurd h (by simp)
  | n + 1, c :: cs, p, b, hl, hb, hp => by
    simp only [List.length_cons] at hl
    by_cases h : c = 13 ∧ ∃ t, cs = 10 :: t
    · obtain ⟨rfl, t, rfl⟩ := h
      simp only [List.length_cons] at hl
      have ih := em_quote n t 10 true (by omega) (by simp) (by simp)
      show d1 b (13 :: 10 :: nl2 t) = emit p 13 ++ (emit 13 10 ++ em 10 t)
      rw [← ih]
      simp [d1, emit]
    · rw [nl2_cons c cs h]
      have h' : ¬ (c = 13 ∧ ∃ t, cs = 10 :: t) := h
      by_cases h10 : c = 10
      · subst h10
        have ih := em_quote n cs 10 true (by omega) (by simp) (by simp)
        have hp13 : p ≠ 13 := fun e => hp ⟨e, cs, rfl⟩
        show _ = emit p 10 ++ em 10 cs
        rw [← ih]
        simp [d1, emit, nl, hp13]
      · by_cases h13 : c = 13
        · subst h13
          have ih := em_quote n cs 13 true (by omega) (by simp) h'
          show _ = emit p 13 ++ em 13 cs
          rw [← ih]
          simp [d1, emit, nl]
        · have ih := em_quote n cs c false (by omega) (by simp [h10, h13]) (fun e => h13 e.1)
          show _ = emit p c ++ em c cs
          rw [← ih]
          have hn : nl c = false := by simp [nl, h10, h13]
          have hbp : b = decide (p = 10 ∨ p = 13) := by
            by_cases hh : p = 10 ∨ p = 13
            · rw [hb.mpr hh, decide_eq_true hh]
            · rw [decide_eq_false hh]; exact Bool.eq_false_iff.mpr fun e => hh (hb.mp e)
          subst hbp
          by_cases h46 : c = 46
          · subst h46
            by_cases hq : p = 10 ∨ p = 13
            · have hq' : p = 13 ∨ p = 10 := hq.symm
              simp [d1, emit, nl, hq, hq']
            · have hq' : ¬ (p = 13 ∨ p = 10) := fun e => hq e.symm
              simp only [not_or] at hq hq'
              simp [d1, emit, nl, hq, hq']
          · have hc10 : (c == 10) = false := by simp [h10]
            simp [d1, emit, hn, h10, h13, h46, hc10]
theorem quote_em (l : List Nat) : quoteL l = em 10 l := em_quote l.length l 10 true (Nat.le_refl _) (by simp) (by simp)
theorem sent_emit (x : Str) (i : Nat) : (sentAt x i).cps.toList = emit (if i = 0 then 10 else x.cps.getD (i - 1) 0) (x.cps.getD i 0) := by
  unfold sentAt emit
  generalize x.cps.getD i 0 = c
  generalize x.cps.getD (i - 1) 0 = q
  by_cases hi : i = 0
  · subst hi
    by_cases h1 : c = 46
    · simp [h1]
    · by_cases h2 : c = 13
      · simp [h2]
      · by_cases h3 : c = 10 <;> simp [h1, h2, h3]
  · have hp : 0 < i := Nat.pos_of_ne_zero hi
    by_cases h1 : c = 46
    · by_cases h2 : q = 13 ∨ q = 10
      · simp [hi, h1, h2]
      · simp [hi, h1, h2]
    · by_cases h3 : c = 10
      · by_cases h4 : q = 13 <;> simp [hi, hp, h3, h4]
      · by_cases h5 : c = 13 <;> simp [hi, hp, h1, h3, h5]
theorem emit_mem {p c x : Nat} (h : x ∈ emit p c) : x = c ∨ x = 46 ∨ x = 13 ∨ x = 10 := by
  unfold emit at h
  split at h
  · simp at h; omega
  · split at h
    · simp at h
    · split at h
      · simp at h; omega
      · simp at h; omega
theorem em_mem {x : Nat} : ∀ {l : List Nat} {p : Nat}, x ∈ em p l → x ∈ l ∨ x = 46 ∨ x = 13 ∨ x = 10
  | [], _, h => nomatch h
  | c :: cs, p, h => by
    rcases List.mem_append.mp h with h | h
    · rcases emit_mem h with rfl | h
      · exact .inl List.mem_cons_self
      · exact .inr h
    · rcases em_mem h with h | h
      · exact .inl (List.mem_cons_of_mem _ h)
      · exact .inr h
theorem mem_em {x : Nat} (h46 : x ≠ 46) (h13 : x ≠ 13) (h10 : x ≠ 10) : ∀ {l : List Nat} {p : Nat}, x ∈ l → x ∈ em p l
  | c :: cs, p, h => by
    rcases List.mem_cons.mp h with rfl | h
    · refine List.mem_append_left _ ?_
      simp [emit, h46, h13, h10]
    · exact List.mem_append_right _ (mem_em h46 h13 h10 h)
theorem emit_len (p c : Nat) : (emit p c).length ≤ 2 := by
  unfold emit
  split
  · decide
  · split
    · decide
    · split
      · decide
      · simp
theorem em_len : ∀ (l : List Nat) (p : Nat), (em p l).length ≤ 2 * l.length
  | [], _ => Nat.le_refl _
  | c :: cs, p => by
    have h1 := emit_len p c
    have h2 := em_len cs c
    simp only [em, List.length_append, List.length_cons]
    omega
theorem emit39 (p : Nat) : emit p 39 = [39] := by simp [emit]
noncomputable def line15 (a0 a1 a2 a3 a4 a5 a6 a7 a8 a9 a10 a11 a12 a13 a14 : Nat) : List Nat := [a0, a1, a2, 39, a3, a4, a5, 39, a6, a7, a8, 39, a9, a10, a11, 39, a12, a13, a14]
noncomputable def SL15 (a0 a1 a2 a3 a4 a5 a6 a7 a8 a9 a10 a11 a12 a13 a14 : Nat) : List Str := [⟨#[a0]⟩, ⟨#[a1]⟩, ⟨#[a2]⟩, ⟨#[a3]⟩, ⟨#[a4]⟩, ⟨#[a5]⟩, ⟨#[a6]⟩, ⟨#[a7]⟩, ⟨#[a8]⟩, ⟨#[a9]⟩, ⟨#[a10]⟩, ⟨#[a11]⟩, ⟨#[a12]⟩, ⟨#[a13]⟩, ⟨#[a14]⟩]
theorem rks5 : rangeKs 0 5 = [0, 1, 2, 3, 4] := by decide +kernel
theorem tick39 : (Str.ofString "'").cps.toList = [39] := by decide +kernel
theorem nil0 : (Str.ofString "").cps.toList = [] := by decide +kernel
variable (a0 a1 a2 a3 a4 a5 a6 a7 a8 a9 a10 a11 a12 a13 a14 : Nat)
theorem line_is : Txt.join (Str.ofString "'") ((rangeKs 0 5).map (gJoin (SL15 a0 a1 a2 a3 a4 a5 a6 a7 a8 a9 a10 a11 a12 a13 a14) 3 3)) = ⟨(line15 a0 a1 a2 a3 a4 a5 a6 a7 a8 a9 a10 a11 a12 a13 a14).toArray⟩ := by
  refine Str.ext' (Array.toList_inj.mp ?_)
  rw [join_J, rks5, tick39]
  simp only [List.map_cons, List.map_nil, gJoin, join_J, nil0]
  rfl
noncomputable def XT (p a b c : Nat) : Str := ⟨(em p [a, b, c]).toArray⟩
theorem texts_are : (rangeKs 0 5).map (gJoin ((List.range (⟨(line15 a0 a1 a2 a3 a4 a5 a6 a7 a8 a9 a10 a11 a12 a13 a14).toArray⟩ : Str).length).map (sentAt ⟨(line15 a0 a1 a2 a3 a4 a5 a6 a7 a8 a9 a10 a11 a12 a13 a14).toArray⟩)) 4 3) = [XT 10 a0 a1 a2, XT 39 a3 a4 a5, XT 39 a6 a7 a8, XT 39 a9 a10 a11, XT 39 a12 a13 a14] := by
  refine strs_inj ?_
  rw [show (⟨(line15 a0 a1 a2 a3 a4 a5 a6 a7 a8 a9 a10 a11 a12 a13 a14).toArray⟩ : Str).length = 19 from rfl, rks5, show List.range 19 = [0, 1, 2, 3, 4, 5, 6, 7, 8, 9, 10, 11, 12, 13, 14, 15, 16, 17, 18] from rfl]
  simp only [List.map_cons, List.map_nil, gJoin, join_J, nil0]
  show [JL [] ([_, _, _].map _), JL [] ([_, _, _].map _), JL [] ([_, _, _].map _), JL [] ([_, _, _].map _), JL [] ([_, _, _].map _)] = _
  simp only [List.map_cons, List.map_nil, sent_emit]
  simp only [JL, List.nil_append]
  simp [line15, XT, em]
theorem quote_is : quoteL (line15 a0 a1 a2 a3 a4 a5 a6 a7 a8 a9 a10 a11 a12 a13 a14) = JL [39] [em 10 [a0, a1, a2], em 39 [a3, a4, a5], em 39 [a6, a7, a8], em 39 [a9, a10, a11], em 39 [a12, a13, a14]] := by
  rw [quote_em]
  simp only [line15, em, emit39, JL, List.append_assoc, List.nil_append, List.cons_append, List.append_nil]
end Mine
end
section
open PySem PySem.W PyProof.Rows PySem.Calls
set_option maxRecDepth 100000
namespace Mine
noncomputable def okS (c : Nat) (r : Int) : Bool := ((List.range 6).all fun k => (tabs6 c).getD k false == (r == (k : Int))) && (c != 39 && decide (c < 1114112))
theorem okS0 : ∀ p : Nat, p < 27 → okS (if (p : Int) < 11 then ([173, 847, 6150, 6155, 6156, 6157, 8203, 8204, 8205, 8288, 65279].getD (p : Int).toNat (0 : Int)).toNat else (65013 + (p : Int)).toNat) 0 = true := by decide +kernel
theorem okS1 : ∀ p : Nat, p < 66 → okS (if (p : Int) < 32 then (64976 + (p : Int)).toNat else (65536 * ((p : Int).fdiv 2 - 16) + 65534 + (p : Int).fmod 2).toNat) 1 = true := by decide +kernel
theorem okS2 : ∀ p : Nat, p < 5 → okS (65529 + (p : Int)).toNat 2 = true := by decide +kernel
theorem okS3 : ∀ p : Nat, p < 12 → okS (12272 + (p : Int)).toNat 3 = true := by decide +kernel
theorem okS4 : ∀ p : Nat, p < 15 → okS ([832, 833, 8206, 8207, 8234, 8235, 8236, 8237, 8238, 8298, 8299, 8300, 8301, 8302, 8303].getD (p : Int).toNat (0 : Int)).toNat 4 = true := by decide +kernel
theorem okS5 : ∀ p : Nat, p < 97 → okS (if (p : Int) = 0 then 917505 else (917535 + (p : Int)).toNat) 5 = true := by decide +kernel
theorem okS7 : ∀ p : Nat, p < 2 → okS (if (p : Int) = 0 then 13 else 10) 7 = true := by decide +kernel
theorem okS8 : ∀ p : Nat, p < 26 → okS (97 + (p : Int)).toNat 8 = true := by decide +kernel
theorem fm {q : Int} (n : Nat) (hn : 0 < n) : ∃ p : Nat, p < n ∧ q.fmod (n : Int) = (p : Int) := by
  have h0 := Int.fmod_nonneg_of_pos q (show (0 : Int) < (n : Int) by omega)
  have h1 := Int.fmod_lt_of_pos q (show (0 : Int) < (n : Int) by omega)
  exact ⟨(q.fmod n).toNat, by omega, by omega⟩
theorem sign_ok (x : Int) : okS (signOf x) (x.fmod 9) = true := by
  have h0 := Int.fmod_nonneg_of_pos x (show (0 : Int) < 9 by decide)
  have h1 := Int.fmod_lt_of_pos x (show (0 : Int) < 9 by decide)
  unfold signOf
  rcases (show x.fmod 9 = 0 ∨ x.fmod 9 = 1 ∨ x.fmod 9 = 2 ∨ x.fmod 9 = 3 ∨ x.fmod 9 = 4 ∨ x.fmod 9 = 5 ∨ x.fmod 9 = 6 ∨ x.fmod 9 = 7 ∨ x.fmod 9 = 8 by omega) with h | h | h | h | h | h | h | h | h
  · obtain ⟨p, hp, e⟩ := fm (q := x.fdiv 9) 27 (by decide)
    rw [h, if_pos rfl]
    rw [show ((27 : Nat) : Int) = 27 from rfl] at e
    rw [e]
    exact okS0 p hp
  · obtain ⟨p, hp, e⟩ := fm (q := x.fdiv 9) 66 (by decide)
    rw [h, if_neg (by decide), if_pos rfl]
    rw [show ((66 : Nat) : Int) = 66 from rfl] at e
    rw [e]
    exact okS1 p hp
  · obtain ⟨p, hp, e⟩ := fm (q := x.fdiv 9) 5 (by decide)
    rw [h, if_neg (by decide), if_neg (by decide), if_pos rfl]
    rw [show ((5 : Nat) : Int) = 5 from rfl] at e
    rw [e]
    exact okS2 p hp
  · obtain ⟨p, hp, e⟩ := fm (q := x.fdiv 9) 12 (by decide)
    rw [h, if_neg (by decide), if_neg (by decide), if_neg (by decide), if_pos rfl]
    rw [show ((12 : Nat) : Int) = 12 from rfl] at e
    rw [e]
    exact okS3 p hp
  · obtain ⟨p, hp, e⟩ := fm (q := x.fdiv 9) 15 (by decide)
    rw [h, if_neg (by decide), if_neg (by decide), if_neg (by decide), if_neg (by decide), if_pos rfl]
    rw [show ((15 : Nat) : Int) = 15 from rfl] at e
    rw [e]
    exact okS4 p hp
  · obtain ⟨p, hp, e⟩ := fm (q := x.fdiv 9) 97 (by decide)
    rw [h, if_neg (by decide), if_neg (by decide), if_neg (by decide), if_neg (by decide), if_neg (by decide), if_pos rfl]
    rw [show ((97 : Nat) : Int) = 97 from rfl] at e
    rw [e]
    exact okS5 p hp
  · rw [h, if_neg (by decide), if_neg (by decide), if_neg (by decide), if_neg (by decide), if_neg (by decide), if_neg (by decide), if_pos rfl]
    decide +kernel
  · obtain ⟨p, hp, e⟩ := fm (q := x.fdiv 9) 2 (by decide)
    rw [h, if_neg (by decide), if_neg (by decide), if_neg (by decide), if_neg (by decide), if_neg (by decide), if_neg (by decide), if_neg (by decide), if_pos rfl]
    rw [show ((2 : Nat) : Int) = 2 from rfl] at e
    rw [e]
    exact okS7 p hp
  · obtain ⟨p, hp, e⟩ := fm (q := x.fdiv 9) 26 (by decide)
    rw [h, if_neg (by decide), if_neg (by decide), if_neg (by decide), if_neg (by decide), if_neg (by decide), if_neg (by decide), if_neg (by decide), if_neg (by decide)]
    rw [show ((26 : Nat) : Int) = 26 from rfl] at e
    rw [e]
    exact okS8 p hp
theorem sign_tab (x : Int) {k : Nat} (hk : k < 6) : (tabs6 (signOf x)).getD k false = (x.fmod 9 == (k : Int)) := by
  have h := (Bool.and_eq_true_iff.mp (sign_ok x)).1
  exact eq_of_beq (List.all_eq_true.mp h k (List.mem_range.mpr hk))
theorem sign_39 (x : Int) : signOf x ≠ 39 ∧ signOf x < 1114112 := by
  have h := (Bool.and_eq_true_iff.mp (sign_ok x)).2
  have h := Bool.and_eq_true_iff.mp h
  exact ⟨by simpa using h.1, of_decide_eq_true h.2⟩
theorem tab_plain : ∀ c : Nat, c = 46 ∨ c = 13 ∨ c = 10 → ∀ k : Nat, k < 6 → (tabs6 c).getD k false = false := by
  rintro c (rfl | rfl | rfl) <;> decide +kernel
theorem rks3 : rangeKs 0 3 = [0, 1, 2] := by decide +kernel
theorem mk_beq (a c : Nat) : ((⟨#[a]⟩ : Str) == ⟨#[c]⟩) = (a == c) := by
  by_cases h : a = c
  · subst h; simp
  · rw [show (a == c) = false by simpa using h]
    refine beq_eq_false_iff_ne.mpr fun e => h ?_
    have := congrArg (fun z : Str => z.cps.toList) e
    simpa using this
theorem good_of {SL : List Str} {i q0 q1 q2 : Int} {A0 A1 A2 c : Nat} (h0 : SL.getD (3 * i + 0).toNat Str.empty = ⟨#[A0]⟩) (h1 : SL.getD (3 * i + 1).toNat Str.empty = ⟨#[A1]⟩) (h2 : SL.getD (3 * i + 2).toNat Str.empty = ⟨#[A2]⟩)
    (t0 : ∀ k : Nat, k < 6 → (tabs6 A0).getD k false = (q0 == (k : Int))) (t1 : ∀ k : Nat, k < 6 → (tabs6 A1).getD k false = (q1 == (k : Int))) (t2 : ∀ k : Nat, k < 6 → (tabs6 A2).getD k false = (q2 == (k : Int)))
    (hc : c ∈ [A0, A1, A2] ∨ c = 46 ∨ c = 13 ∨ c = 10) : goodC SL i q0 q1 q2 c := by
  intro k hk
  have e : (([q0, q1, q2].any fun x => x == (k : Int)) && ((List.map (fun n => SL.getD (3 * i + n).toNat Str.empty) (List.filter (fun n => decide ([q0, q1, q2].getD n.toNat 0 = (k : Int))) (rangeKs 0 3))).any fun x => x == ⟨#[c]⟩)) = ((q0 == (k : Int) && A0 == c) || ((q1 == (k : Int) && A1 == c) || (q2 == (k : Int) && A2 == c))) := by
    rw [rks3]
    have f0 : ([q0, q1, q2].getD (0 : Int).toNat 0) = q0 := rfl
    have f1 : ([q0, q1, q2].getD (1 : Int).toNat 0) = q1 := rfl
    have f2 : ([q0, q1, q2].getD (2 : Int).toNat 0) = q2 := rfl
    have bd : ∀ q : Int, (q == (k : Int)) = decide (q = (k : Int)) := fun q => by rw [Bool.eq_iff_iff]; simp
    simp only [List.filter_cons, List.filter_nil, f0, f1, f2, List.any_cons, List.any_nil, bd]
    by_cases g0 : q0 = (k : Int) <;> by_cases g1 : q1 = (k : Int) <;> by_cases g2 : q2 = (k : Int) <;>
      simp only [g0, g1, g2, decide_true, decide_false, if_true, Bool.false_eq_true, if_false, List.map_cons, List.map_nil, h0, h1, h2, List.any_cons, List.any_nil, mk_beq, beq_self_eq_true, Bool.true_and, Bool.or_false, Bool.true_or, Bool.or_true, Bool.false_or, Bool.false_and, Bool.and_true, Bool.and_false]
  rw [e]
  cases ht : (tabs6 c).getD k false with
  | true =>
    rcases hc with hc | hc
    · simp only [List.mem_cons, List.not_mem_nil, or_false] at hc
      rcases hc with rfl | rfl | rfl
      · rw [t0 k hk] at ht; simp [ht]
      · rw [t1 k hk] at ht; simp [ht]
      · rw [t2 k hk] at ht; simp [ht]
    · rw [tab_plain c hc k hk] at ht
      exact absurd ht Bool.false_ne_true
  | false =>
    symm
    rw [Bool.or_eq_false_iff, Bool.or_eq_false_iff]
    refine ⟨Bool.eq_false_iff.mpr fun hh => ?_, Bool.eq_false_iff.mpr fun hh => ?_, Bool.eq_false_iff.mpr fun hh => ?_⟩
    · have hh := Bool.and_eq_true_iff.mp hh
      have ec := eq_of_beq hh.2
      subst ec
      rw [t0 k hk, hh.1] at ht
      exact Bool.noConfusion ht
    · have hh := Bool.and_eq_true_iff.mp hh
      have ec := eq_of_beq hh.2
      subst ec
      rw [t1 k hk, hh.1] at ht
      exact Bool.noConfusion ht
    · have hh := Bool.and_eq_true_iff.mp hh
      have ec := eq_of_beq hh.2
      subst ec
      rw [t2 k hk, hh.1] at ht
      exact Bool.noConfusion ht
end Mine
end
section
open PySem PySem.W PyProof.Rows PySem.Calls
set_option maxRecDepth 100000
namespace Mine
noncomputable def B6 (b0 b1 b2 b3 b4 b5 : Bool) : Nat := (if b0 then 1 else 0) + (if b1 then 2 else 0) + (if b2 then 4 else 0) + (if b3 then 8 else 0) + (if b4 then 16 else 0) + (if b5 then 32 else 0)
noncomputable def b6 (f : Nat → Bool) : Nat := B6 (f 0) (f 1) (f 2) (f 3) (f 4) (f 5)
theorem b6_congr {f g : Nat → Bool} (h : ∀ k, k < 6 → f k = g k) : b6 f = b6 g := by
  unfold b6
  rw [h 0 (by decide), h 1 (by decide), h 2 (by decide), h 3 (by decide), h 4 (by decide), h 5 (by decide)]
theorem B6_lt : ∀ b0 b1 b2 b3 b4 b5 : Bool, B6 b0 b1 b2 b3 b4 b5 < 64 := by decide +kernel
theorem b6_lt (f : Nat → Bool) : b6 f < 64 := B6_lt _ _ _ _ _ _
theorem B6_bit : ∀ b0 b1 b2 b3 b4 b5 : Bool, ∀ k : Nat, k < 6 → (B6 b0 b1 b2 b3 b4 b5 / 2 ^ k % 2 == 1) = [b0, b1, b2, b3, b4, b5].getD k false := by decide +kernel
theorem six_get (f : Nat → Bool) {k : Nat} (hk : k < 6) : [f 0, f 1, f 2, f 3, f 4, f 5].getD k false = f k := by
  match k, hk with
  | 0, _ => rfl
  | 1, _ => rfl
  | 2, _ => rfl
  | 3, _ => rfl
  | 4, _ => rfl
  | 5, _ => rfl
theorem b6_bit (f : Nat → Bool) {k : Nat} (hk : k < 6) : (b6 f / 2 ^ k % 2 == 1) = f k := (B6_bit _ _ _ _ _ _ k hk).trans (six_get f hk)
theorem B6_or : ∀ b0 b1 b2 b3 b4 b5 : Bool, ∀ k : Nat, k < 6 → Builtin.bitOr ((B6 b0 b1 b2 b3 b4 b5 : Nat) : Int) (2 ^ k) = ((B6 (b0 || (0 == k)) (b1 || (1 == k)) (b2 || (2 == k)) (b3 || (3 == k)) (b4 || (4 == k)) (b5 || (5 == k)) : Nat) : Int) := by decide +kernel
theorem b6_or (f : Nat → Bool) {k : Nat} (hk : k < 6) : Builtin.bitOr ((b6 f : Nat) : Int) (2 ^ k) = ((b6 fun j => f j || (j == k) : Nat) : Int) := B6_or _ _ _ _ _ _ k hk
theorem maskI_b6 (c : Nat) : ∀ (j : Nat) (f : Nat → Bool), j ≤ 6 → maskI ((b6 f : Nat) : Int) c j = ((b6 fun k => f k || (decide (k < j) && (tabs6 c).getD k false) : Nat) : Int)
  | 0, f, _ => by
    show ((b6 f : Nat) : Int) = _
    refine congrArg (fun n : Nat => (n : Int)) (b6_congr fun k hk => ?_)
    simp
  | j + 1, f, hj => by
    have ih := maskI_b6 c j f (by omega)
    show (if (tabs6 c).getD j false then Builtin.bitOr (maskI ((b6 f : Nat) : Int) c j) (2 ^ j) else maskI ((b6 f : Nat) : Int) c j) = _
    rw [ih]
    split
    · rename_i ht
      rw [b6_or _ (by omega)]
      refine congrArg (fun n : Nat => (n : Int)) (b6_congr fun k hk => ?_)
      by_cases e : k = j
      · subst e
        rw [ht]; simp
      · have h1 : (k == j) = false := by simpa using e
        have h2 : decide (k < j + 1) = decide (k < j) := by rw [decide_eq_decide]; omega
        rw [h1, h2, Bool.or_false]
    · rename_i ht
      refine congrArg (fun n : Nat => (n : Int)) (b6_congr fun k hk => ?_)
      by_cases e : k = j
      · subst e
        rw [Bool.eq_false_iff.mpr ht]; simp
      · have h2 : decide (k < j + 1) = decide (k < j) := by rw [decide_eq_decide]; omega
        rw [h2]
theorem maskAll_from : ∀ (X : List Nat) (f : Nat → Bool), X.foldl (fun M c => maskI M c 6) ((b6 f : Nat) : Int) = ((b6 fun k => f k || X.any fun c => (tabs6 c).getD k false : Nat) : Int)
  | [], f => by
    refine congrArg (fun n : Nat => (n : Int)) (b6_congr fun k hk => ?_)
    simp
  | c :: X, f => by
    rw [List.foldl_cons, maskI_b6 c 6 f (Nat.le_refl _), maskAll_from X]
    refine congrArg (fun n : Nat => (n : Int)) (b6_congr fun k hk => ?_)
    simp only [hk, decide_true, Bool.true_and, List.any_cons, Bool.or_assoc]
theorem maskAll_is (X : List Nat) : maskAll X = ((b6 fun k => X.any fun c => (tabs6 c).getD k false : Nat) : Int) := by
  have h := maskAll_from X (fun _ => false)
  rw [show b6 (fun _ => false) = 0 from rfl] at h
  refine h.trans (congrArg (fun n : Nat => (n : Int)) (b6_congr fun k hk => ?_))
  rw [Bool.false_or]
noncomputable def kin (q0 q1 q2 : Int) (k : Nat) : Bool := [q0, q1, q2].any fun x => x == (k : Int)
theorem mask_text {A0 A1 A2 p : Nat} {q0 q1 q2 : Int} (t0 : ∀ k : Nat, k < 6 → (tabs6 A0).getD k false = (q0 == (k : Int))) (t1 : ∀ k : Nat, k < 6 → (tabs6 A1).getD k false = (q1 == (k : Int))) (t2 : ∀ k : Nat, k < 6 → (tabs6 A2).getD k false = (q2 == (k : Int))) :
    maskAll (em p [A0, A1, A2]) = ((b6 (kin q0 q1 q2) : Nat) : Int) := by
  rw [maskAll_is]
  refine congrArg (fun n : Nat => (n : Int)) (b6_congr fun k hk => ?_)
  have key : ∀ A : Nat, A ∈ [A0, A1, A2] → (tabs6 A).getD k false = true → A ∈ em p [A0, A1, A2] := fun A hA ht =>
    mem_em (fun e => Bool.false_ne_true ((tab_plain A (.inl e) k hk).symm.trans ht)) (fun e => Bool.false_ne_true ((tab_plain A (.inr (.inl e)) k hk).symm.trans ht)) (fun e => Bool.false_ne_true ((tab_plain A (.inr (.inr e)) k hk).symm.trans ht)) hA
  rw [Bool.eq_iff_iff]
  unfold kin
  simp only [List.any_eq_true]
  constructor
  · rintro ⟨c, hc, ht⟩
    rcases em_mem hc with hc | hc
    · simp only [List.mem_cons, List.not_mem_nil, or_false] at hc
      rcases hc with rfl | rfl | rfl
      · exact ⟨q0, by simp, (t0 k hk) ▸ ht⟩
      · exact ⟨q1, by simp, (t1 k hk) ▸ ht⟩
      · exact ⟨q2, by simp, (t2 k hk) ▸ ht⟩
    · exact absurd ((tab_plain c hc k hk).symm.trans ht) Bool.false_ne_true
  · rintro ⟨q, hq, he⟩
    simp only [List.mem_cons, List.not_mem_nil, or_false] at hq
    rcases hq with rfl | rfl | rfl
    · exact ⟨A0, key A0 (by simp) ((t0 k hk).trans he), (t0 k hk).trans he⟩
    · exact ⟨A1, key A1 (by simp) ((t1 k hk).trans he), (t1 k hk).trans he⟩
    · exact ⟨A2, key A2 (by simp) ((t2 k hk).trans he), (t2 k hk).trans he⟩
theorem low6 (x : Nat) {k : Nat} (hk : k < 6) : x / 2 ^ k % 2 = (x % 64) / 2 ^ k % 2 := by
  have h := Nat.testBit_mod_two_pow x 6 k
  rw [decide_eq_true hk, Bool.true_and, Nat.testBit_eq_decide_div_mod_eq, Nat.testBit_eq_decide_div_mod_eq] at h
  have h : x % 64 / 2 ^ k % 2 = 1 ↔ x / 2 ^ k % 2 = 1 := decide_eq_decide.mp h
  rcases Nat.mod_two_eq_zero_or_one (x / 2 ^ k) with e | e
  · rcases Nat.mod_two_eq_zero_or_one (x % 64 / 2 ^ k) with f | f
    · rw [e, f]
    · rw [h.mp f] at e; exact absurd e (by decide)
  · rw [e, h.mpr e]
theorem step64 (q r : Nat) (h : r < 64) : (q * 64 + r) / 64 = q ∧ (q * 64 + r) % 64 = r := by omega
theorem num_bit {a b c d e : Nat} (hb : b < 64) (hc : c < 64) (hd : d < 64) (he : e < 64) (ha : a < 64) (i k : Nat) (hi : i < 5) (hk : k < 6) :
    ((((a * 64 + b) * 64 + c) * 64 + d) * 64 + e) / 2 ^ (6 * i + k) % 2 = ([e, d, c, b, a].getD i 0) / 2 ^ k % 2 := by
  have e1 := step64 (((a * 64 + b) * 64 + c) * 64 + d) e he
  have e2 := step64 ((a * 64 + b) * 64 + c) d hd
  have e3 := step64 (a * 64 + b) c hc
  have e4 := step64 a b hb
  rw [Nat.pow_add, ← Nat.div_div_eq_div_mul, low6 _ hk]
  congr 2
  rw [Nat.pow_mul]
  match i, hi with
  | 0, _ => rw [Nat.pow_zero, Nat.div_one]; exact e1.2
  | 1, _ => rw [Nat.pow_one, show 2 ^ 6 = 64 from rfl, e1.1]; exact e2.2
  | 2, _ => rw [Nat.pow_succ, Nat.pow_one, show 2 ^ 6 = 64 from rfl, ← Nat.div_div_eq_div_mul, e1.1, e2.1]; exact e3.2
  | 3, _ => rw [Nat.pow_succ, Nat.pow_succ, Nat.pow_one, show 2 ^ 6 = 64 from rfl, ← Nat.div_div_eq_div_mul, ← Nat.div_div_eq_div_mul, e1.1, e2.1, e3.1]; exact e4.2
  | 4, _ => rw [Nat.pow_succ, Nat.pow_succ, Nat.pow_succ, Nat.pow_one, show 2 ^ 6 = 64 from rfl, ← Nat.div_div_eq_div_mul, ← Nat.div_div_eq_div_mul, ← Nat.div_div_eq_div_mul, e1.1, e2.1, e3.1, e4.1]; exact Nat.mod_eq_of_lt ha
end Mine
end
section
open PySem PySem.W PyProof.Rows PySem.Calls
set_option maxRecDepth 100000
namespace Mine
theorem flag_inj : ∀ i : Nat, i < 30 → ∀ j : Nat, j < 30 → (flagOf (i : Int) == flagOf (j : Int)) = (i == j) := by decide +kernel
theorem flag_0x0 : ∀ i : Nat, i < 30 → (Str.ofString "0x0" == flagOf (i : Int)) = false := by decide +kernel
theorem flag_44 : ∀ i : Nat, i < 30 → (flagOf (i : Int)).cps.toList.contains 44 = false ∧ PyData.strOk (flagOf (i : Int)) = true := by decide +kernel
theorem names_any (n : Nat) {t : Nat} (ht : t < 30) : ((namesTo n 30).any fun x => x == flagOf (t : Int)) = (n / 2 ^ t % 2 == 1) := by
  rw [Bool.eq_iff_iff]
  unfold namesTo
  simp only [List.any_eq_true, List.mem_map, List.mem_filter, List.mem_range]
  constructor
  · rintro ⟨x, ⟨i, ⟨hi, hb⟩, rfl⟩, he⟩
    have he' : (flagOf (i : Int) == flagOf (t : Int)) = true := he
    rw [flag_inj i hi t ht] at he'
    have := eq_of_beq he'
    subst this
    exact hb
  · intro hb
    exact ⟨flagName t, ⟨t, ⟨ht, hb⟩, rfl⟩, beq_self_eq_true _⟩
theorem pretty_any (n : Nat) {t : Nat} (ht : t < 30) : ((prettyL n).any fun x => x == flagOf (t : Int)) = (n / 2 ^ t % 2 == 1) := by
  unfold prettyL
  split
  · rename_i h
    subst h
    rw [List.any_cons, List.any_nil, flag_0x0 t ht, Nat.zero_div]
    rfl
  · exact names_any n ht
theorem pretty_mem {n : Nat} {x : Str} (h : x ∈ prettyL n) : x = Str.ofString "0x0" ∨ ∃ t : Nat, t < 30 ∧ x = flagOf (t : Int) := by
  unfold prettyL at h
  split at h
  · exact .inl (List.mem_singleton.mp h)
  · unfold namesTo at h
    simp only [List.mem_map, List.mem_filter, List.mem_range] at h
    obtain ⟨i, ⟨hi, _⟩, rfl⟩ := h
    exact .inr ⟨i, hi, rfl⟩
theorem pretty_30 (n : Nat) : (prettyL n).length ≤ 30 := by
  unfold prettyL
  split
  · decide
  · unfold namesTo
    rw [List.length_map]
    exact Nat.le_trans (List.length_filter_le _ _) (by rw [List.length_range]; exact Nat.le_refl _)
theorem pretty_ok {n : Nat} {x : Str} (h : x ∈ prettyL n) : PyData.strOk x = true ∧ 44 ∉ x.cps.toList ∧ x.length ≤ 20 := by
  rcases pretty_mem h with rfl | ⟨t, ht, rfl⟩
  · decide +kernel
  · refine ⟨(flag_44 t ht).2, fun hc => ?_, flag_lens t ht⟩
    have := (flag_44 t ht).1
    rw [List.contains_iff_mem.mpr hc] at this
    exact Bool.noConfusion this
theorem pretty_ne (n : Nat) (hn : n < 1073741824) : prettyL n ≠ [] := by
  unfold prettyL
  split
  · simp
  · rename_i h
    obtain ⟨i, hi⟩ := Nat.exists_testBit_of_ne_zero h
    have hi30 : i < 30 := by
      rcases Nat.lt_or_ge i 30 with hlt | hge
      · exact hlt
      · have : n < 2 ^ i := Nat.lt_of_lt_of_le hn (Nat.pow_le_pow_right (n := 2) (by decide) hge)
        rw [Nat.testBit_lt_two_pow this] at hi
        exact Bool.noConfusion hi
    rw [Nat.testBit_eq_decide_div_mod_eq] at hi
    have hb := of_decide_eq_true hi
    intro e
    have hm : flagName i ∈ namesTo n 30 := by
      unfold namesTo
      simp only [List.mem_map, List.mem_filter, List.mem_range]
      exact ⟨i, ⟨hi30, by rw [hb]; rfl⟩, rfl⟩
    rw [e] at hm
    exact nomatch hm
theorem JL_le {sep : List Nat} {B : Nat} : ∀ ps : List (List Nat), (∀ p ∈ ps, p.length ≤ B) → (JL sep ps).length ≤ ps.length * (B + sep.length)
  | [], _ => Nat.zero_le _
  | [p], h => by
    have := h p (by simp)
    show p.length ≤ 1 * (B + sep.length)
    omega
  | p :: q :: r, h => by
    have h1 := h p (by simp)
    have h2 := JL_le (sep := sep) (q :: r) (fun z hz => h z (List.mem_cons_of_mem _ hz))
    show (p ++ (sep ++ JL sep (q :: r))).length ≤ ((q :: r).length + 1) * (B + sep.length)
    rw [List.length_append, List.length_append, Nat.add_mul]
    omega
theorem comma_is : (Str.ofString ", ").cps.toList = [44, 32] := by decide +kernel
theorem pretty_split (n : Nat) (hn : n < 1073741824) : Txt.split (Txt.join (Str.ofString ", ") (prettyL n)) (Str.ofString ", ") = prettyL n := by
  refine strs_inj ?_
  refine split_J comma_is (by decide +kernel) (by simpa using pretty_ne n hn) ?_ ?_
  · intro p hp
    obtain ⟨x, hx, rfl⟩ := List.mem_map.mp hp
    exact (pretty_ok hx).2.1
  · rw [join_J]
theorem pretty_short (n : Nat) : (Txt.join (Str.ofString ", ") (prettyL n)).length ≤ 2000 := by
  have h := JL_le (sep := (Str.ofString ", ").cps.toList) (B := 20) ((prettyL n).map fun z => z.cps.toList) (fun p hp => by
    obtain ⟨x, hx, rfl⟩ := List.mem_map.mp hp
    have := (pretty_ok hx).2.2
    show x.cps.toList.length ≤ 20
    rw [Array.length_toList]
    exact this)
  rw [← join_J, List.length_map, comma_is] at h
  have h2 := pretty_30 n
  have h3 : (Txt.join (Str.ofString ", ") (prettyL n)).cps.toList.length = (Txt.join (Str.ofString ", ") (prettyL n)).length := Array.length_toList
  rw [h3] at h
  have h4 : (prettyL n).length * (20 + [44, 32].length) ≤ 30 * 22 := Nat.mul_le_mul_right 22 h2
  omega
noncomputable def fK (NS : List Int) (j : Nat) : Nat → Bool := kin ((NS.getD (3 * j) 0).fmod 9) ((NS.getD (3 * j + 1) 0).fmod 9) ((NS.getD (3 * j + 2) 0).fmod 9)
noncomputable def numN (NS : List Int) : Nat := (((b6 (fK NS 0) * 64 + b6 (fK NS 1)) * 64 + b6 (fK NS 2)) * 64 + b6 (fK NS 3)) * 64 + b6 (fK NS 4)
theorem num_lt (NS : List Int) : numN NS < 1073741824 := by
  have h0 := b6_lt (fK NS 0)
  have h1 := b6_lt (fK NS 1)
  have h2 := b6_lt (fK NS 2)
  have h3 := b6_lt (fK NS 3)
  have h4 := b6_lt (fK NS 4)
  unfold numN
  omega
theorem num_kind (NS : List Int) {i k : Nat} (hi : i < 5) (hk : k < 6) : (numN NS / 2 ^ (6 * i + k) % 2 == 1) = fK NS (4 - i) k := by
  unfold numN
  rw [num_bit (b6_lt _) (b6_lt _) (b6_lt _) (b6_lt _) (b6_lt _) i k hi hk]
  match i, hi with
  | 0, _ => exact b6_bit _ hk
  | 1, _ => exact b6_bit _ hk
  | 2, _ => exact b6_bit _ hk
  | 3, _ => exact b6_bit _ hk
  | 4, _ => exact b6_bit _ hk
theorem kindR_is (NS : List Int) {i k : Nat} (hi : i < 5) : kindR NS (i : Int) (k : Int) = fK NS (4 - i) k := by
  match i, hi with
  | 0, _ => rfl
  | 1, _ => rfl
  | 2, _ => rfl
  | 3, _ => rfl
  | 4, _ => rfl
theorem due_names (NS : List Int) : dueTo NS 30 = namesTo (numN NS) 30 := by
  unfold dueTo namesTo
  show List.map flagName _ = _
  congr 1
  refine List.filter_congr fun t ht => ?_
  have ht := List.mem_range.mp ht
  have h := num_kind NS (i := t / 6) (k := t % 6) (by omega) (by omega)
  rw [show 6 * (t / 6) + t % 6 = t by omega] at h
  rw [h, kindR_is NS (by omega)]
theorem words_due (NS : List Int) : prettyL (numN NS) = if dueTo NS 30 = [] then [Str.ofString "0x0"] else dueTo NS 30 := by
  have hne := pretty_ne (numN NS) (num_lt NS)
  rw [due_names]
  unfold prettyL at hne ⊢
  by_cases h : numN NS = 0
  · rw [if_pos h, h, if_pos (by decide +kernel)]
  · rw [if_neg h] at hne ⊢
    rw [if_neg hne]
theorem rks6 : rangeKs 0 6 = [0, 1, 2, 3, 4, 5] := by decide +kernel
theorem sum_b6 (g : Int → Bool) : (((rangeKs 0 6).filter g).map fun k => (2 : Int) ^ k.toNat).sum = ((b6 fun k => g (k : Int) : Nat) : Int) := by
  rw [rks6]
  simp only [List.filter_cons, List.filter_nil]
  show _ = ((B6 (g 0) (g 1) (g 2) (g 3) (g 4) (g 5) : Nat) : Int)
  generalize g 0 = b0
  generalize g 1 = b1
  generalize g 2 = b2
  generalize g 3 = b3
  generalize g 4 = b4
  generalize g 5 = b5
  revert b0 b1 b2 b3 b4 b5
  decide +kernel
theorem maskW_is (NS : List Int) {j : Nat} (hj : j < 5) : maskW (prettyL (numN NS)) (j : Int) = ((b6 (fK NS j) : Nat) : Int) := by
  unfold maskW
  rw [sum_b6]
  refine congrArg (fun n : Nat => (n : Int)) (b6_congr fun k hk => ?_)
  rw [show (24 : Int) - 6 * (j : Int) + (k : Int) = ((6 * (4 - j) + k : Nat) : Int) by omega, pretty_any _ (by omega), num_kind NS (by omega) hk, show 4 - (4 - j) = j by omega]
end Mine
end
section
open PySem PySem.W PyProof.Rows PySem.Calls
set_option maxRecDepth 100000
namespace Mine
theorem fifteen {NS : List Int} (h : NS.length = 15) : ∃ n0 n1 n2 n3 n4 n5 n6 n7 n8 n9 n10 n11 n12 n13 n14, NS = [n0, n1, n2, n3, n4, n5, n6, n7, n8, n9, n10, n11, n12, n13, n14] := by
  match NS, h with
  | [n0, n1, n2, n3, n4, n5, n6, n7, n8, n9, n10, n11, n12, n13, n14], _ => exact ⟨_, _, _, _, _, _, _, _, _, _, _, _, _, _, _, rfl⟩
theorem len_of {x : Str} {l : List Nat} (h : x.cps.toList = l) : x.length = l.length := by
  rw [← h, Array.length_toList]
  rfl
theorem JL_mem {sep : List Nat} {c : Nat} : ∀ {ps : List (List Nat)}, c ∈ JL sep ps → c ∈ sep ∨ ∃ p ∈ ps, c ∈ p
  | [p], h => .inr ⟨p, by simp, h⟩
  | p :: q :: r, h => by
    rcases List.mem_append.mp (show c ∈ p ++ (sep ++ JL sep (q :: r)) from h) with h | h
    · exact .inr ⟨p, by simp, h⟩
    · rcases List.mem_append.mp h with h | h
      · exact .inl h
      · rcases JL_mem h with h | ⟨z, hz, hc⟩
        · exact .inl h
        · exact .inr ⟨z, List.mem_cons_of_mem _ hz, hc⟩
theorem strOk_iff (x : Str) : PyData.strOk x = true ↔ ∀ c ∈ x.cps.toList, c < 0x110000 := by
  unfold PyData.strOk
  rw [← Array.all_toList, List.all_eq_true]
  simp
noncomputable def Nice (x : Str) : Prop := 39 ∉ x.cps.toList ∧ (∀ c ∈ x.cps.toList, c < 0x110000) ∧ x.length ≤ 6
theorem nice_XT {p a b c : Nat} (ha : a ≠ 39 ∧ a < 1114112) (hb : b ≠ 39 ∧ b < 1114112) (hc : c ≠ 39 ∧ c < 1114112) : Nice (XT p a b c) := by
  have key : ∀ z ∈ em p [a, b, c], z ≠ 39 ∧ z < 1114112 := by
    intro z hz
    rcases em_mem hz with hz | hz
    · simp only [List.mem_cons, List.not_mem_nil, or_false] at hz
      rcases hz with rfl | rfl | rfl
      · exact ha
      · exact hb
      · exact hc
    · omega
  refine ⟨fun h => (key 39 h).1 rfl, fun z hz => (key z hz).2, ?_⟩
  have := em_len [a, b, c] p
  rw [len_of (x := XT p a b c) (l := em p [a, b, c]) rfl]
  simpa using this
theorem nice_ok {x : Str} (h : Nice x) : PyData.strOk x = true := (strOk_iff x).mpr h.2.1
theorem join_ok {ps : List Str} (h : ∀ x ∈ ps, Nice x) : PyData.strOk (Txt.join (Str.ofString "'") ps) = true := by
  rw [strOk_iff, join_J, tick39]
  intro c hc
  rcases JL_mem hc with hc | ⟨p, hp, hc⟩
  · rw [List.mem_singleton.mp hc]; decide
  · obtain ⟨x, hx, rfl⟩ := List.mem_map.mp hp
    exact (h x hx).2.1 c hc
theorem join_len {ps : List Str} (h : ∀ x ∈ ps, Nice x) : (Txt.join (Str.ofString "'") ps).length ≤ ps.length * 7 := by
  rw [len_of (join_J _ _), tick39]
  have := JL_le (sep := [39]) (B := 6) (ps.map fun z => z.cps.toList) (fun p hp => by
    obtain ⟨x, hx, rfl⟩ := List.mem_map.mp hp
    have := (h x hx).2.2
    rw [len_of rfl] at this
    exact this)
  rw [List.length_map] at this
  exact this
theorem split_nice {y : Str} {ps : List Str} (hne : ps ≠ []) (h : ∀ x ∈ ps, Nice x) (hy : y.cps.toList = JL [39] (ps.map fun z => z.cps.toList)) :
    (Txt.splitMax y ⟨#[39]⟩ 2).map (fun z => z.cps.toList) = cutP [39] 2 (ps.map fun z => z.cps.toList) := by
  refine splitMax_J (y := ⟨#[39]⟩) (c := 39) (t := []) rfl (by decide +kernel) (by simpa using hne) ?_ hy 2
  intro p hp
  obtain ⟨x, hx, rfl⟩ := List.mem_map.mp hp
  exact (h x hx).1
section
variable {x0 x1 x2 x3 x4 : Str} (h0 : Nice x0) (h1 : Nice x1) (h2 : Nice x2) (h3 : Nice x3) (h4 : Nice x4)
include h0 h1 h2 h3 h4 in
theorem split_five {y : Str} (hy : y.cps.toList = JL [39] [x0.cps.toList, x1.cps.toList, x2.cps.toList, x3.cps.toList, x4.cps.toList]) : y.length ≤ 100 ∧ Txt.splitMax y ⟨#[39]⟩ 2 = [x0, x1, Txt.join (Str.ofString "'") [x2, x3, x4]] := by
  have hall : ∀ x ∈ [x0, x1, x2, x3, x4], Nice x := by
    intro x hx
    simp only [List.mem_cons, List.not_mem_nil, or_false] at hx
    rcases hx with rfl | rfl | rfl | rfl | rfl <;> assumption
  constructor
  · have hj := join_len hall
    rw [len_of (join_J _ _), tick39] at hj
    rw [len_of hy]
    exact Nat.le_trans hj (by decide : 5 * 7 ≤ 100)
  · refine strs_inj ?_
    rw [split_nice (ps := [x0, x1, x2, x3, x4]) (by simp) hall hy]
    show [x0.cps.toList, x1.cps.toList, JL [39] _] = [x0.cps.toList, x1.cps.toList, (Txt.join (Str.ofString "'") [x2, x3, x4]).cps.toList]
    rw [join_J, tick39]
    rfl
include h2 h3 h4 in
theorem split_three : Txt.splitMax (Txt.join (Str.ofString "'") [x2, x3, x4]) ⟨#[39]⟩ 2 = [x2, x3, x4] := by
  have hall : ∀ x ∈ [x2, x3, x4], Nice x := by
    intro x hx
    simp only [List.mem_cons, List.not_mem_nil, or_false] at hx
    rcases hx with rfl | rfl | rfl <;> assumption
  refine strs_inj ?_
  rw [split_nice (ps := [x2, x3, x4]) (by simp) hall (by rw [join_J, tick39])]
  rfl
include h3 h4 in
theorem split_two : (Txt.splitMax (Txt.join (Str.ofString "'") [x3, x4]) ⟨#[39]⟩ 2).length ≤ 2 := by
  have hall : ∀ x ∈ [x3, x4], Nice x := by
    intro x hx
    simp only [List.mem_cons, List.not_mem_nil, or_false] at hx
    rcases hx with rfl | rfl <;> assumption
  have h := congrArg List.length (split_nice (y := Txt.join (Str.ofString "'") [x3, x4]) (ps := [x3, x4]) (by simp) hall (by rw [join_J, tick39]))
  rw [List.length_map] at h
  rw [h]
  exact (by decide : 2 ≤ 2)
include h4 in
theorem split_one : (Txt.splitMax x4 ⟨#[39]⟩ 2).length ≤ 2 := by
  have h := congrArg List.length (split_nice (y := x4) (ps := [x4]) (by simp) (by simpa using h4) rfl)
  rw [List.length_map] at h
  rw [h]
  exact (by decide : 1 ≤ 2)
end
theorem sent_short (x : Str) : ∀ y ∈ (List.range x.length).map (sentAt x), y.length ≤ 200 := by
  intro y hy
  obtain ⟨i, _, rfl⟩ := List.mem_map.mp hy
  rw [len_of (sent_emit x i)]
  exact Nat.le_trans (emit_len _ _) (by decide)
section
variable (a0 a1 a2 a3 a4 a5 a6 a7 a8 a9 a10 a11 a12 a13 a14 : Nat)
theorem SL_short : ∀ x ∈ SL15 a0 a1 a2 a3 a4 a5 a6 a7 a8 a9 a10 a11 a12 a13 a14, x.length ≤ 200 := by
  intro x hx
  simp only [SL15, List.mem_cons, List.not_mem_nil, or_false] at hx
  rcases hx with rfl | rfl | rfl | rfl | rfl | rfl | rfl | rfl | rfl | rfl | rfl | rfl | rfl | rfl | rfl <;> exact (by decide : 1 ≤ 200)
theorem G_short : ∀ x ∈ (rangeKs 0 5).map (gJoin (SL15 a0 a1 a2 a3 a4 a5 a6 a7 a8 a9 a10 a11 a12 a13 a14) 3 3), x.length ≤ 200 := by
  rw [rks5]
  intro x hx
  simp only [List.map_cons, List.map_nil, List.mem_cons, List.not_mem_nil, or_false] at hx
  rcases hx with rfl | rfl | rfl | rfl | rfl <;> (unfold gJoin; rw [len_of (join_J _ _), nil0]; exact (by decide : 3 ≤ 200))
theorem quote_five {y : Str} (hy : y.cps.toList = quoteL (⟨(line15 a0 a1 a2 a3 a4 a5 a6 a7 a8 a9 a10 a11 a12 a13 a14).toArray⟩ : Str).cps.toList) :
    y.cps.toList = JL [39] [(XT 10 a0 a1 a2).cps.toList, (XT 39 a3 a4 a5).cps.toList, (XT 39 a6 a7 a8).cps.toList, (XT 39 a9 a10 a11).cps.toList, (XT 39 a12 a13 a14).cps.toList] := hy.trans (quote_is a0 a1 a2 a3 a4 a5 a6 a7 a8 a9 a10 a11 a12 a13 a14)
end
end Mine
end
section
open PySem PySem.W PyProof.Rows PySem.Calls
set_option maxRecDepth 100000
namespace Mine
theorem execs_add (env : Env) (b : List Stmt) : ∀ a : List Stmt, execs (a ++ b) env = (do match ← execs a env with | .next => execs b env | f => pure f)
  | [] => by
    show execs b env = (pure Flow.next >>= _)
    rw [pure_bind]
  | st :: a => by
    rw [List.cons_append, PySem.execs_cons, PySem.execs_cons, bind_assoc]
    refine congrArg _ (funext fun f => ?_)
    cases f with
    | next => exact execs_add env b a
    | _ => rw [pure_bind]
noncomputable def seqQ (M : Model) (A : Around) (env : Env) (b : List Stmt) (Q : Flow → Shared → Prop) (E : Value → Shared → Prop) (f : Flow) (s' : Shared) : Prop := match f with
  | .next => wpAny M A (execs b env) Q E s'
  | f => Q f s'
theorem seq_next {M : Model} {A : Around} {env : Env} {b : List Stmt} {Q : Flow → Shared → Prop} {E : Value → Shared → Prop} {s' : Shared} (h : wpAny M A (execs b env) Q E s') : seqQ M A env b Q E .next s' := h
theorem seq_ret {M : Model} {A : Around} {env : Env} {b : List Stmt} {Q : Flow → Shared → Prop} {E : Value → Shared → Prop} {s' : Shared} {v : Value} (h : Q (.ret v) s') : seqQ M A env b Q E (.ret v) s' := h
theorem execs_seq {M : Model} {A : Around} {env : Env} {a b : List Stmt} {Q : Flow → Shared → Prop} {E : Value → Shared → Prop} {s : Shared} (h : wpAny M A (execs a env) (seqQ M A env b Q E) E s) : wpAny M A (execs (a ++ b) env) Q E s := by
  rw [execs_add]
  refine wpAny_bind (wpAny_mono h (fun f s' hf => ?_) fun _ _ e => e)
  cases f with
  | next => exact hf
  | _ => exact wpAny_pure hf
theorem lawB_split (a k j : Nat) : lawB a (k + j) = lawB a k ++ lawB (a + k) j := by
  unfold lawB
  rw [List.take_add, List.drop_drop]
theorem law_seq (a k j : Nat) {M : Model} {A : Around} {env : Env} {Q : Flow → Shared → Prop} {E : Value → Shared → Prop} {s : Shared} (h : wpAny M A (execs (lawB a k) env) (seqQ M A env (lawB (a + k) j) Q E) E s) : wpAny M A (execs (lawB a (k + j)) env) Q E s := by
  rw [lawB_split]
  exact execs_seq h
theorem law_split : fnB (stN 32) = lawB 0 1 ++ lawB 1 20 := by kernel_rfl
theorem CellsAre.six {cm : Str → Option Value} {n₁ n₂ n₃ n₄ n₅ n₆ : Str} {c₁ c₂ c₃ c₄ c₅ c₆ : Addr} {cells : List (Addr × Obj)} (x : CellsAre cm [(n₁, c₁), (n₂, c₂), (n₃, c₃), (n₄, c₄), (n₅, c₅), (n₆, c₆)] cells) :
    ∃ o1 o2 o3 o4 o5 o6, cells = [(c₁, o1), (c₂, o2), (c₃, o3), (c₄, o4), (c₅, o5), (c₆, o6)] ∧ o1.data = .cell (cm n₁) ∧ o2.data = .cell (cm n₂) ∧ o3.data = .cell (cm n₃) ∧ o4.data = .cell (cm n₄) ∧ o5.data = .cell (cm n₅) ∧ o6.data = .cell (cm n₆) := by
  cases x with | cons h1 r => cases r with | cons h2 r => cases r with | cons h3 r => cases r with | cons h4 r => cases r with | cons h5 r => cases r with | cons h6 r => cases r; exact ⟨_, _, _, _, _, _, rfl, h1, h2, h3, h4, h5, h6⟩
theorem ifs2x {α : Type} {m : Str → Option α} {a b : Str} {va vb : Option α} (ha : m a = va) (hb : m b = vb) : m = fun y => if y = a then va else if y = b then vb else m y := by
  funext y
  by_cases h1 : y = a
  · rw [if_pos h1, h1, ha]
  · rw [if_neg h1]
    by_cases h2 : y = b
    · rw [if_pos h2, h2, hb]
    · rw [if_neg h2]
theorem law_from {p q r : List Stmt} (e : p = q ++ r) {M : Model} {A : Around} {env : Env} {Q : Flow → Shared → Prop} {E : Value → Shared → Prop} {s : Shared} (h : wpAny M A (execs q env) (seqQ M A env r Q E) E s) : wpAny M A (execs p env) Q E s := by
  subst e
  exact execs_seq h
theorem news_pick {g h : Heap} {L : Addr} {l l' : List (Addr × Obj)} (N : News g L h l) (is : List Nat) (e : l'.map some = is.map fun i => l[i]?) : News g L h l' := by
  intro p hp
  have hm : some p ∈ l'.map some := List.mem_map.mpr ⟨p, hp, rfl⟩
  rw [e] at hm
  obtain ⟨i, _, hi⟩ := List.mem_map.mp hm
  exact N p (List.mem_of_getElem? hi)
end Mine
end
section
open PySem PySem.W PyProof.Rows PySem.Calls
set_option maxRecDepth 100000
namespace Mine
set_option maxHeartbeats 8000000 in
theorem law_spec (w : World) (l : Addr) (vs : List Value) (ns : List Int) (hI : IntsAre vs ns) (hlen : ns.length ≤ 63) (dp un : Nat) (fr : Option (List Env)) (gd : Option (List Code)) (s : Shared) (Q E : Value → Shared → Prop)
    (hA : Amb w s.heap) (hpre : s.heap.IsList l vs.toArray) (hd : dp + 32 < recursionLimit) (hu : un + 128 < cLine)
    (hret : ∀ s2 h' tk', SameS s s2 → (∀ b o, s.heap.get? b = some o → h'.get? b = some o) → Q (.bool true) { s2 with heap := h', toks := tk' }) :
    wpAny (model PySem.Challenge.rw_sr0008_01.prog w) (AR dp un fr gd) (call (.ref 204) [.ref l]) Q E s := by
  refine enterC 32 203 (binds := [("script", .ref l)]) hA (by omega) rfl rfl rfl (by intro y hy; obtain rfl := List.mem_singleton.mp hy; first | exact .inl rfl | exact .inr ⟨rfl, rfl⟩) (by decide +kernel) rfl rfl rfl ?_
  intro mean mg mb g h₁ L tk' cells hg X T F N Y
  obtain ⟨o6, o5, o4, o3, o2, o1, hE', d6, d5, d4, d3, d2, d1⟩ := CellsAre.six Y
  subst hE'
  clear Y
  have hpre2 : g.IsList l vs.toArray := hg ▸ hpre
  have hs0 : (bindL (envOfC (Str.ofString "law") (fnS (stN 32)) L 204 (Value.ref 203)).kindOf [(Str.ofString "script", Value.ref l)] fun x => none) (Str.ofString "script") = some (.ref l) := by with_unfolding_all rfl
  generalize (bindL (envOfC (Str.ofString "law") (fnS (stN 32)) L 204 (Value.ref 203)).kindOf [(Str.ofString "script", Value.ref l)] fun x => none) = mI at F hs0
  rw [ifs1 hs0] at F
  have N0 : News g L h₁ [(L + 1, o1), (L + 2, o2), (L + 3, o3), (L + 4, o4), (L + 5, o5), (L + 6, o6)] := news_pick N [5, 4, 3, 2, 1, 0] rfl
  clear N hs0
  refine @law_from _ _ _ law_split _ _ _ _ _ _ ?_
  refine @law_A0 w dp un fr gd s _ g h₁ L mean mg mb X T hd hu l _ o1 o2 o3 o4 o5 o6 _ F N0 ?_
  clear F N0
  intro ha tka aF cF fv fx ma Fa ham1 ham2 Na hfI hfl hfb
  refine seq_next (law_seq 1 1 19 ?_)
  rw [ifs2x ham1 ham2] at Fa
  refine @law_A1 w dp un fr gd s _ g ha L mean mg mb X T hd hu l vs ns hI hlen hpre2 _ o1 o2 o3 o4 o5 o6 _ aF cF fv fx hfI hfl hfb Fa Na ?_
  clear Fa Na ham1 ham2
  intro hb tkb aN cN nv NS mb1 Fb hbm Nb offN hN hNl hNb
  refine seq_next (law_seq 2 1 18 ?_)
  refine @law_A2 w dp un fr gd s _ g hb L mean mg mb X T hd hu aN cN nv NS hN hNl hNb o1 o2 o3 o4 o5 o6 offN mb1 hbm _ d1 _ Fb Nb ?_
  clear Fb Nb d1
  intro hc tkc aS cS sv o1' Fc Nc offS d1 hS
  refine seq_next (law_seq 3 1 17 ?_)
  obtain ⟨n0, n1, n2, n3, n4, n5, n6, n7, n8, n9, n10, n11, n12, n13, n14, rfl⟩ := fifteen hNl
  simp only [List.map_cons, List.map_nil] at hS
  have t0 := fun (k : Nat) (hk : k < 6) => sign_tab n0 hk
  have z0 := sign_39 n0
  generalize signOf n0 = a0 at hS t0 z0
  have t1 := fun (k : Nat) (hk : k < 6) => sign_tab n1 hk
  have z1 := sign_39 n1
  generalize signOf n1 = a1 at hS t1 z1
  have t2 := fun (k : Nat) (hk : k < 6) => sign_tab n2 hk
  have z2 := sign_39 n2
  generalize signOf n2 = a2 at hS t2 z2
  have t3 := fun (k : Nat) (hk : k < 6) => sign_tab n3 hk
  have z3 := sign_39 n3
  generalize signOf n3 = a3 at hS t3 z3
  have t4 := fun (k : Nat) (hk : k < 6) => sign_tab n4 hk
  have z4 := sign_39 n4
  generalize signOf n4 = a4 at hS t4 z4
  have t5 := fun (k : Nat) (hk : k < 6) => sign_tab n5 hk
  have z5 := sign_39 n5
  generalize signOf n5 = a5 at hS t5 z5
  have t6 := fun (k : Nat) (hk : k < 6) => sign_tab n6 hk
  have z6 := sign_39 n6
  generalize signOf n6 = a6 at hS t6 z6
  have t7 := fun (k : Nat) (hk : k < 6) => sign_tab n7 hk
  have z7 := sign_39 n7
  generalize signOf n7 = a7 at hS t7 z7
  have t8 := fun (k : Nat) (hk : k < 6) => sign_tab n8 hk
  have z8 := sign_39 n8
  generalize signOf n8 = a8 at hS t8 z8
  have t9 := fun (k : Nat) (hk : k < 6) => sign_tab n9 hk
  have z9 := sign_39 n9
  generalize signOf n9 = a9 at hS t9 z9
  have t10 := fun (k : Nat) (hk : k < 6) => sign_tab n10 hk
  have z10 := sign_39 n10
  generalize signOf n10 = a10 at hS t10 z10
  have t11 := fun (k : Nat) (hk : k < 6) => sign_tab n11 hk
  have z11 := sign_39 n11
  generalize signOf n11 = a11 at hS t11 z11
  have t12 := fun (k : Nat) (hk : k < 6) => sign_tab n12 hk
  have z12 := sign_39 n12
  generalize signOf n12 = a12 at hS t12 z12
  have t13 := fun (k : Nat) (hk : k < 6) => sign_tab n13 hk
  have z13 := sign_39 n13
  generalize signOf n13 = a13 at hS t13 z13
  have t14 := fun (k : Nat) (hk : k < 6) => sign_tab n14 hk
  have z14 := sign_39 n14
  generalize signOf n14 = a14 at hS t14 z14
  have hS : StrsAre sv (SL15 a0 a1 a2 a3 a4 a5 a6 a7 a8 a9 a10 a11 a12 a13 a14) := hS
  simp only [LCg.Off1, and_true] at offN offS
  refine @law_A3 w dp un fr gd s _ g hc L mean mg mb X T hd hu aS cS sv (SL15 a0 a1 a2 a3 a4 a5 a6 a7 a8 a9 a10 a11 a12 a13 a14) hS rfl (SL_short a0 a1 a2 a3 a4 a5 a6 a7 a8 a9 a10 a11 a12 a13 a14) (G_short a0 a1 a2 a3 a4 a5 a6 a7 a8 a9 a10 a11 a12 a13 a14) mb1 o1' o2 o3 o4 o5 o6 _ d1 aN _ (by simp only [LCg.Off1, and_true]; exact offS) Fc Nc ?_
  clear Fc Nc
  intro hd_ tkd tl md Fd ed Nd
  rw [line_is] at ed
  have hx : (⟨(line15 a0 a1 a2 a3 a4 a5 a6 a7 a8 a9 a10 a11 a12 a13 a14).toArray⟩ : Str).length ≤ 100 := (by decide : 19 ≤ 100)
  have hT19 : ((List.range (⟨(line15 a0 a1 a2 a3 a4 a5 a6 a7 a8 a9 a10 a11 a12 a13 a14).toArray⟩ : Str).length).map (sentAt ⟨(line15 a0 a1 a2 a3 a4 a5 a6 a7 a8 a9 a10 a11 a12 a13 a14).toArray⟩)).length = 19 := by rw [List.length_map, List.length_range]; rfl
  have hq := fun (y : Str) (hy : y.cps.toList = quoteL (⟨(line15 a0 a1 a2 a3 a4 a5 a6 a7 a8 a9 a10 a11 a12 a13 a14).toArray⟩ : Str).cps.toList) => quote_five a0 a1 a2 a3 a4 a5 a6 a7 a8 a9 a10 a11 a12 a13 a14 hy
  have htx := texts_are a0 a1 a2 a3 a4 a5 a6 a7 a8 a9 a10 a11 a12 a13 a14
  have hts := sent_short (⟨(line15 a0 a1 a2 a3 a4 a5 a6 a7 a8 a9 a10 a11 a12 a13 a14).toArray⟩ : Str)
  generalize (⟨(line15 a0 a1 a2 a3 a4 a5 a6 a7 a8 a9 a10 a11 a12 a13 a14).toArray⟩ : Str) = x at ed hx hT19 hq htx hts
  have hmdl : md (Str.ofString "line") = some (.str x tl) := (congrFun ed _).trans (if_pos rfl)
  have hmdn : md (Str.ofString "nums") = some (.ref aN) := (congrFun ed _).trans ((if_neg (by decide)).trans hbm)
  clear ed hbm
  refine seq_next (law_seq 4 1 16 ?_)
  refine @law_A4 w dp un fr gd s _ g hd_ L mean mg mb X T hd hu x tl hx md hmdl o1' o2 o3 o4 o5 o6 _ d3 _ aS aN _ _ (by simp only [LCg.Off1, and_true]; exact offS.2) (by simp only [LCg.Off1, and_true]; exact offN) Fd Nd ?_
  clear Fd Nd d3
  intro he tke aT cT tv o3' Fe Ne offT d3 hT
  refine seq_next (law_seq 5 1 15 ?_)
  refine @law_A5 w dp un fr gd s _ g he L mean mg mb X T hd hu aT cT tv _ hT hT19 hts md o1' o2 o3' o4 o5 o6 aS aN _ _ _ d3 Fe Ne ?_
  clear Fe Ne
  intro hf tkf aX cX xv mf Ff ef Nf offX hX
  rw [htx] at hX
  obtain ⟨u0, u1, u2, u3, u4, rfl⟩ := strs5 hX
  have hmft : mf (Str.ofString "texts") = some (.ref aX) := (congrFun ef _).trans (if_pos rfl)
  have hmfl : mf (Str.ofString "line") = some (.str x tl) := (congrFun ef _).trans ((if_neg (by decide)).trans hmdl)
  have hmfn : mf (Str.ofString "nums") = some (.ref aN) := (congrFun ef _).trans ((if_neg (by decide)).trans hmdn)
  clear ef hmdl hmdn hX hT hts hT19 htx
  have g0 := nice_XT (p := 10) z0 z1 z2
  have g1 := nice_XT (p := 39) z3 z4 z5
  have g2 := nice_XT (p := 39) z6 z7 z8
  have g3 := nice_XT (p := 39) z9 z10 z11
  have g4 := nice_XT (p := 39) z12 z13 z14
  have gall3 : ∀ y ∈ [XT 39 a6 a7 a8, XT 39 a9 a10 a11, XT 39 a12 a13 a14], Nice y := by
    intro y hy
    simp only [List.mem_cons, List.not_mem_nil, or_false] at hy
    rcases hy with rfl | rfl | rfl <;> assumption
  have gall2 : ∀ y ∈ [XT 39 a9 a10 a11, XT 39 a12 a13 a14], Nice y := fun y hy => gall3 y (List.mem_cons_of_mem _ hy)
  refine seq_next (law_seq 6 2 13 ?_)
  refine @law_C w dp un fr gd s _ g hf L mean mg mb X T hd hu x tl hx (XT 10 a0 a1 a2) (XT 39 a3 a4 a5) (XT 39 a6 a7 a8) (XT 39 a9 a10 a11) (XT 39 a12 a13 a14) u0 u1 u2 u3 u4 aX cX (fun y hy => split_five g0 g1 g2 g3 g4 (hq y hy)) (fun y hy => Nat.le_trans (gall3 y hy).2.2 (by decide)) ?_ mf hmfl hmft _ aS aN (W.listOf sv.toArray cS) (W.listOf nv.toArray cN) o1' o2 o4 o5 o6 Ff (news_pick Nf [0, 2, 3, 4, 5, 7, 8, 9] rfl) ?_
  · intro y hy
    simp only [List.mem_cons, List.not_mem_nil, or_false] at hy
    rcases hy with rfl | rfl | rfl
    · exact nice_ok g0
    · exact nice_ok g1
    · exact join_ok gall3
  clear Ff Nf hq
  intro hg_ tkg D cc ta tb tc mg_ Fg eg Ng offD
  have hg1 : mg_ (Str.ofString "first") = some (.ref D) := (congrFun eg _).trans (if_pos rfl)
  have hg2 : mg_ (Str.ofString "texts") = some (.ref aX) := (congrFun eg _).trans ((if_neg (by decide)).trans hmft)
  have hg3 : mg_ (Str.ofString "nums") = some (.ref aN) := (congrFun eg _).trans ((if_neg (by decide)).trans hmfn)
  clear eg hmfl hmft hmfn
  refine seq_next (law_seq 8 3 10 ?_)
  refine @law_D w dp un fr gd s _ g hg_ L mean mg mb X T hd hu (XT 10 a0 a1 a2) (XT 39 a3 a4 a5) (XT 39 a6 a7 a8) (XT 39 a9 a10 a11) (XT 39 a12 a13 a14) u0 u1 u2 u3 u4 ta tb tc aX D cX cc _ _ rfl rfl (Nat.le_trans (join_len gall3) (by decide : 3 * 7 ≤ 100)) (Nat.le_trans (join_len gall2) (by decide : 2 * 7 ≤ 100)) (Nat.le_trans g4.2.2 (by decide)) (fun y hy => Nat.le_trans (gall2 y hy).2.2 (by decide)) (split_three g2 g3 g4) (split_two g3 g4) (split_one g4) (fun y hy => nice_ok (gall3 y hy)) (join_ok gall2) mg_ hg1 hg2 _ aS aN (W.listOf sv.toArray cS) (W.listOf nv.toArray cN) o1' o2 o4 o5 o6 Fg Ng ?_
  clear Fg Ng
  intro hh tkh D2 c2 v2 v3 v4 tp9 mh Fh eh Nh offD2
  have hh1 : mh (Str.ofString "nums") = some (.ref aN) := (congrFun eh _).trans ((if_neg (by decide)).trans ((if_neg (by decide)).trans hg3))
  have hh2 : mh (Str.ofString "first") = some (.ref D) := (congrFun eh _).trans ((if_neg (by decide)).trans ((if_neg (by decide)).trans hg1))
  have hh3 : mh (Str.ofString "second") = some (.ref D2) := (congrFun eh _).trans ((if_neg (by decide)).trans (if_pos rfl))
  clear eh hg1 hg2 hg3
  simp only [LCg.Off1, and_true] at offD offD2
  refine seq_next (law_seq 11 3 7 ?_)
  have hgood : ∀ j : Nat, j < 5 → ∀ c ∈ ([XT 10 a0 a1 a2, XT 39 a3 a4 a5, XT 39 a6 a7 a8, XT 39 a9 a10 a11, XT 39 a12 a13 a14].getD j Str.empty).cps.toList, goodC (SL15 a0 a1 a2 a3 a4 a5 a6 a7 a8 a9 a10 a11 a12 a13 a14) (j : Int) (([n0, n1, n2, n3, n4, n5, n6, n7, n8, n9, n10, n11, n12, n13, n14].getD (3 * (j : Int)).toNat 0).fmod 9) (([n0, n1, n2, n3, n4, n5, n6, n7, n8, n9, n10, n11, n12, n13, n14].getD (3 * (j : Int) + 1).toNat 0).fmod 9) (([n0, n1, n2, n3, n4, n5, n6, n7, n8, n9, n10, n11, n12, n13, n14].getD (3 * (j : Int) + 2).toNat 0).fmod 9) c := by
    intro j hj c hc
    match j, hj with
    | 0, _ => exact good_of rfl rfl rfl t0 t1 t2 (em_mem hc)
    | 1, _ => exact good_of rfl rfl rfl t3 t4 t5 (em_mem hc)
    | 2, _ => exact good_of rfl rfl rfl t6 t7 t8 (em_mem hc)
    | 3, _ => exact good_of rfl rfl rfl t9 t10 t11 (em_mem hc)
    | 4, _ => exact good_of rfl rfl rfl t12 t13 t14 (em_mem hc)
  have hov : (List.range 5).map (OVs [XT 10 a0 a1 a2, XT 39 a3 a4 a5, XT 39 a6 a7 a8, XT 39 a9 a10 a11, XT 39 a12 a13 a14]) = [((b6 (fK [n0, n1, n2, n3, n4, n5, n6, n7, n8, n9, n10, n11, n12, n13, n14] 0) : Nat) : Int) + 64, ((b6 (fK [n0, n1, n2, n3, n4, n5, n6, n7, n8, n9, n10, n11, n12, n13, n14] 1) : Nat) : Int) + 64, ((b6 (fK [n0, n1, n2, n3, n4, n5, n6, n7, n8, n9, n10, n11, n12, n13, n14] 2) : Nat) : Int) + 64, ((b6 (fK [n0, n1, n2, n3, n4, n5, n6, n7, n8, n9, n10, n11, n12, n13, n14] 3) : Nat) : Int) + 64, ((b6 (fK [n0, n1, n2, n3, n4, n5, n6, n7, n8, n9, n10, n11, n12, n13, n14] 4) : Nat) : Int)] := by
    have e0 := mask_text (p := 10) t0 t1 t2
    have e1 := mask_text (p := 39) t3 t4 t5
    have e2 := mask_text (p := 39) t6 t7 t8
    have e3 := mask_text (p := 39) t9 t10 t11
    have e4 := mask_text (p := 39) t12 t13 t14
    show [maskAll (em 10 [a0, a1, a2]) + 64, maskAll (em 39 [a3, a4, a5]) + 64, maskAll (em 39 [a6, a7, a8]) + 64, maskAll (em 39 [a9, a10, a11]) + 64, maskAll (em 39 [a12, a13, a14]) + 0] = _
    rw [e0, e1, e2, e3, e4, Int.add_zero]
    rfl
  have hof : ∀ q ∈ [L + 1, L + 2, L + 4, L + 5, L + 6], ∀ p ∈ [D2, D, aS, aN], p ≠ q := by
    intro q hq p hp
    simp only [List.mem_cons, List.not_mem_nil, or_false] at hq hp
    rcases hp with rfl | rfl | rfl | rfl
    · obtain ⟨y0, y1, y2, y3, y4, y5, y6, y7, y8⟩ := offD2
      rcases hq with rfl | rfl | rfl | rfl | rfl
      · exact Ne.symm y4
      · exact Ne.symm y5
      · exact Ne.symm y6
      · exact Ne.symm y7
      · exact Ne.symm y8
    · obtain ⟨y1, y2, y3, y4, y5, y6, y7, y8⟩ := offD
      rcases hq with rfl | rfl | rfl | rfl | rfl
      · exact Ne.symm y4
      · exact Ne.symm y5
      · exact Ne.symm y6
      · exact Ne.symm y7
      · exact Ne.symm y8
    · obtain ⟨y1, y2, y3, y4, y5, y6, y7⟩ := offS
      rcases hq with rfl | rfl | rfl | rfl | rfl
      · exact Ne.symm y2
      · exact Ne.symm y3
      · exact Ne.symm y5
      · exact Ne.symm y6
      · exact Ne.symm y7
    · obtain ⟨y2, y3, y4, y5, y6, y7⟩ := offN
      rcases hq with rfl | rfl | rfl | rfl | rfl
      · exact Ne.symm y2
      · exact Ne.symm y3
      · exact Ne.symm y5
      · exact Ne.symm y6
      · exact Ne.symm y7
  refine @law_J w dp un fr gd s _ g hh L mean mg mb X T hd hu cN cS cc c2 nv sv [n0, n1, n2, n3, n4, n5, n6, n7, n8, n9, n10, n11, n12, n13, n14] (SL15 a0 a1 a2 a3 a4 a5 a6 a7 a8 a9 a10 a11 a12 a13 a14) hN hNl hS rfl (XT 10 a0 a1 a2) (XT 39 a3 a4 a5) (XT 39 a6 a7 a8) (XT 39 a9 a10 a11) (XT 39 a12 a13 a14) _ ta tb tc v2 v3 v4 mh aN aS D D2 _ o1' o2 o4 o5 o6 _ _ _ d1 d2 d4 d5 hh1 hh2 hh3 hgood hof Fh Nh ?_
  clear Fh Nh
  intro hi_ tki aO aD cO ov o2' o4' o5' w2 w4 w5 mi Fi hio hid hin Ni d2' d4' d5' hO hlt
  obtain ⟨q1, q2, q3, q4, q5⟩ := hlt
  rw [hov] at hO
  have hLt : ∀ b : Nat, b ≤ 6 → @LT.lt Nat _ (L + b) aD := fun b hb6 => Nat.lt_of_le_of_lt (Nat.add_le_add_left hb6 L) q2
  have hLo : ∀ b : Nat, b ≤ 6 → @LT.lt Nat _ (L + b) aO := fun b hb6 => Nat.lt_of_le_of_lt (Nat.add_le_add_left hb6 L) q1
  refine seq_next (law_seq 14 2 5 ?_)
  refine @law_L w dp un fr gd s _ g hi_ L mean mg mb X T hd hu cO ov (b6 (fK [n0, n1, n2, n3, n4, n5, n6, n7, n8, n9, n10, n11, n12, n13, n14] 0)) (b6 (fK [n0, n1, n2, n3, n4, n5, n6, n7, n8, n9, n10, n11, n12, n13, n14] 1)) (b6 (fK [n0, n1, n2, n3, n4, n5, n6, n7, n8, n9, n10, n11, n12, n13, n14] 2)) (b6 (fK [n0, n1, n2, n3, n4, n5, n6, n7, n8, n9, n10, n11, n12, n13, n14] 3)) (b6 (fK [n0, n1, n2, n3, n4, n5, n6, n7, n8, n9, n10, n11, n12, n13, n14] 4)) (b6_lt _) (b6_lt _) (b6_lt _) (b6_lt _) (b6_lt _) hO (pretty_split (numN [n0, n1, n2, n3, n4, n5, n6, n7, n8, n9, n10, n11, n12, n13, n14]) (num_lt _)) (pretty_short (numN [n0, n1, n2, n3, n4, n5, n6, n7, n8, n9, n10, n11, n12, n13, n14])) mi aO _ o6 _ d6 hio Fi [(aD, W.listOf #[] 0), (aN, W.listOf nv.toArray cN), (L + 2, o2'), (L + 5, o5')] (news_pick Ni [0, 8, 1, 3, 5, 7] rfl) (Nat.ne_of_gt q1) ?_ ?_
  · intro p hp
    simp only [List.mem_cons, List.not_mem_nil, or_false] at hp
    rcases hp with rfl | rfl | rfl | rfl
    · exact Nat.ne_of_gt q2
    · exact hof (L + 6) (by simp) aN (by simp)
    · k_ne
    · k_ne
  clear Fi Ni hO hio
  intro hj tkj D9 ws o6' mj Fj ej Nj hW d6' ltj
  have hW : StrsAre ws (prettyL (numN [n0, n1, n2, n3, n4, n5, n6, n7, n8, n9, n10, n11, n12, n13, n14])) := hW
  have hjn : mj (Str.ofString "nums") = some (.ref aN) := (ej _ (by decide)).trans hin
  have hjd : mj (Str.ofString "due") = some (.ref aD) := (ej _ (by decide)).trans hid
  clear ej hin hid
  have lD6 := ltj (L + 6, o6') (by simp)
  have lDD := ltj (aD, W.listOf #[] 0) (by simp)
  have lDN := ltj (aN, W.listOf nv.toArray cN) (by simp)
  have lD2 := ltj (L + 2, o2') (by simp)
  have lD5 := ltj (L + 5, o5') (by simp)
  refine seq_next (law_seq 16 1 4 ?_)
  refine @law_N w dp un fr gd s _ g hj L mean mg mb X T hd hu cN nv [n0, n1, n2, n3, n4, n5, n6, n7, n8, n9, n10, n11, n12, n13, n14] hN hNl mj aN aD _ o2' o5' _ _ d2' d5' hjn hjd [(D9, W.listOf ws.toArray 0), (L + 6, o6')] ⟨Nat.ne_of_lt q5, Nat.ne_of_lt (hLt 2 (by decide)), Nat.ne_of_lt (hLt 5 (by decide))⟩ ⟨hof (L + 2) (by simp) aN (by simp), hof (L + 5) (by simp) aN (by simp)⟩ ?_ ?_ ?_ Fj (news_pick Nj [2, 3, 4, 5, 0, 1] rfl) ?_
  · intro p hp
    simp only [List.mem_cons, List.not_mem_nil, or_false] at hp
    rcases hp with rfl | rfl
    · exact Nat.ne_of_gt lDD
    · exact Nat.ne_of_lt (hLt 6 (by decide))
  · intro p hp
    simp only [List.mem_cons, List.not_mem_nil, or_false] at hp
    rcases hp with rfl | rfl
    · exact Nat.ne_of_gt lD2
    · k_ne
  · intro p hp
    simp only [List.mem_cons, List.not_mem_nil, or_false] at hp
    rcases hp with rfl | rfl
    · exact Nat.ne_of_gt lD5
    · k_ne
  clear Fj Nj d2' d5' ltj
  intro hk tkk dv cD o2b o5b z2b z5b Fk Nk hD d2' d5'
  refine seq_next (law_seq 17 1 3 ?_)
  refine @law_O w dp un fr gd s _ g hk L mean mg mb X T hd hu cD ws dv (prettyL (numN [n0, n1, n2, n3, n4, n5, n6, n7, n8, n9, n10, n11, n12, n13, n14])) (dueTo [n0, n1, n2, n3, n4, n5, n6, n7, n8, n9, n10, n11, n12, n13, n14] 30) hW hD (dueTo_len _ _) (pretty_30 _) (words_due _) (fun y hy => (pretty_ok hy).1) mj D9 aD _ o6' d6' hjd [(L + 2, o2b)] Fk (news_pick Nk [4, 0, 5, 2] rfl) ?_
  clear Fk Nk
  intro hl tkl Fl Nl
  refine seq_next (law_seq 18 2 1 ?_)
  refine @law_Q w dp un fr gd s _ g hl L mean mg mb X T hd hu 0 ws (prettyL (numN [n0, n1, n2, n3, n4, n5, n6, n7, n8, n9, n10, n11, n12, n13, n14])) hW (pretty_30 _) mj D9 _ o2b o6' _ d2' d6' [] (Nat.ne_of_gt lD2) (fun p hp => nomatch hp) Fl (news_pick Nl [0, 3, 2] rfl) ?_
  clear Fl Nl
  intro hm tkm aM cM mv mm Fm hmm Nm hM
  have hms : (List.range 5).map (fun (j : Nat) => maskW (prettyL (numN [n0, n1, n2, n3, n4, n5, n6, n7, n8, n9, n10, n11, n12, n13, n14])) (j : Int)) = [b6 (fK [n0, n1, n2, n3, n4, n5, n6, n7, n8, n9, n10, n11, n12, n13, n14] 0), b6 (fK [n0, n1, n2, n3, n4, n5, n6, n7, n8, n9, n10, n11, n12, n13, n14] 1), b6 (fK [n0, n1, n2, n3, n4, n5, n6, n7, n8, n9, n10, n11, n12, n13, n14] 2), b6 (fK [n0, n1, n2, n3, n4, n5, n6, n7, n8, n9, n10, n11, n12, n13, n14] 3), b6 (fK [n0, n1, n2, n3, n4, n5, n6, n7, n8, n9, n10, n11, n12, n13, n14] 4)].map fun (m : Nat) => (m : Int) := by
    show [maskW _ ((0 : Nat) : Int), maskW _ ((1 : Nat) : Int), maskW _ ((2 : Nat) : Int), maskW _ ((3 : Nat) : Int), maskW _ ((4 : Nat) : Int)] = _
    rw [maskW_is _ (by decide), maskW_is _ (by decide), maskW_is _ (by decide), maskW_is _ (by decide), maskW_is _ (by decide)]
    rfl
  rw [hms] at hM
  refine seq_next ?_
  refine @law_R w dp un fr gd s _ g hm L mean mg mb X T hd hu cM mv _ hM rfl ?_ mm aM _ hmm Fm Nm ?_
  · intro z hz
    simp only [List.mem_cons, List.not_mem_nil, or_false] at hz
    rcases hz with rfl | rfl | rfl | rfl | rfl <;> exact b6_lt _
  intro s2 ho tko hss Fo
  exact hret s2 ho tko hss fun b o e => Fo.keep b o (hg ▸ e)
end Mine
end
open PySem PySem.W PyProof.Rows
set_option maxRecDepth 100000
set_option maxHeartbeats 0 in
theorem Mine.law_said : OpenLaw.wellSaid PySem.Challenge.rw_sr0008_01 = true := by
  rw [PySem.W.Fast.te9446332074065402090]
  kernel_rfl
set_option maxHeartbeats 4000000 in
theorem PySem.Challenge.cw_sr0008_01_holds : PySem.Challenge.rw_sr0008_01.Holds := by
  w_on
  refine PySem.W.holds_law Mine.law_said fun said => ?_
  refine PySem.W.holds_open (r := OpenLaw.row PySem.Challenge.rw_sr0008_01) (q := Mine.qv) (loose := Mine.loose) (Xt := fun s => xlAt Mine.qv [] s && recOk [] s) (XP := XL Mine.qv []) (Yf := Hook.obs Mine.HK) (Ya := Hook.val Mine.HK) (YP := Hook.says Mine.HK) (N := 14000) Mine.left (Hook.of Mine.HK) (Hook.keeps Mine.HK) (fun s e => xl_of s (Bool.and_eq_true_iff.mp e).1) XL.keeps (by rfl) (by rfl) (by rfl) (fun s e => recFacts_of (Bool.and_eq_true_iff.mp e).2) (by rfl) said (by decide +kernel) ⟨rfl, rfl, rfl, rfl, rfl, by decide +kernel⟩ ?hw ?hc
  case hw => exact ⟨[.list []], by decide +kernel, by decide +kernel⟩
  intro w s₀ s₁ mg mb G Y fa o pm cd doc dV kV ho hd hcd hD hmg hg args vals as hpre hlay hrd hwl hlo
  have KX := kIn_of Y
  refine Ground.open G ?_
  intro T B D TE TW
  clear D TE TW
  wrow_args hpre hlay hrd hwl hlo
  rename_i ns hs hlay0 hL1 hr1 hl2 wa wb l vs wc hL ra wl r0 hI hr hc1 hc0
  have hfa : fa = 204 := by
    have h1 := mg_of (n := Str.ofString "law") (v := .ref 204) KX T.g (by kernel_rfl)
    have h2 := hmg.symm.trans h1
    exact Value.ref.inj (Option.some.inj h2)
  have hlen : ns.length ≤ 63 := by omega
  clear hs hlay0 hL1 hr1 hl2 ra wl r0 hr hc1 hc0 B ho hd hcd hD hmg
  subst hfa
  refine Mine.law_spec w l vs ns hI hlen callerA.depth callerA.units callerA.frames callerA.guards s₁ _ _ ⟨KX, _, _, _, T⟩ hL (by decide +kernel) (by decide +kernel) ?_
  intro s2 h' tk' hss hk
  refine ⟨.inl ⟨.bool true, .bool true, [], rfl, fun cls => rfl, .bool true, ?_, fun _ => ⟨List.nodup_nil, fun a ha => nomatch ha⟩⟩, .of_keep hk, hss.2, .of_eq (hss.1.trans hg)⟩
  wrow_post
