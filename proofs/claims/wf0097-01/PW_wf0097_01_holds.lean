import PyProof.Rows.All
import Wide.All
import OpenK.AllK
import Wide.FinOn
import Open.Tops
import Lean
import PySem.Challenge.RW_wf0097_01
set_option Elab.async false

/- Ev -/
section
open PySem PySem.W PyProof.Rows
set_option Elab.async false
set_option maxRecDepth 100000
set_option maxHeartbeats 0
namespace Mine

/-- a straight run of a tree: reads, writes of objects from n0 on, new objects, tokens, questions to the world, and the one call of int.__hash__ -/
inductive Ev (p : Program) (w : World) (n0 : Nat) : {α : Type} → Sem α → Shared → Pos → α → Shared → Pos → Nat → Prop
  | pure {α : Type} (a : α) (s : Shared) (q : Pos) : Ev p w n0 (.pure a) s q a s q 0
  | rule {α : Type} {t : String} {k : Unit → Sem α} {s s' : Shared} {q q' : Pos} {a : α} {n : Nat} : Ev p w n0 (k ()) s q a s' q' n → Ev p w n0 (.rule t k) s q a s' q' (n + 1)
  | at_ {α : Type} {p' : Pos} {k : Unit → Sem α} {s s' : Shared} {q q' : Pos} {a : α} {n : Nat} : Ev p w n0 (k ()) s p' a s' q' n → Ev p w n0 (.at p' k) s q a s' q' (n + 1)
  | load {α : Type} {x : Addr} {o : Obj} {part : Option Value} {k : Obj → Sem α} {s s' : Shared} {q q' : Pos} {a : α} {n : Nat} : s.heap.get? x = some o → Ev p w n0 (k o) s q a s' q' n → Ev p w n0 (.load x part k) s q a s' q' (n + 1)
  | update {α : Type} {x : Addr} {part : Option Value} {f : Obj → Obj} {k : Unit → Sem α} {s s' : Shared} {q q' : Pos} {a : α} {n : Nat} : (s.heap.get? x).isSome = true → n0 ≤ x →
      Ev p w n0 (k ()) { s with heap := s.heap.update x f } q a s' q' n → Ev p w n0 (.update x part f k) s q a s' q' (n + 1)
  | alloc {α : Type} {o : Obj} {k : Addr → Sem α} {s s' : Shared} {q q' : Pos} {a : α} {n : Nat} : Ev p w n0 (k s.heap.objs.size) { s with heap := s.heap.push o } q a s' q' n → Ev p w n0 (.alloc o k) s q a s' q' (n + 1)
  | fresh {α : Type} {k : Tok → Sem α} {s s' : Shared} {q q' : Pos} {a : α} {n : Nat} : Ev p w n0 (k s.toks) { s with toks := s.toks + 1 } q a s' q' n → Ev p w n0 (.fresh k) s q a s' q' (n + 1)
  | ask {α : Type} {k : Setting → Sem α} {s s' : Shared} {q q' : Pos} {a : α} {n : Nat} : Ev p w n0 (k ⟨p, w.params⟩) s q a s' q' n → Ev p w n0 (.ask k) s q a s' q' (n + 1)
  | point {α : Type} {l : List Value} {k : Unit → Sem α} {s s' : Shared} {q q' : Pos} {a : α} {n : Nat} : Ev p w n0 (k ()) s q a s' q' n → Ev p w n0 (.point l k) s q a s' q' (n + 1)
  | hash {α : Type} {i : Int} {t : Tok} {h : Option Value} {g : Bool} {l : List Value} {k : Result → Sem α} {s s' : Shared} {q q' : Pos} {a : α} {n : Nat} :
      Ev p w n0 (k (.ok (.ret (.int (rawHash i) s.toks)))) { s with toks := s.toks + 1 } q a s' q' n → Ev p w n0 (.call (.call (.builtin "int.__hash__") ⟨[.int i t], []⟩) h g l k) s q a s' q' (n + 4)

section
variable {p : Program} {w : World} {n0 : Nat}

theorem Ev.bind {α β : Type} {m : Sem α} {f : α → Sem β} {s s1 s2 : Shared} {q q1 q2 : Pos} {a : α} {b : β} {n1 n2 : Nat} (h : Ev p w n0 m s q a s1 q1 n1) (h2 : Ev p w n0 (f a) s1 q1 b s2 q2 n2) :
    Ev p w n0 (m >>= f) s q b s2 q2 (n1 + n2) := by
  show Ev p w n0 (m.bind f) s q b s2 q2 (n1 + n2)
  induction h with
  | pure a s q => rw [Nat.zero_add]; exact h2
  | rule _ ih => rw [Nat.add_right_comm]; exact .rule (ih h2)
  | at_ _ ih => rw [Nat.add_right_comm]; exact .at_ (ih h2)
  | load e _ ih => rw [Nat.add_right_comm]; exact .load e (ih h2)
  | update e o _ ih => rw [Nat.add_right_comm]; exact .update e o (ih h2)
  | alloc _ ih => rw [Nat.add_right_comm]; exact .alloc (ih h2)
  | fresh _ ih => rw [Nat.add_right_comm]; exact .fresh (ih h2)
  | ask _ ih => rw [Nat.add_right_comm]; exact .ask (ih h2)
  | point _ ih => rw [Nat.add_right_comm]; exact .point (ih h2)
  | hash _ ih => rw [Nat.add_right_comm]; exact .hash (ih h2)

theorem Ev.holding {α : Type} {vs : List Value} {m : Sem α} {s s1 : Shared} {q q1 : Pos} {a : α} {n1 : Nat} (h : Ev p w n0 m s q a s1 q1 n1) : Ev p w n0 (holding vs m) s q a s1 q1 n1 := by
  rw [holding_eq_keep]
  induction h with
  | pure a s q => exact .pure a s q
  | rule _ ih => exact .rule ih
  | at_ _ ih => exact .at_ ih
  | load e _ ih => exact .load e ih
  | update e o _ ih => exact .update e o ih
  | alloc _ ih => exact .alloc ih
  | fresh _ ih => exact .fresh ih
  | ask _ ih => exact .ask ih
  | point _ ih => exact .point ih
  | hash _ ih => exact .hash ih

theorem Ev.tryCatch {α : Type} {m : Sem α} {hd : Value → Sem α} {s s1 : Shared} {q q1 : Pos} {a : α} {n1 : Nat} (h : Ev p w n0 m s q a s1 q1 n1) : Ev p w n0 (m.tryCatch hd) s q a s1 q1 n1 := by
  induction h with
  | pure a s q => exact .pure a s q
  | rule _ ih => exact .rule ih
  | at_ _ ih => exact .at_ ih
  | load e _ ih => exact .load e ih
  | update e o _ ih => exact .update e o ih
  | alloc _ ih => exact .alloc ih
  | fresh _ ih => exact .fresh ih
  | ask _ ih => exact .ask ih
  | point _ ih => exact .point ih
  | hash _ ih => exact .hash ih

theorem Ev.onRaise {α : Type} {m : Sem α} {hd : Value → Sem Unit} {s s1 : Shared} {q q1 : Pos} {a : α} {n1 : Nat} (h : Ev p w n0 m s q a s1 q1 n1) : Ev p w n0 (m.onRaise hd) s q a s1 q1 n1 := by
  induction h with
  | pure a s q => exact .pure a s q
  | rule _ ih => exact .rule ih
  | at_ _ ih => exact .at_ ih
  | load e _ ih => exact .load e ih
  | update e o _ ih => exact .update e o ih
  | alloc _ ih => exact .alloc ih
  | fresh _ ih => exact .fresh ih
  | ask _ ih => exact .ask ih
  | point _ ih => exact .point ih
  | hash _ ih => exact .hash ih

theorem check_hash (i : Int) (t : Tok) : checkBuiltinCall "int.__hash__" ⟨[.int i t], []⟩ = pure () := by
  kernel_rfl
theorem den_hash_call (i : Int) (t : Tok) : denote table (.call (.builtin "int.__hash__") ⟨[.int i t], []⟩) = .pure (.again (.builtin "int.__hash__" ⟨[.int i t], []⟩)) := by
  show (do checkBuiltinCall "int.__hash__" ⟨[.int i t], []⟩; again (.builtin "int.__hash__" ⟨[.int i t], []⟩)) = _
  rw [check_hash]
  rfl
theorem den_of {tb : String → Option Builtin} {id : String} {args : Args} {b : Builtin} (h : entryFor tb id = some b) : denote tb (.builtin id args) = b args := by
  show (match entryFor tb id with | some b => b args | none => unsupported ((withoutEnding? id "#data").getD id)) = _
  rw [h]
theorem den_hash (i : Int) (t : Tok) : denote table (.builtin "int.__hash__" ⟨[.int i t], []⟩) = .fresh fun u => .pure (.done (.ret (.int (rawHash i) u))) := by
  rw [den_of entry_int_hash]
  rfl
theorem endAt_longer {b : Nat} {t : Thread} (h : b < t.stack.length) : endAt b t = none := by
  unfold endAt
  rw [beq_eq_false_iff_ne.mpr (Nat.ne_of_gt h)]

theorem not_lifetime : "int.__hash__".startsWith "lifetime." = false := by decide +kernel
theorem segGo_cons {tb : String → Option Builtin} {ann : Option Value} {b n : Nat} {s s' : Shared} {t t' : Thread} {r : Option (Shared × Thread)} (he : endAt b t = none) (hk : stepOk n0 ann t = true) (hs : step (denote tb) p w s t = .go s' t')
    (h : segGo tb p w n0 ann b n s' t' = r) : segGo tb p w n0 ann b (n + 1) s t = r := by
  unfold segGo
  rw [he, hk, hs]; exact h

theorem Ev.sound {α : Type} {m : Sem α} {s s' : Shared} {q q' : Pos} {a : α} {n : Nat} (h : Ev p w n0 m s q a s' q' n) (ann : Option Value) (K : α → Sem Fin) (H : Value → Sem Fin) (gd : Bool → Bool) (lv : List Value → List Value) (c : Code) (F : Frame) :
    segGo table p w n0 ann 1 n s ⟨m.wrap K H gd lv, c, q, [F]⟩ = some (s', ⟨K a, c, q', [F]⟩) := by
  induction h with
  | pure a s q => rfl
  | @rule _ _ s _ _ _ _ _ _ ih => exact segGo_cons rfl rfl (by obtain ⟨_, _, _, _, _⟩ := s; rfl) ih
  | @at_ _ _ s _ _ _ _ _ _ ih => exact segGo_cons rfl rfl (by obtain ⟨_, _, _, _, _⟩ := s; rfl) ih
  | @load x o _ k s _ _ _ _ _ e _ ih => exact segGo_cons rfl rfl (by obtain ⟨_, _, _, _, _⟩ := s; simp only [Sem.wrap, step]; rw [show _ = some o from e]) ih
  | @update x _ f k s _ _ _ _ _ e o _ ih =>
    refine segGo_cons rfl ?_ (by obtain ⟨_, _, _, _, _⟩ := s; simp only [Sem.wrap, step]; rw [if_pos e]) ih
    show (true && (Nat.ble n0 x || x == mainNs || x == cStatics || ann == some (.ref x))) = true
    rw [Nat.ble_eq.mpr o]; rfl
  | @alloc _ _ s _ _ _ _ _ _ ih => exact segGo_cons rfl rfl (by obtain ⟨_, _, _, _, _⟩ := s; rfl) ih
  | @fresh _ s _ _ _ _ _ _ ih => exact segGo_cons rfl rfl (by obtain ⟨_, _, _, _, _⟩ := s; rfl) ih
  | @ask _ s _ _ _ _ _ _ ih => exact segGo_cons rfl rfl (by obtain ⟨_, _, _, _, _⟩ := s; rfl) ih
  | @point _ _ s _ _ _ _ _ _ ih => exact segGo_cons rfl rfl (by obtain ⟨_, _, _, _, _⟩ := s; rfl) ih
  | @hash i t _ _ _ _ s _ _ _ _ _ _ ih =>
    obtain ⟨hp, gs, dr, tk, os⟩ := s
    refine segGo_cons rfl rfl rfl ?_
    rw [den_hash_call]
    refine segGo_cons (endAt_longer (by simp)) (by simp [stepOk, Thread.calm, Thread.atCollectorCode, not_lifetime, Thread.yieldsInsideHandler]) (step_again ..) ?_
    rw [den_hash]
    refine segGo_cons (endAt_longer (by simp)) rfl rfl ?_
    exact segGo_cons (endAt_longer (by simp)) rfl rfl ih
end
end Mine
end

/- Ev2 -/
section
open PySem PySem.W PyProof.Rows
set_option Elab.async false
set_option maxRecDepth 100000
namespace Mine
section
variable {p : Program} {w : World} {n0 : Nat}

theorem Ev.of_eq {α : Type} {m : Sem α} {a : α} {s : Shared} {q : Pos} (h : m = Sem.pure a) : Ev p w n0 m s q a s q 0 := h ▸ .pure a s q
theorem Ev.pure' {α : Type} (a : α) (s : Shared) (q : Pos) : Ev p w n0 (Pure.pure a : Sem α) s q a s q 0 := .pure a s q
theorem Ev.standAt (p' : Pos) (s : Shared) (q : Pos) : Ev p w n0 (standAt p') s q () s p' 1 := .at_ (.pure () s p')
theorem Ev.loadPart {x : Addr} {o : Obj} (part : Option Value) {s : Shared} (q : Pos) (h : s.heap.get? x = some o) : Ev p w n0 (loadPart x part) s q o s q 1 := .load h (.pure o s q)
theorem Ev.cast {α : Type} {m : Sem α} {s s1 : Shared} {q q1 : Pos} {a : α} {n n' : Nat} (h : Ev p w n0 m s q a s1 q1 n) (e : n = n') : Ev p w n0 m s q a s1 q1 n' := e ▸ h

theorem hash_small {k : Int} (h0 : 0 ≤ k) (h1 : k < 2 ^ 60) : rawHash k = k := by
  obtain ⟨m, rfl⟩ := Int.eq_ofNat_of_zero_le h0
  have hm : m < 2 ^ 60 := by omega
  have e : (((Int.natAbs (m : Int)) : Int) % ((2 ^ 61 - 1 : Nat) : Int)) = (m : Int) := by
    rw [Int.natAbs_natCast]
    exact Int.emod_eq_of_lt (by omega) (by omega)
  unfold rawHash
  dsimp only
  have e2 : (if (m : Int) < 0 then -(m : Int) else m) = m := if_neg (by omega)
  rw [e, e2]
  have : ((m : Int) == -1) = false := by rw [beq_eq_false_iff_ne]; omega
  rw [this]; rfl

theorem special_int (k : Int) (t : Tok) : specialOf (.int k t) "__hash__" = Sem.pure (some (.builtin "int.__hash__")) := slot_int_hash.lookup
theorem bind_int (k : Int) (t : Tok) : bindSpecial (.builtin "int.__hash__") (.int k t) = Sem.pure (.builtin "int.__hash__", [.int k t]) := slot_int_hash.bind _

theorem Ev.pyHash {k : Int} {t : Tok} {s : Shared} {q : Pos} (h0 : 0 ≤ k) (h1 : k < 2 ^ 60) :
    Ev p w n0 (pyHash (.int k t)) s q k { s with toks := s.toks + 1 } q 5 := by
  have hk := hash_small h0 h1
  show Ev p w n0 (pyHashByItsType (.int k t)) s q k _ q 5
  unfold pyHashByItsType
  have hv : [Value.int k t].any Value.onHeap = false := rfl
  rw [cRoomFor, if_neg (by rw [hv]; exact Bool.false_ne_true), special_int]
  show Ev p w n0 (callSpecialIfBoundUnlessNone? (.int k t) "__hash__" _ >>= _) s q k _ q (5 + 0)
  refine Ev.bind (a := some (.int (rawHash k) s.toks)) (s1 := { s with toks := s.toks + 1 }) (q1 := q) ?_ ?_
  · unfold callSpecialIfBoundUnlessNone?
    refine Ev.holding ?_
    unfold bindSpecialIfBound?
    rw [special_int]
    show Ev p w n0 ((PySem.ask >>= _) >>= _) s q _ _ q (1 + 4)
    refine Ev.bind (a := some (.builtin "int.__hash__", [.int k t])) (s1 := s) (q1 := q) ?_ ?_
    · refine .ask ?_
      rw [bind_int]
      show Ev p w n0 (if w.params.followText "special-get-raises" = true then _ else _) s q _ s q 0
      split
      · exact .pure _ s q
      · exact .pure _ s q
    · show Ev p w n0 (call (.builtin "int.__hash__") [.int k t] [] >>= _) s q _ _ q (4 + 0)
      refine Ev.bind (a := .int (rawHash k) s.toks) (s1 := { s with toks := s.toks + 1 }) (q1 := q) ?_ (.pure _ _ _)
      exact .hash (.pure _ _ _)
  · show Ev p w n0 (if (decide (-(2 : Int) ^ 63 ≤ rawHash k) && decide (rawHash k < 2 ^ 63)) = true then Sem.pure (if (rawHash k == -1) = true then -2 else rawHash k) else _) _ q k _ q 0
    rw [hk, if_pos (by simp; omega), if_neg (by simp; omega)]
    exact .pure _ _ _

/-- a dict's object -/
abbrev D (es : List DictEntry) (n : Nat) : Obj := { cls := .type "dict", data := .dict es.toArray n }
/-- the state: s0 with more objects behind, and a number of tokens -/
def sh (s0 : Shared) (os : List Obj) (tk : Nat) : Shared := { s0 with heap := ⟨s0.heap.objs ++ os.toArray, s0.heap.life⟩, toks := tk }
theorem sh_size (s0 : Shared) (os : List Obj) (tk : Nat) : (sh s0 os tk).heap.objs.size = s0.heap.objs.size + os.length := by simp [sh]
theorem sh_get {s0 : Shared} {os : List Obj} {tk i : Nat} {o : Obj} (h : os[i]? = some o) (hf : o.isFreed = false) : (sh s0 os tk).heap.get? (s0.heap.objs.size + i) = some o := by
  unfold Heap.get? sh
  have : (s0.heap.objs ++ os.toArray)[s0.heap.objs.size + i]? = some o := by
    rw [Array.getElem?_append_right (by omega)]
    simp [h]
  simp only [this]
  obtain ⟨c, d, dt, sl⟩ := o
  cases dt <;> simp_all [Obj.isFreed]
theorem sh_update {s0 : Shared} {os : List Obj} {tk i : Nat} (f : Obj → Obj) : { sh s0 os tk with heap := (sh s0 os tk).heap.update (s0.heap.objs.size + i) f } = sh s0 (os.modify i f) tk := by
  unfold sh Heap.update
  dsimp only
  congr 2
  apply Array.ext_getElem?
  intro j
  rw [Array.getElem?_modify]
  by_cases hj : j < s0.heap.objs.size
  · rw [Array.getElem?_append_left hj, Array.getElem?_append_left hj, if_neg (by omega)]
  · rw [Array.getElem?_append_right (by omega), Array.getElem?_append_right (by omega)]
    simp only [List.getElem?_toArray, List.getElem?_modify]
    by_cases e : s0.heap.objs.size + i = j
    · have : i = j - s0.heap.objs.size := by omega
      rw [if_pos e]; simp [this]
    · have : ¬ i = j - s0.heap.objs.size := by omega
      rw [if_neg e]; simp [this]
theorem sh_push {s0 : Shared} {os : List Obj} {tk : Nat} (o : Obj) : { sh s0 os tk with heap := (sh s0 os tk).heap.push o } = sh s0 (os ++ [o]) tk := by
  unfold sh Heap.push
  dsimp only
  congr 2
  simp
theorem sh_tok {s0 : Shared} {os : List Obj} {tk : Nat} : { sh s0 os tk with toks := (sh s0 os tk).toks + 1 } = sh s0 os (tk + 1) := rfl

/-- all keys are ints below their own hash, rising, and k is above them -/
def Rise (es : List DictEntry) : Prop := ∀ e ∈ es, ∃ k t, e.key = .int k t ∧ e.hash = k
def Above (es : List DictEntry) (k : Int) : Prop := ∀ e ∈ es, e.hash < k

theorem places_none {es : Array DictEntry} {k : Int} (h : ∀ e ∈ es, e.hash ≠ k) : placesWithHash es.size (fun i => es[i]?.map (·.hash)) k = [] := by
  unfold placesWithHash
  rw [List.filter_eq_nil_iff]
  intro i _ hi
  simp only [beq_iff_eq, Option.map_eq_some_iff] at hi
  obtain ⟨e, he, hh⟩ := hi
  exact h e (Array.mem_of_getElem? he) hh

theorem Ev.dictFind {d : Addr} {es : List DictEntry} {n : Nat} {k : Int} {t : Tok} {s : Shared} {q : Pos} (hd : s.heap.get? d = some (D es n)) (hA : Above es k) :
    Ev p w n0 (PySem.dictFind d (.int k t) k) s q none s q 1 := by
  unfold PySem.dictFind
  refine Ev.holding ?_
  have h1 : Ev p w n0 (dictEntries d (keyPart (.int k t))) s q es.toArray s q 1 := by
    unfold dictEntries
    refine Ev.bind (n2 := 0) (Ev.loadPart _ q hd) ?_
    exact .pure _ s q
  refine Ev.cast (Ev.bind h1 (n2 := 0) ?_) rfl
  dsimp only
  rw [places_none (fun e he => Int.ne_of_lt (hA e (by simpa using he)))]
  exact .pure _ s q

theorem pastD {es : List DictEntry} {n : Nat} (h : es.length ≤ 100000) : (D es n).data.pastItsLine = none := by
  show (if es.toArray.size > sizeLine + 1 then _ else none) = none
  rw [if_neg]
  rw [List.size_toArray]
  unfold sizeLine
  omega

/-- a new key goes behind -/
theorem Ev.put {s0 : Shared} {os : List Obj} {tk i : Nat} {es : List DictEntry} {n : Nat} {q : Pos} {part : Option Value} {e : DictEntry} (h0 : n0 ≤ s0.heap.objs.size) (hd : os[i]? = some (D es n)) (hz : es.length < 100000) :
    Ev p w n0 (updateDictKeys (s0.heap.objs.size + i) (·.push e) part) (sh s0 os tk) q () (sh s0 (os.set i (D (es ++ [e]) (n + 1))) tk) q 3 := by
  have h1 := sh_get (s0 := s0) (tk := tk) hd rfl
  unfold updateDictKeys
  refine Ev.bind (n2 := 2) (Ev.loadPart _ q h1) ?_
  have hm : Obj.mapDictKeys (·.push e) (D es n) = D (es ++ [e]) (n + 1) := by simp [Obj.mapDictKeys]
  have hos : os.modify i (Obj.mapDictKeys (·.push e)) = os.set i (D (es ++ [e]) (n + 1)) := by
    rw [← hm]
    apply List.ext_getElem?
    intro j
    rw [List.getElem?_modify, List.getElem?_set]
    by_cases ej : i = j
    · subst ej; simp [hd]
      obtain ⟨hl, _⟩ := List.getElem?_eq_some_iff.mp hd
      simp [hl]
    · simp [ej]
  have h2 := sh_update (s0 := s0) (os := os) (tk := tk) (i := i) (Obj.mapDictKeys (·.push e))
  rw [hos] at h2
  have hi : i < os.length := (List.getElem?_eq_some_iff.mp hd).1
  show Ev p w n0 (PySem.updatePart _ _ _ >>= _) _ q _ _ q (1 + 1)
  refine Ev.bind (a := ()) (s1 := sh s0 (os.set i (D (es ++ [e]) (n + 1))) tk) (q1 := q) ?_ ?_
  · refine .update (by rw [h1]; rfl) ?_ ?_
    · omega
    · rw [h2]; exact .pure _ _ _
  · unfold lookBehind
    refine Ev.bind (n2 := 0) (Ev.loadPart _ q (sh_get (o := D (es ++ [e]) (n + 1)) (by rw [List.getElem?_set_self hi]) rfl)) ?_
    rw [pastD (by simp; omega)]
    exact .pure _ _ _

theorem Ev.dictSet {s0 : Shared} {os : List Obj} {tk i : Nat} {es : List DictEntry} {n : Nat} {q : Pos} {k : Int} {t : Tok} {v : Value} (h0 : n0 ≤ s0.heap.objs.size) (hk : 0 ≤ k) (hk1 : k < 2 ^ 60)
    (hd : os[i]? = some (D es n)) (hA : Above es k) (hz : es.length < 100000) :
    Ev p w n0 (PySem.dictSet (s0.heap.objs.size + i) (.int k t) v) (sh s0 os tk) q () (sh s0 (os.set i (D (es ++ [⟨k, .int k t, v⟩]) (n + 1))) (tk + 1)) q 10 := by
  unfold PySem.dictSet
  refine Ev.holding ?_
  refine Ev.bind (n1 := 5) (n2 := 5) (Ev.pyHash hk hk1) ?_
  rw [sh_tok]
  unfold dictSetHashed
  refine Ev.holding ?_
  refine Ev.bind (n1 := 1) (n2 := 4) (Ev.dictFind (sh_get hd rfl) hA) ?_
  exact .rule (Ev.put h0 hd hz)

/-- an item of the display: a written int, a written text, the display's place -/
abbrev itemK (x : Int × Str) : Sem Value := mkInt x.1
abbrev itemV (P : Pos) (x : Int × Str) : Sem Value := do let y ← mkText x.2; PySem.standAt P; pure y
def ents : List (Int × Str) → Nat → List DictEntry
  | [], _ => []
  | x :: r, tk => ⟨x.1, .int x.1 tk, .str x.2 (tk + 1)⟩ :: ents r (tk + 3)
theorem ents_length : ∀ (xs : List (Int × Str)) (tk : Nat), (ents xs tk).length = xs.length
  | [], _ => rfl
  | x :: r, tk => by simp [ents, ents_length r]
/-- the keys rise, from k on -/
def Up : Int → List (Int × Str) → Prop
  | _, [] => True
  | k, x :: r => k < x.1 ∧ x.1 < 2 ^ 60 ∧ Up x.1 r
theorem Above.snoc {es : List DictEntry} {k k' : Int} {a b : Value} (h : Above es k) (hk : k < k') : Above (es ++ [⟨k, a, b⟩]) k' := by
  intro e he
  rcases List.mem_append.mp he with he | he
  · exact Int.lt_trans (h e he) hk
  · simp only [List.mem_singleton] at he; subst he; exact hk
theorem Above.mono {es : List DictEntry} {k k' : Int} (h : Above es k) (hk : k ≤ k') : Above es k' := fun e he => Int.lt_of_lt_of_le (h e he) hk

theorem Ev.subLoop {s0 : Shared} {i : Nat} {P : Pos} (h0 : n0 ≤ s0.heap.objs.size) : ∀ (xs : List (Int × Str)) (os : List Obj) (tk : Nat) (es : List DictEntry) (n : Nat) (k : Int),
    os[i]? = some (D es n) → 0 ≤ k → Above es (k + 1) → Up k xs → es.length + xs.length < 100000 →
    Ev p w n0 (forIn (xs.map fun x => (itemK x, itemV P x)) PUnit.unit fun x _ => do
        let kv ← x.1
        let vv ← PySem.holding [kv] x.2
        PySem.holding [kv, vv] (PySem.dictSet (s0.heap.objs.size + i) kv vv)
        Pure.pure (ForInStep.yield PUnit.unit)) (sh s0 os tk) P PUnit.unit (sh s0 (os.set i (D (es ++ ents xs tk) (n + xs.length))) (tk + 3 * xs.length)) P (13 * xs.length)
  | [], os, tk, es, n, k, hd, _, _, _, _ => by
    have : os.set i (D (es ++ ents [] tk) (n + 0)) = os := by
      simp only [ents, List.append_nil, Nat.add_zero]
      apply List.ext_getElem?
      intro j
      rw [List.getElem?_set]
      by_cases e : i = j
      · subst e; obtain ⟨hl, hh⟩ := List.getElem?_eq_some_iff.mp hd; simp [hl, hh]
      · simp [e]
    show Ev p w n0 _ _ _ _ (sh s0 (os.set i (D (es ++ ents [] tk) (n + 0))) (tk + 0)) _ 0
    rw [this]
    exact .pure _ _ _
  | x :: r, os, tk, es, n, k, hd, hk, hA, hU, hz => by
    rw [List.map_cons, List.forIn_cons]
    obtain ⟨u1, u2, u3⟩ := hU
    refine Ev.cast (Ev.bind (n1 := 13) (n2 := 13 * r.length) (a := ForInStep.yield PUnit.unit) (q1 := P) (s1 := sh s0 (os.set i (D (es ++ [⟨x.1, .int x.1 tk, .str x.2 (tk + 1)⟩]) (n + 1))) (tk + 3)) ?_ ?_) (by simp; omega)
    · refine Ev.bind (n1 := 1) (n2 := 12) (a := .int x.1 tk) (s1 := sh s0 os (tk + 1)) (q1 := P) (.fresh (.pure _ _ _)) ?_
      refine Ev.bind (n1 := 2) (n2 := 10) (a := .str x.2 (tk + 1)) (s1 := sh s0 os (tk + 2)) (q1 := P) (Ev.holding ?_) ?_
      · exact Ev.bind (n1 := 1) (n2 := 1) (a := .str x.2 (tk + 1)) (s1 := sh s0 os (tk + 2)) (q1 := P) (.fresh (.pure _ _ _)) (Ev.bind (n1 := 1) (n2 := 0) (Ev.standAt P _ _) (.pure _ _ _))
      · refine Ev.bind (n1 := 10) (n2 := 0) (Ev.holding (Ev.dictSet h0 (by omega) u2 hd (hA.mono (by omega)) (by simp at hz; omega))) (.pure _ _ _)
    · have hi : i < os.length := (List.getElem?_eq_some_iff.mp hd).1
      have ih := Ev.subLoop (i := i) (P := P) h0 r (os.set i (D (es ++ [⟨x.1, .int x.1 tk, .str x.2 (tk + 1)⟩]) (n + 1))) (tk + 3) (es ++ [⟨x.1, .int x.1 tk, .str x.2 (tk + 1)⟩]) (n + 1) x.1
        (by rw [List.getElem?_set_self hi]) (by omega) ((hA.mono (by omega)).snoc (by omega)) u3 (by simp at hz ⊢; omega)
      rw [List.set_set] at ih
      have e1 : es ++ [⟨x.1, .int x.1 tk, .str x.2 (tk + 1)⟩] ++ ents r (tk + 3) = es ++ ents (x :: r) tk := by simp [ents]
      have e2 : n + 1 + r.length = n + (x :: r).length := by simp; omega
      have e3 : tk + 3 + 3 * r.length = tk + 3 * (x :: r).length := by simp; omega
      rw [e1, e2, e3] at ih
      exact ih
end
end Mine
end

/- Ev3 -/
section
open PySem PySem.W PyProof.Rows
set_option Elab.async false
set_option maxRecDepth 100000
namespace Mine
section
variable {p : Program} {w : World} {n0 : Nat}
abbrev pairOf (P : Pos) (x : Int × Str) : Sem Value × Sem Value := (itemK x, itemV P x)
abbrev itemOf (P : Pos) (x : Int × Str) : Option (Sem Value) × Sem Value := (some (itemK x), itemV P x)

theorem set_last {os : List Obj} {a b : Obj} : (os ++ [a]).set os.length b = os ++ [b] := by simp

theorem Ev.subLong {s0 : Shared} {P : Pos} (h0 : n0 ≤ s0.heap.objs.size) (xs : List (Int × Str)) (os : List Obj) (tk : Nat) (k : Int) (hk : 0 ≤ k) (hU : Up k xs) (hl : 15 < xs.length) (hz : xs.length < 100000) :
    Ev p w n0 (subDict (xs.map (pairOf P))) (sh s0 os tk) P (s0.heap.objs.size + os.length) (sh s0 (os ++ [D (ents xs tk) xs.length]) (tk + 3 * xs.length)) P (13 * xs.length + 2) := by
  unfold subDict
  refine Ev.cast (Ev.bind (n1 := 1) (n2 := 13 * xs.length + 1) (a := s0.heap.objs.size + os.length) (s1 := sh s0 (os ++ [D [] 0]) tk) (q1 := P) ?_ ?_) (by omega)
  · refine .alloc ?_
    rw [sh_push, sh_size]
    exact .pure _ _ _
  · refine Ev.cast (Ev.bind (n1 := 13 * xs.length + 1) (n2 := 0) (a := PUnit.unit) (s1 := sh s0 (os ++ [D (ents xs tk) xs.length]) (tk + 3 * xs.length)) (q1 := P) (Ev.holding ?_) (.pure _ _ _)) (by omega)
    rw [if_neg (by simp; omega)]
    have hf := Ev.subLoop (p := p) (w := w) (i := os.length) (P := P) h0 xs (os ++ [D [] 0]) tk [] 0 k (by simp) hk (fun _ h => nomatch h) hU (by simpa using hz)
    rw [set_last, List.nil_append, Nat.zero_add] at hf
    refine Ev.cast (Ev.bind (n1 := 1) (n2 := 13 * xs.length) (a := ()) (s1 := sh s0 (os ++ [D [] 0]) tk) (q1 := P) (.rule (.pure _ _ _)) ?_) (by omega)
    exact Ev.cast (Ev.bind (n2 := 0) hf (.pure _ _ _)) (by omega)

/-- the items' values, first of all -/
def vals : List (Int × Str) → Nat → List (Value × Value)
  | [], _ => []
  | x :: r, tk => (.int x.1 tk, .str x.2 (tk + 1)) :: vals r (tk + 2)
def ents2 : List (Int × Str) → Nat → List DictEntry
  | [], _ => []
  | x :: r, tk => ⟨x.1, .int x.1 tk, .str x.2 (tk + 1)⟩ :: ents2 r (tk + 2)
theorem Ev.evalPairs {s0 : Shared} {P : Pos} : ∀ (xs : List (Int × Str)) (os : List Obj) (tk : Nat),
    Ev p w n0 (PySem.evalPairs (xs.map (pairOf P))) (sh s0 os tk) P (vals xs tk) (sh s0 os (tk + 2 * xs.length)) P (3 * xs.length)
  | [], _, _ => .pure _ _ _
  | x :: r, os, tk => by
    have ih := Ev.evalPairs (s0 := s0) (P := P) r os (tk + 2)
    refine Ev.cast (Ev.bind (n1 := 1) (n2 := 2 + 3 * r.length) (a := .int x.1 tk) (s1 := sh s0 os (tk + 1)) (q1 := P) (.fresh (.pure _ _ _)) ?_) (by simp; omega)
    refine Ev.bind (n1 := 2) (n2 := 3 * r.length) (a := .str x.2 (tk + 1)) (s1 := sh s0 os (tk + 2)) (q1 := P) (Ev.holding ?_) ?_
    · exact Ev.bind (n1 := 1) (n2 := 1) (a := .str x.2 (tk + 1)) (s1 := sh s0 os (tk + 2)) (q1 := P) (.fresh (.pure _ _ _)) (Ev.bind (n1 := 1) (n2 := 0) (Ev.standAt P _ _) (.pure _ _ _))
    · refine Ev.cast (Ev.bind (n1 := 3 * r.length) (n2 := 0) (Ev.holding ih) ?_) (by omega)
      rw [show tk + 2 * (x :: r).length = tk + 2 + 2 * r.length by simp; omega]
      exact .pure _ _ _

theorem Ev.setLoop {s0 : Shared} {i : Nat} {P : Pos} (h0 : n0 ≤ s0.heap.objs.size) : ∀ (xs : List (Int × Str)) (u : Nat) (os : List Obj) (tk : Nat) (es : List DictEntry) (n : Nat) (k : Int),
    os[i]? = some (D es n) → 0 ≤ k → Above es (k + 1) → Up k xs → es.length + xs.length < 100000 →
    Ev p w n0 (forIn (vals xs u) PUnit.unit fun x _ => do
        PySem.dictSet (s0.heap.objs.size + i) x.1 x.2
        Pure.pure (ForInStep.yield PUnit.unit)) (sh s0 os tk) P PUnit.unit (sh s0 (os.set i (D (es ++ ents2 xs u) (n + xs.length))) (tk + xs.length)) P (10 * xs.length)
  | [], u, os, tk, es, n, k, hd, _, _, _, _ => by
    have : os.set i (D (es ++ ents2 [] u) (n + 0)) = os := by
      simp only [ents2, List.append_nil, Nat.add_zero]
      apply List.ext_getElem?
      intro j
      rw [List.getElem?_set]
      by_cases e : i = j
      · subst e; obtain ⟨hl, hh⟩ := List.getElem?_eq_some_iff.mp hd; simp [hl, hh]
      · simp [e]
    show Ev p w n0 _ _ _ _ (sh s0 (os.set i (D (es ++ ents2 [] u) (n + 0))) (tk + 0)) _ 0
    rw [this]
    exact .pure _ _ _
  | x :: r, u, os, tk, es, n, k, hd, hk, hA, hU, hz => by
    rw [vals, List.forIn_cons]
    obtain ⟨u1, u2, u3⟩ := hU
    refine Ev.cast (Ev.bind (n1 := 10) (n2 := 10 * r.length) (a := ForInStep.yield PUnit.unit) (q1 := P) (s1 := sh s0 (os.set i (D (es ++ [⟨x.1, .int x.1 u, .str x.2 (u + 1)⟩]) (n + 1))) (tk + 1)) ?_ ?_) (by simp; omega)
    · exact Ev.bind (n1 := 10) (n2 := 0) (Ev.dictSet h0 (by omega) u2 hd (hA.mono (by omega)) (by simp at hz; omega)) (.pure _ _ _)
    · have hi : i < os.length := (List.getElem?_eq_some_iff.mp hd).1
      have ih := Ev.setLoop (i := i) (P := P) h0 r (u + 2) (os.set i (D (es ++ [⟨x.1, .int x.1 u, .str x.2 (u + 1)⟩]) (n + 1))) (tk + 1) (es ++ [⟨x.1, .int x.1 u, .str x.2 (u + 1)⟩]) (n + 1) x.1
        (by rw [List.getElem?_set_self hi]) (by omega) ((hA.mono (by omega)).snoc (by omega)) u3 (by simp at hz ⊢; omega)
      rw [List.set_set] at ih
      have e1 : es ++ [⟨x.1, .int x.1 u, .str x.2 (u + 1)⟩] ++ ents2 r (u + 2) = es ++ ents2 (x :: r) u := by simp [ents2]
      have e2 : n + 1 + r.length = n + (x :: r).length := by simp; omega
      have e3 : tk + 1 + r.length = tk + (x :: r).length := by simp; omega
      rw [e1, e2, e3] at ih
      exact ih

theorem Ev.subShort {s0 : Shared} {P : Pos} (h0 : n0 ≤ s0.heap.objs.size) (xs : List (Int × Str)) (os : List Obj) (tk : Nat) (k : Int) (hk : 0 ≤ k) (hU : Up k xs) (hl : xs.length ≤ 15) :
    Ev p w n0 (subDict (xs.map (pairOf P))) (sh s0 os tk) P (s0.heap.objs.size + os.length) (sh s0 (os ++ [D (ents2 xs tk) xs.length]) (tk + 3 * xs.length)) P (13 * xs.length + 1) := by
  unfold subDict
  refine Ev.cast (Ev.bind (n1 := 1) (n2 := 13 * xs.length) (a := s0.heap.objs.size + os.length) (s1 := sh s0 (os ++ [D [] 0]) tk) (q1 := P) ?_ ?_) (by omega)
  · refine .alloc ?_
    rw [sh_push, sh_size]
    exact .pure _ _ _
  · refine Ev.cast (Ev.bind (n1 := 13 * xs.length) (n2 := 0) (a := PUnit.unit) (s1 := sh s0 (os ++ [D (ents2 xs tk) xs.length]) (tk + 3 * xs.length)) (q1 := P) (Ev.holding ?_) (.pure _ _ _)) (by omega)
    rw [if_pos (by simpa using hl)]
    refine Ev.cast (Ev.bind (n1 := 3 * xs.length) (n2 := 10 * xs.length) (Ev.evalPairs xs (os ++ [D [] 0]) tk) (Ev.holding ?_)) (by omega)
    have hf := Ev.setLoop (p := p) (w := w) (i := os.length) (P := P) h0 xs tk (os ++ [D [] 0]) (tk + 2 * xs.length) [] 0 k (by simp) hk (fun _ h => nomatch h) hU (by simp; omega)
    rw [set_last, List.nil_append, Nat.zero_add, show tk + 2 * xs.length + xs.length = tk + 3 * xs.length by omega] at hf
    exact Ev.cast (Ev.bind (n2 := 0) hf (.pure _ _ _)) (by omega)

theorem sub_dict : isSubtype (.type "dict") (.type "dict") = Sem.pure true := by kernel_rfl
theorem iter_dict : typeLookup (.type "dict") "__iter__" = Sem.pure (some (.builtin "dict.__iter__")) := by kernel_rfl

theorem Ev.mergeLoop {s0 : Shared} {j : Nat} {P : Pos} (h0 : n0 ≤ s0.heap.objs.size) {m : Nat} (hj : 0 < j) : ∀ (rest pre : List DictEntry) (os : List Obj) (tk : Nat) (es : List DictEntry) (n : Nat),
    os[0]? = some (D es n) → os[j]? = some (D (pre ++ rest) m) → (∀ e ∈ rest, ∃ t, e.key = .int e.hash t) →
    (∀ e ∈ rest, Above es e.hash) → (rest.Pairwise fun a b => a.hash < b.hash) → es.length + rest.length < 100000 →
    Ev p w n0 (forIn (List.range' pre.length rest.length) PUnit.unit fun i _ => do
        let some e := (← dictEntries (s0.heap.objs.size + j))[i]? | unsupported "dict.changed-during-merge"
        PySem.holding [e.key, e.val] (dictPut s0.heap.objs.size e.hash e.key e.val)
        if (← dictEpoch (s0.heap.objs.size + j)) != m then unsupported "dict.changed-during-merge"
        Pure.pure (ForInStep.yield PUnit.unit)) (sh s0 os tk) P PUnit.unit (sh s0 (os.set 0 (D (es ++ rest) (n + rest.length))) tk) P (6 * rest.length)
  | [], pre, os, tk, es, n, hd, _, _, _, _, _ => by
    have : os.set 0 (D (es ++ []) (n + 0)) = os := by
      simp only [List.append_nil, Nat.add_zero]
      apply List.ext_getElem?
      intro j
      rw [List.getElem?_set]
      by_cases e : 0 = j
      · subst e; obtain ⟨hl, hh⟩ := List.getElem?_eq_some_iff.mp hd; simp [hl, hh]
      · simp [e]
    show Ev p w n0 _ _ _ _ (sh s0 (os.set 0 (D (es ++ []) (n + 0))) tk) _ 0
    rw [this]
    exact .pure _ _ _
  | e :: r, pre, os, tk, es, n, hd, hs, hk, hA, hP, hz => by
    have h0' : 0 < os.length := (List.getElem?_eq_some_iff.mp hd).1
    have hst : ∀ o, (os.set 0 o)[j]? = some (D (pre ++ e :: r) m) := fun o => by rw [List.getElem?_set_ne (by omega)]; exact hs
    obtain ⟨t, ht⟩ := hk e (.head _)
    rw [List.length_cons, List.range'_succ, List.forIn_cons]
    refine Ev.cast (Ev.bind (n1 := 6) (n2 := 6 * r.length) (a := ForInStep.yield PUnit.unit) (q1 := P) (s1 := sh s0 (os.set 0 (D (es ++ [e]) (n + 1))) tk) ?_ ?_) (by omega)
    · refine Ev.bind (n1 := 1) (n2 := 5) (a := (pre ++ e :: r).toArray) (s1 := sh s0 os tk) (q1 := P) ?_ ?_
      · unfold dictEntries
        refine Ev.bind (n2 := 0) (Ev.loadPart _ P (sh_get hs rfl)) ?_
        exact .pure _ _ _
      · have he : (pre ++ e :: r).toArray[pre.length]? = some e := by simp
        rw [he]
        refine Ev.bind (n1 := 4) (n2 := 1) (a := ()) (s1 := sh s0 (os.set 0 (D (es ++ [e]) (n + 1))) tk) (q1 := P) (Ev.holding ?_) ?_
        · unfold dictPut
          rw [ht]
          refine Ev.bind (n1 := 1) (n2 := 3) (Ev.dictFind (sh_get (i := 0) hd rfl) (hA e (.head _))) ?_
          have he' : (⟨e.hash, .int e.hash t, e.val⟩ : DictEntry) = e := by rw [← ht]
          have hp := Ev.put (p := p) (w := w) (s0 := s0) (tk := tk) (q := P) (part := none) (e := ⟨e.hash, .int e.hash t, e.val⟩) h0 hd (by simp at hz; omega)
          rw [show os.set 0 (D (es ++ [e]) (n + 1)) = os.set 0 (D (es ++ [⟨e.hash, .int e.hash t, e.val⟩]) (n + 1)) by rw [he']]
          exact hp
        · refine Ev.bind (n1 := 1) (n2 := 0) (a := m) (s1 := sh s0 (os.set 0 (D (es ++ [e]) (n + 1))) tk) (q1 := P) ?_ ?_
          · unfold dictEpoch
            refine Ev.bind (n2 := 0) (Ev.loadPart _ P (sh_get (hst _) rfl)) ?_
            exact .pure _ _ _
          · have : (m != m) = false := by simp
            rw [this]
            exact .pure _ _ _
    · have ih := Ev.mergeLoop (s0 := s0) (j := j) (P := P) (m := m) h0 hj r (pre ++ [e]) (os.set 0 (D (es ++ [e]) (n + 1))) tk (es ++ [e]) (n + 1) (by rw [List.getElem?_set_self h0']) (by rw [hst]; simp)
        (fun e' h => hk e' (.tail _ h)) (fun e' h => by
          intro x hx
          rcases List.mem_append.mp hx with hx | hx
          · exact hA e' (.tail _ h) x hx
          · simp only [List.mem_singleton] at hx; subst hx; exact (List.pairwise_cons.mp hP).1 e' h) (List.pairwise_cons.mp hP).2 (by simp at hz ⊢; omega)
      rw [List.set_set] at ih
      have e1 : es ++ [e] ++ r = es ++ e :: r := by simp
      have e2 : n + 1 + r.length = n + (r.length + 1) := by omega
      have e3 : (pre ++ [e]).length = pre.length + 1 := by simp
      rw [e1, e2, e3] at ih
      exact ih

theorem Ev.merge {s0 : Shared} {j : Nat} {P : Pos} (h0 : n0 ≤ s0.heap.objs.size) (h1 : 1 < n0) {m : Nat} (hj : 0 < j) (rest : List DictEntry) (os : List Obj) (tk : Nat) (es : List DictEntry) (n : Nat)
    (hd : os[0]? = some (D es n)) (hs : os[j]? = some (D rest m)) (hk : ∀ e ∈ rest, ∃ t, e.key = .int e.hash t)
    (hA : ∀ e ∈ rest, Above es e.hash) (hP : rest.Pairwise fun a b => a.hash < b.hash) (hz : es.length + rest.length < 100000) (hne : es ≠ []) :
    Ev p w n0 (mergeMapping s0.heap.objs.size (.ref (s0.heap.objs.size + j)) false) (sh s0 os tk) P () (sh s0 (os.set 0 (D (es ++ rest) (n + rest.length))) tk) P (5 + 6 * rest.length) := by
  unfold mergeMapping
  have g := sh_get (s0 := s0) (tk := tk) hs rfl
  have g0 : (sh s0 os tk).heap.get? s0.heap.objs.size = some (D es n) := sh_get (s0 := s0) (tk := tk) (i := 0) hd rfl
  refine Ev.cast (Ev.bind (n1 := 1) (n2 := 4 + 6 * rest.length) (a := true) (s1 := sh s0 os tk) (q1 := P) ?_ ?_) (by omega)
  · unfold isInstance
    refine Ev.bind (n1 := 1) (n2 := 0) (a := .type "dict") (s1 := sh s0 os tk) (q1 := P) ?_ (Ev.of_eq sub_dict)
    exact Ev.bind (n2 := 0) (Ev.loadPart _ P g) (.pure _ _ _)
  · rw [if_pos rfl]
    refine Ev.cast (Ev.bind (n1 := 1) (n2 := 3 + 6 * rest.length) (a := some (.builtin "dict.__iter__")) (s1 := sh s0 os tk) (q1 := P) ?_ ?_) (by omega)
    · unfold specialOf
      refine Ev.bind (n1 := 1) (n2 := 0) (a := .type "dict") (s1 := sh s0 os tk) (q1 := P) ?_ (Ev.of_eq iter_dict)
      exact Ev.bind (n2 := 0) (Ev.loadPart _ P g) (.pure _ _ _)
    · refine Ev.cast (Ev.bind (n1 := 0) (n2 := 3 + 6 * rest.length) (a := true) (s1 := sh s0 os tk) (q1 := P) (.pure _ _ _) ?_) (by omega)
      have hm : ¬ ((s0.heap.objs.size + j) == sysModules) = true := by
        rw [beq_iff_eq]
        show ¬ s0.heap.objs.size + j = 1
        omega
      show Ev p w n0 (if ((s0.heap.objs.size + j) == sysModules) = true then _ else _) _ _ _ _ _ _
      rw [if_neg hm]
      refine Ev.cast (Ev.bind (n1 := 1) (n2 := 2 + 6 * rest.length) (a := es.toArray) (s1 := sh s0 os tk) (q1 := P) ?_ ?_) (by omega)
      · unfold dictEntries
        refine Ev.bind (n2 := 0) (Ev.loadPart _ P g0) ?_
        exact .pure _ _ _
      · rw [if_neg (by simpa using hne)]
        refine Ev.cast (Ev.bind (n1 := 1) (n2 := 1 + 6 * rest.length) (a := rest.toArray) (s1 := sh s0 os tk) (q1 := P) ?_ ?_) (by omega)
        · unfold dictEntries
          refine Ev.bind (n2 := 0) (Ev.loadPart _ P g) ?_
          exact .pure _ _ _
        · refine Ev.cast (Ev.bind (n1 := 1) (n2 := 6 * rest.length) (a := m) (s1 := sh s0 os tk) (q1 := P) ?_ ?_) (by omega)
          · unfold dictEpoch
            refine Ev.bind (n2 := 0) (Ev.loadPart _ P g) ?_
            exact .pure _ _ _
          · rw [List.size_toArray, List.range_eq_range']
            refine Ev.cast (Ev.bind (n1 := 6 * rest.length) (n2 := 0) (a := PUnit.unit) (s1 := sh s0 (os.set 0 (D (es ++ rest) (n + rest.length))) tk) (q1 := P) ?_ (.pure _ _ _)) (by omega)
            exact Ev.mergeLoop (P := P) h0 hj rest [] os tk es n hd hs hk hA hP hz
end
end Mine
end

/- Ev4 -/
section
open PySem PySem.W PyProof.Rows
set_option Elab.async false
set_option maxRecDepth 100000
namespace Mine
section
variable {p : Program} {w : World} {n0 : Nat}
abbrev Turn := (Option (Sem Value) × Sem Value) → (Option Addr × List (Sem Value × Sem Value)) → Sem (ForInStep (Option Addr × List (Sem Value × Sem Value)))

/-- items that only gather -/
theorem gather {P : Pos} {f : Turn} (H1 : ∀ main run x, run.length < 16 → f (itemOf P x) (main, run) = Pure.pure (.yield (main, run ++ [pairOf P x]))) :
    ∀ (xs : List (Int × Str)) (run : List (Sem Value × Sem Value)) (main : Option Addr) (rest : List (Option (Sem Value) × Sem Value)), run.length + xs.length < 17 →
      forIn (xs.map (itemOf P) ++ rest) (main, run) f = forIn rest (main, run ++ xs.map (pairOf P)) f
  | [], run, main, rest, _ => by simp
  | x :: r, run, main, rest, h => by
    rw [List.map_cons, List.cons_append, List.forIn_cons, H1 main run x (by simp at h; omega), pure_bind]
    have := gather H1 r (run ++ [pairOf P x]) main rest (by simp at h ⊢; omega)
    simpa using this

/-- the first run of seventeen -/
theorem Ev.feed0 {P : Pos} {f : Turn} (H1 : ∀ main run x, run.length < 16 → f (itemOf P x) (main, run) = Pure.pure (.yield (main, run ++ [pairOf P x])))
    (H2 : ∀ run x s s' q q' d n, run.length = 16 → Ev p w n0 (subDict (run ++ [pairOf P x])) s q d s' q' n → Ev p w n0 (f (itemOf P x) (none, run)) s q (.yield (some d, [])) s' q' n)
    {xs : List (Int × Str)} (hl : xs.length = 17) {rest : List (Option (Sem Value) × Sem Value)} {s s1 s2 : Shared} {q q1 q2 : Pos} {d : Addr} {r : Option Addr × List (Sem Value × Sem Value)} {n1 n2 : Nat}
    (h1 : Ev p w n0 (subDict (xs.map (pairOf P))) s q d s1 q1 n1) (h2 : Ev p w n0 (forIn rest (some d, []) f) s1 q1 r s2 q2 n2) :
    Ev p w n0 (forIn (xs.map (itemOf P) ++ rest) (none, []) f) s q r s2 q2 (n1 + n2) := by
  have hne : xs ≠ [] := by rintro rfl; simp at hl
  obtain ⟨ys, x, rfl⟩ : ∃ ys x, xs = ys ++ [x] := ⟨xs.dropLast, xs.getLast hne, (List.dropLast_concat_getLast hne).symm⟩
  have hy : ys.length = 16 := by simpa using hl
  rw [List.map_append, List.append_assoc, gather H1 ys [] none _ (by simp; omega), List.nil_append]
  show Ev p w n0 (forIn (itemOf P x :: rest) (none, ys.map (pairOf P)) f) _ _ _ _ _ _
  rw [List.forIn_cons]
  rw [List.map_append] at h1
  exact Ev.bind (H2 _ _ _ _ _ _ _ _ (by simpa using hy) h1) h2

/-- a later run of seventeen -/
theorem Ev.feed {P : Pos} {f : Turn} (H1 : ∀ main run x, run.length < 16 → f (itemOf P x) (main, run) = Pure.pure (.yield (main, run ++ [pairOf P x])))
    (H3 : ∀ d run x s s1 s' q q1 q' sub n1 n2, run.length = 16 → Ev p w n0 (subDict (run ++ [pairOf P x])) s q sub s1 q1 n1 → Ev p w n0 (mergeMapping d (.ref sub) false) s1 q1 () s' q' n2 →
      Ev p w n0 (f (itemOf P x) (some d, run)) s q (.yield (some d, [])) s' q' (n1 + n2))
    {xs : List (Int × Str)} (hl : xs.length = 17) {rest : List (Option (Sem Value) × Sem Value)} {s s1 s2 s3 : Shared} {q q1 q2 q3 : Pos} {d sub : Addr} {r : Option Addr × List (Sem Value × Sem Value)} {n1 n2 n3 : Nat}
    (h1 : Ev p w n0 (subDict (xs.map (pairOf P))) s q sub s1 q1 n1) (h2 : Ev p w n0 (mergeMapping d (.ref sub) false) s1 q1 () s2 q2 n2) (h3 : Ev p w n0 (forIn rest (some d, []) f) s2 q2 r s3 q3 n3) :
    Ev p w n0 (forIn (xs.map (itemOf P) ++ rest) (some d, []) f) s q r s3 q3 (n1 + n2 + n3) := by
  have hne : xs ≠ [] := by rintro rfl; simp at hl
  obtain ⟨ys, x, rfl⟩ : ∃ ys x, xs = ys ++ [x] := ⟨xs.dropLast, xs.getLast hne, (List.dropLast_concat_getLast hne).symm⟩
  have hy : ys.length = 16 := by simpa using hl
  rw [List.map_append, List.append_assoc, gather H1 ys [] (some d) _ (by simp; omega), List.nil_append]
  show Ev p w n0 (forIn (itemOf P x :: rest) (some d, ys.map (pairOf P)) f) _ _ _ _ _ _
  rw [List.forIn_cons]
  rw [List.map_append] at h1
  exact Ev.bind (H3 _ _ _ _ _ _ _ _ _ _ _ _ (by simpa using hy) h1 h2) h3

-- facts on the entries
theorem ents_keys : ∀ (xs : List (Int × Str)) (tk : Nat), ∀ e ∈ ents xs tk, ∃ t, e.key = .int e.hash t
  | [], _, _, h => nomatch h
  | x :: r, tk, e, h => by
    rcases List.mem_cons.mp h with rfl | h
    · exact ⟨_, rfl⟩
    · exact ents_keys r _ e h
theorem ents2_keys : ∀ (xs : List (Int × Str)) (tk : Nat), ∀ e ∈ ents2 xs tk, ∃ t, e.key = .int e.hash t
  | [], _, _, h => nomatch h
  | x :: r, tk, e, h => by
    rcases List.mem_cons.mp h with rfl | h
    · exact ⟨_, rfl⟩
    · exact ents2_keys r _ e h
theorem ents_above : ∀ (xs : List (Int × Str)) (tk : Nat) (k : Int), Up k xs → ∀ e ∈ ents xs tk, k < e.hash
  | [], _, _, _, _, h => nomatch h
  | x :: r, tk, k, hU, e, h => by
    obtain ⟨a, b, c⟩ := hU
    rcases List.mem_cons.mp h with rfl | h
    · exact a
    · exact Int.lt_trans a (ents_above r _ _ c e h)
theorem ents2_above : ∀ (xs : List (Int × Str)) (tk : Nat) (k : Int), Up k xs → ∀ e ∈ ents2 xs tk, k < e.hash
  | [], _, _, _, _, h => nomatch h
  | x :: r, tk, k, hU, e, h => by
    obtain ⟨a, b, c⟩ := hU
    rcases List.mem_cons.mp h with rfl | h
    · exact a
    · exact Int.lt_trans a (ents2_above r _ _ c e h)
theorem ents_rise : ∀ (xs : List (Int × Str)) (tk : Nat) (k : Int), Up k xs → (ents xs tk).Pairwise fun a b => a.hash < b.hash
  | [], _, _, _ => .nil
  | _ :: r, _, _, hU => .cons (fun e h => ents_above r _ _ hU.2.2 e h) (ents_rise r _ _ hU.2.2)
theorem ents2_rise : ∀ (xs : List (Int × Str)) (tk : Nat) (k : Int), Up k xs → (ents2 xs tk).Pairwise fun a b => a.hash < b.hash
  | [], _, _, _ => .nil
  | _ :: r, _, _, hU => .cons (fun e h => ents2_above r _ _ hU.2.2 e h) (ents2_rise r _ _ hU.2.2)
theorem ents2_length : ∀ (xs : List (Int × Str)) (tk : Nat), (ents2 xs tk).length = xs.length
  | [], _ => rfl
  | x :: r, tk => by simp [ents2, ents2_length r]
/-- the last key, or k -/
def lastK : Int → List (Int × Str) → Int
  | k, [] => k
  | _, x :: r => lastK x.1 r
theorem lastK_le : ∀ (xs : List (Int × Str)) (k : Int), Up k xs → k ≤ lastK k xs
  | [], _, _ => Int.le_refl _
  | _ :: r, _, h => Int.le_trans (Int.le_of_lt h.1) (lastK_le r _ h.2.2)
theorem ents_below : ∀ (xs : List (Int × Str)) (tk : Nat) (k : Int), Up k xs → ∀ e ∈ ents xs tk, e.hash ≤ lastK k xs
  | [], _, _, _, _, h => nomatch h
  | x :: r, tk, k, hU, e, h => by
    rcases List.mem_cons.mp h with rfl | h
    · exact lastK_le r _ hU.2.2
    · exact ents_below r _ _ hU.2.2 e h
theorem Up.split : ∀ (xs ys : List (Int × Str)) (k : Int), Up k (xs ++ ys) → Up k xs ∧ Up (lastK k xs) ys
  | [], _, _, h => ⟨trivial, h⟩
  | _ :: r, ys, _, h => have z := Up.split r ys _ h.2.2; ⟨⟨h.1, h.2.1, z.1⟩, z.2⟩
theorem ents_app : ∀ (xs ys : List (Int × Str)) (tk : Nat), ents (xs ++ ys) tk = ents xs tk ++ ents ys (tk + 3 * xs.length)
  | [], _, _ => rfl
  | x :: r, ys, tk => by
    show _ :: ents (r ++ ys) (tk + 3) = _
    rw [ents_app r ys]
    simp only [List.length_cons, ents, List.cons_append]
    rw [show tk + 3 + 3 * r.length = tk + 3 * (r.length + 1) by omega]

/-- the objects of the later runs -/
def subsOf : List (List (Int × Str)) → Nat → List Obj
  | [], _ => []
  | c :: r, tk => D (ents c tk) c.length :: subsOf r (tk + 3 * c.length)

theorem Ev.runs {s0 : Shared} {P : Pos} {f : Turn} (h0 : n0 ≤ s0.heap.objs.size) (h1 : 1 < n0) (H1 : ∀ main run x, run.length < 16 → f (itemOf P x) (main, run) = Pure.pure (.yield (main, run ++ [pairOf P x])))
    (H3 : ∀ d run x s s1 s' q q1 q' sub n1 n2, run.length = 16 → Ev p w n0 (subDict (run ++ [pairOf P x])) s q sub s1 q1 n1 → Ev p w n0 (mergeMapping d (.ref sub) false) s1 q1 () s' q' n2 →
      Ev p w n0 (f (itemOf P x) (some d, run)) s q (.yield (some d, [])) s' q' (n1 + n2)) (tail : List (Int × Str)) (ht : tail.length < 17) :
    ∀ (cs : List (List (Int × Str))) (subs : List Obj) (tk : Nat) (es : List DictEntry) (n : Nat) (k : Int), es ≠ [] → 0 ≤ k → Above es (k + 1) → (∀ c ∈ cs, c.length = 17) → Up k cs.flatten → es.length + cs.flatten.length < 100000 →
      Ev p w n0 (forIn ((cs.flatten).map (itemOf P) ++ tail.map (itemOf P)) (some s0.heap.objs.size, []) f) (sh s0 (D es n :: subs) tk) P (some s0.heap.objs.size, tail.map (pairOf P))
        (sh s0 (D (es ++ ents cs.flatten tk) (n + cs.flatten.length) :: (subs ++ subsOf cs tk)) (tk + 3 * cs.flatten.length)) P (330 * cs.length)
  | [], subs, tk, es, n, k, _, _, _, _, _, _ => by
    have := gather H1 tail [] (some s0.heap.objs.size) [] (by simpa using ht)
    simp only [List.append_nil, List.nil_append] at this
    simp only [List.flatten_nil, List.map_nil, List.nil_append, ents, List.append_nil, List.length_nil, Nat.add_zero, Nat.mul_zero, subsOf]
    rw [this]
    exact .pure _ _ _
  | c :: r, subs, tk, es, n, k, hne, hk, hA, hc, hU, hz => by
    have c17 := hc c (.head _)
    rw [List.flatten_cons] at hU
    obtain ⟨u1, u2⟩ := Up.split c r.flatten k hU
    rw [List.flatten_cons, List.length_append] at hz
    have e1 := Ev.subLong (p := p) (w := w) (n0 := n0) (s0 := s0) (P := P) h0 c (D es n :: subs) tk k hk u1 (by omega) (by omega)
    have e2 := Ev.merge (p := p) (w := w) (n0 := n0) (s0 := s0) (P := P) (j := (D es n :: subs).length) (m := c.length) h0 h1 (by simp) (ents c tk) (D es n :: subs ++ [D (ents c tk) c.length]) (tk + 3 * c.length) es n rfl (by simp)
      (ents_keys c tk) (fun e he => hA.mono (by have := ents_above c tk k u1 e he; omega)) (ents_rise c tk k u1) (by rw [ents_length]; omega) hne
    have hset : (D es n :: subs ++ [D (ents c tk) c.length]).set 0 (D (es ++ ents c tk) (n + (ents c tk).length)) = D (es ++ ents c tk) (n + c.length) :: (subs ++ [D (ents c tk) c.length]) := by
      rw [ents_length]; rfl
    rw [hset] at e2
    have e3 := Ev.runs h0 h1 H1 H3 tail ht r (subs ++ [D (ents c tk) c.length]) (tk + 3 * c.length) (es ++ ents c tk) (n + c.length) (lastK k c) (by simp [hne]) (Int.le_trans hk (lastK_le c k u1))
      (fun e he => by
        rcases List.mem_append.mp he with he | he
        · have := hA e he; have := lastK_le c k u1; omega
        · have := ents_below c tk k u1 e he; omega) (fun c' h => hc c' (.tail _ h)) u2 (by rw [List.length_append, ents_length]; omega)
    have e := Ev.feed H1 H3 c17 e1 e2 e3
    have f1 : (c :: r).flatten.map (itemOf P) ++ tail.map (itemOf P) = c.map (itemOf P) ++ (r.flatten.map (itemOf P) ++ tail.map (itemOf P)) := by simp
    have f2 : es ++ ents c tk ++ ents r.flatten (tk + 3 * c.length) = es ++ ents (c :: r).flatten tk := by rw [List.flatten_cons, ents_app, List.append_assoc]
    have f3 : n + c.length + r.flatten.length = n + (c :: r).flatten.length := by rw [List.flatten_cons, List.length_append]; omega
    have f4 : tk + 3 * c.length + 3 * r.flatten.length = tk + 3 * (c :: r).flatten.length := by rw [List.flatten_cons, List.length_append]; omega
    have f5 : subs ++ [D (ents c tk) c.length] ++ subsOf r (tk + 3 * c.length) = subs ++ subsOf (c :: r) tk := by simp [subsOf]
    rw [f1]
    rw [f2, f3, f4, f5] at e
    exact e.cast (by rw [c17, ents_length, c17, List.length_cons]; omega)
end
end Mine
end

/- Ev5 -/
section
open PySem PySem.W PyProof.Rows
set_option Elab.async false
set_option maxRecDepth 100000
namespace Mine
section
variable {p : Program} {w : World} {n0 : Nat}

def dictEnd (c0 : List (Int × Str)) (cs : List (List (Int × Str))) (tail : List (Int × Str)) (tk : Nat) : List Obj :=
  let all := c0 ++ cs.flatten
  D (ents all tk ++ ents2 tail (tk + 3 * all.length)) (all.length + tail.length) :: (subsOf cs (tk + 3 * c0.length) ++ [D (ents2 tail (tk + 3 * all.length)) tail.length])

theorem Ev.front {s0 : Shared} {P : Pos} {f : Turn} (h0 : n0 ≤ s0.heap.objs.size) (h1 : 1 < n0) (H1 : ∀ main run x, run.length < 16 → f (itemOf P x) (main, run) = Pure.pure (.yield (main, run ++ [pairOf P x])))
    (H2 : ∀ run x s s' q q' d n, run.length = 16 → Ev p w n0 (subDict (run ++ [pairOf P x])) s q d s' q' n → Ev p w n0 (f (itemOf P x) (none, run)) s q (.yield (some d, [])) s' q' n)
    (H3 : ∀ d run x s s1 s' q q1 q' sub n1 n2, run.length = 16 → Ev p w n0 (subDict (run ++ [pairOf P x])) s q sub s1 q1 n1 → Ev p w n0 (mergeMapping d (.ref sub) false) s1 q1 () s' q' n2 →
      Ev p w n0 (f (itemOf P x) (some d, run)) s q (.yield (some d, [])) s' q' (n1 + n2))
    (c0 : List (Int × Str)) (cs : List (List (Int × Str))) (tail : List (Int × Str)) (tk : Nat)
    (hc0 : c0.length = 17) (hcs : ∀ c ∈ cs, c.length = 17) (ht : tail.length ≤ 15) (u1 : Up 0 (c0 ++ cs.flatten)) (hz : c0.length + cs.flatten.length + tail.length < 90000) :
    Ev p w n0 (forIn ((c0 ++ cs.flatten ++ tail).map (itemOf P)) (none, []) f) (sh s0 [] tk) P (some s0.heap.objs.size, tail.map (pairOf P))
      (sh s0 (D (ents (c0 ++ cs.flatten) tk) (c0 ++ cs.flatten).length :: subsOf cs (tk + 3 * c0.length)) (tk + 3 * (c0 ++ cs.flatten).length)) P (223 + 330 * cs.length) := by
  obtain ⟨u3, u4⟩ := Up.split c0 cs.flatten 0 u1
  have e1 := Ev.subLong (p := p) (w := w) (n0 := n0) (s0 := s0) (P := P) h0 c0 [] tk 0 (by omega) u3 (by omega) (by omega)
  have e2 := Ev.runs (p := p) (w := w) (s0 := s0) h0 h1 H1 H3 tail (by omega) cs [] (tk + 3 * c0.length) (ents c0 tk) c0.length (lastK 0 c0)
    (fun e => by have := congrArg List.length e; rw [ents_length, hc0] at this; cases this) (lastK_le c0 0 u3) (fun e he => by have := ents_below c0 tk 0 u3 e he; omega) hcs u4 (by rw [ents_length]; omega)
  have e := Ev.feed0 H1 H2 hc0 e1 e2
  have f1 : (c0 ++ cs.flatten ++ tail).map (itemOf P) = c0.map (itemOf P) ++ (cs.flatten.map (itemOf P) ++ tail.map (itemOf P)) := by simp
  have f2 : tk + 3 * c0.length + 3 * cs.flatten.length = tk + 3 * (c0 ++ cs.flatten).length := by rw [List.length_append]; omega
  rw [f1, ents_app, List.length_append, ← List.length_append, ← f2, List.length_append]
  rw [List.nil_append] at e
  exact e.cast (by omega)

theorem Ev.display {s0 : Shared} {P : Pos} (h0 : n0 ≤ s0.heap.objs.size) (h1 : 1 < n0) (c0 : List (Int × Str)) (cs : List (List (Int × Str))) (tail : List (Int × Str)) (tk : Nat)
    (hc0 : c0.length = 17) (hcs : ∀ c ∈ cs, c.length = 17) (ht : tail.length ≤ 15) (htn : tail ≠ []) (hU : Up 0 (c0 ++ cs.flatten ++ tail)) (hz : (c0 ++ cs.flatten ++ tail).length < 90000) :
    Ev p w n0 (dictDisplay ((c0 ++ cs.flatten ++ tail).map (itemOf P))) (sh s0 [] tk) P (.ref s0.heap.objs.size) (sh s0 (dictEnd c0 cs tail tk) (tk + 3 * (c0 ++ cs.flatten ++ tail).length)) P
      (229 + 330 * cs.length + 19 * tail.length) := by
  obtain ⟨u1, u2⟩ := Up.split (c0 ++ cs.flatten) tail 0 hU
  simp only [List.length_append] at hz
  have hall : (c0 ++ cs.flatten).length < 90000 := by rw [List.length_append]; omega
  unfold dictDisplay
  dsimp only
  refine Ev.cast (Ev.bind (n1 := 223 + 330 * cs.length) (n2 := 6 + 19 * tail.length) (a := (some s0.heap.objs.size, tail.map (pairOf P)))
    (s1 := sh s0 (D (ents (c0 ++ cs.flatten) tk) (c0 ++ cs.flatten).length :: subsOf cs (tk + 3 * c0.length)) (tk + 3 * (c0 ++ cs.flatten).length)) (q1 := P) ?_ ?_) (by omega)
  · refine Ev.front h0 h1 ?_ ?_ ?_ c0 cs tail tk hc0 hcs ht u1 hz
    · intro main run x h
      show (if ((run ++ [pairOf P x]).length == 17) = true then _ else _) = _
      rw [if_neg (by simp; omega)]
    · intro run x s s' q q' d n h e
      show Ev p w n0 (if ((run ++ [pairOf P x]).length == 17) = true then _ else _) _ _ _ _ _ _
      rw [if_pos (by simp [h])]
      refine Ev.cast (Ev.bind (n1 := n) (n2 := 0) (a := some d) (s1 := s') (q1 := q') ?_ (.pure _ _ _)) rfl
      rw [if_neg (by simp)]
      exact Ev.bind (n2 := 0) e (.pure _ _ _)
    · intro d run x s s1 s' q q1 q' sub n1 n2 h e1 e2
      show Ev p w n0 (if ((run ++ [pairOf P x]).length == 17) = true then _ else _) _ _ _ _ _ _
      rw [if_pos (by simp [h])]
      refine Ev.cast (Ev.bind (n1 := n1 + n2) (n2 := 0) (a := some d) (s1 := s') (q1 := q') ?_ (.pure _ _ _)) rfl
      rw [if_neg (by simp)]
      exact Ev.bind (Ev.holding e1) (Ev.bind (n2 := 0) (Ev.onRaise (Ev.holding e2)) (.pure _ _ _))
  · let all := c0 ++ cs.flatten
    have hall2 : all.length < 90000 := hall
    have u2' : Up (lastK 0 all) tail := u2
    let os1 := D (ents all tk) all.length :: subsOf cs (tk + 3 * c0.length)
    have e1 := Ev.subShort (p := p) (w := w) (n0 := n0) (s0 := s0) (P := P) h0 tail os1 (tk + 3 * all.length) (lastK 0 all) (lastK_le all 0 u1) u2 ht
    have hne : ents all tk ≠ [] := fun e => by
      have := congrArg List.length e
      rw [ents_length, List.length_append, hc0, List.length_nil] at this
      omega
    have e2 := Ev.merge (p := p) (w := w) (n0 := n0) (s0 := s0) (P := P) (j := os1.length) (m := tail.length) h0 h1 (by simp [os1]) (ents2 tail (tk + 3 * all.length)) (os1 ++ [D (ents2 tail (tk + 3 * all.length)) tail.length])
      (tk + 3 * all.length + 3 * tail.length) (ents all tk) all.length rfl (by simp)
      (ents2_keys tail _) (fun e he x hx => by have := ents_below all tk 0 u1 x hx; have := ents2_above tail _ _ u2' e he; omega) (ents2_rise tail _ _ u2) (by rw [ents_length, ents2_length]; omega) hne
    refine Ev.cast (Ev.bind (n1 := 6 + 19 * tail.length) (n2 := 0) (a := some s0.heap.objs.size) (s1 := sh s0 (dictEnd c0 cs tail tk) (tk + 3 * (c0 ++ cs.flatten ++ tail).length)) (q1 := P) ?_ (.pure _ _ _)) (by omega)
    rw [if_neg (by simpa using htn)]
    have hfin : sh s0 ((os1 ++ [D (ents2 tail (tk + 3 * all.length)) tail.length]).set 0 (D (ents all tk ++ ents2 tail (tk + 3 * all.length)) (all.length + (ents2 tail (tk + 3 * all.length)).length))) (tk + 3 * all.length + 3 * tail.length) =
        sh s0 (dictEnd c0 cs tail tk) (tk + 3 * (c0 ++ cs.flatten ++ tail).length) := by
      rw [ents2_length]
      have : tk + 3 * all.length + 3 * tail.length = tk + 3 * (c0 ++ cs.flatten ++ tail).length := by rw [List.length_append (as := c0 ++ cs.flatten)]; show _ = tk + 3 * (all.length + _); omega
      rw [this]
      rfl
    rw [hfin, ents2_length] at e2
    refine Ev.cast (Ev.bind (Ev.holding e1) (Ev.bind (n2 := 0) (Ev.onRaise (Ev.holding e2)) (.pure _ _ _))) ?_
    omega
end
end Mine
end

/- Ev6 -/
section
open PySem PySem.W PyProof.Rows
set_option Elab.async false
set_option maxRecDepth 100000
namespace Mine

/-- the rest of an assignment to one name -/
def midTree (env : Env) (x : Str) (p1 : Pos) (v : Value) : Sem Flow := (do standAt p1; bindName env x v; pure Flow.next) >>= fun fl => match fl with | .next => execs [] env | f => pure f
def midT (env : Env) (x : Str) (p1 : Pos) (v : Value) (c : Code) (q : Pos) (B : List Frame) : Thread := ⟨(midTree env x p1 v).wrap doneF deadEnd id id, c, q, B⟩

theorem exec_dict {env : Env} {x : Str} {p1 P p3 : Pos} {ks : List (Option Expr)} {vs : List Expr} (hs : swapsWith (.Dict ks vs P) (some (.Name x p1)) p3.line env = pure false) :
    execs [.Assign [.Name x p1] (.Dict ks vs P) p3] env = (do standAt p3; eval (.Dict ks vs P) env) >>= fun v => midTree env x p1 v := by
  rw [execs_cons, exec_Assign_Name _ _ _ _ _ hs]
  unfold midTree
  simp only [bind_assoc]
  rfl

def upB : Int → List (Int × Str) → Bool
  | _, [] => true
  | k, x :: r => decide (k < x.1) && decide (x.1 < 2 ^ 60) && upB x.1 r
theorem up_of : ∀ (xs : List (Int × Str)) (k : Int), upB k xs = true → Up k xs
  | [], _, _ => trivial
  | x :: r, k, h => by
    simp only [upB, Bool.and_eq_true, decide_eq_true_eq] at h
    exact ⟨h.1.1, h.1.2, up_of r _ h.2⟩
def goodB (c0 : List (Int × Str)) (cs : List (List (Int × Str))) (tail : List (Int × Str)) : Bool :=
  c0.length == 17 && cs.all (·.length == 17) && Nat.ble tail.length 15 && !tail.isEmpty && upB 0 (c0 ++ cs.flatten ++ tail) && Nat.ble (c0 ++ cs.flatten ++ tail).length 89999

theorem sh_self (s0 : Shared) : sh s0 [] s0.toks = s0 := by
  obtain ⟨⟨objs, life⟩, g, d, t, os⟩ := s0
  simp [sh]

theorem dict_run {p : Program} {w : World} {n0 : Nat} {ann : Option Value} {env : Env} {x : Str} {p1 P p3 : Pos} {ks : List (Option Expr)} {vs : List Expr} {c : Code} {q : Pos} {F : Frame} {s0 : Shared}
    (hs : swapsWith (.Dict ks vs P) (some (.Name x p1)) p3.line env = pure false) (c0 : List (Int × Str)) (cs : List (List (Int × Str))) (tail : List (Int × Str))
    (hsh : ((evalEachOpt ks env).zip ((evalEach vs env).map fun v => do let x ← v; standAt P; pure x)) = (c0 ++ cs.flatten ++ tail).map (itemOf P)) (hg : goodB c0 cs tail = true)
    (h0 : n0 ≤ s0.heap.objs.size) (h1 : 1 < n0) :
    segGo table p w n0 ann 1 (231 + 330 * cs.length + 19 * tail.length) s0 (piecesOf [.Assign [.Name x p1] (.Dict ks vs P) p3] env c q [F]) =
      some (sh s0 (dictEnd c0 cs tail s0.toks) (s0.toks + 3 * (c0 ++ cs.flatten ++ tail).length), midT env x p1 (.ref s0.heap.objs.size) c P [F]) := by
  simp only [goodB, Bool.and_eq_true, beq_iff_eq, List.all_eq_true, Nat.ble_eq, Bool.not_eq_true', List.isEmpty_eq_false_iff] at hg
  obtain ⟨⟨⟨⟨⟨g1, g2⟩, g3⟩, g4⟩, g5⟩, g6⟩ := hg
  have hd := Ev.display (p := p) (w := w) (n0 := n0) (s0 := s0) (P := P) h0 h1 c0 cs tail s0.toks g1 g2 g3 g4 (up_of _ _ g5) (by omega)
  rw [sh_self, ← hsh] at hd
  have hA : Ev p w n0 (do standAt p3; eval (.Dict ks vs P) env : Sem Value) s0 q (.ref s0.heap.objs.size) (sh s0 (dictEnd c0 cs tail s0.toks) (s0.toks + 3 * (c0 ++ cs.flatten ++ tail).length)) P (231 + 330 * cs.length + 19 * tail.length) := by
    refine Ev.cast (Ev.bind (n1 := 1) (n2 := 230 + 330 * cs.length + 19 * tail.length) (Ev.standAt p3 _ _) ?_) (by omega)
    show Ev p w n0 (do standAt P; dictDisplay _) _ _ _ _ _ _
    exact Ev.cast (Ev.bind (n1 := 1) (n2 := 229 + 330 * cs.length + 19 * tail.length) (Ev.standAt P _ _) hd) (by omega)
  show segGo table p w n0 ann 1 _ s0 ⟨(execs _ env).wrap doneF deadEnd id id, c, q, [F]⟩ = _
  rw [exec_dict hs, Sem.bind_eq_wrap', Sem.wrap_wrap]
  exact hA.sound ann _ _ _ _ c F

theorem segRun_of_go {tb : String → Option Builtin} {p : Program} {w : World} {n0 : Nat} {ann : Option Value} {n m : Nat} {s s' : Shared} {t t' : Thread} {r : Option (Flow × Shared × Code × Pos)} (h : segGo tb p w n0 ann 1 n s t = some (s', t'))
    (k : segRun tb p w n0 ann 1 m s' t' = r) (hr : r.isSome = true) : segRun tb p w n0 ann 1 (n + m) s t = r := by
  obtain ⟨x, rfl⟩ := Option.isSome_iff_exists.mp hr
  exact seg_go h k
/-- the texts of a written display -/
def itemsOf : List (Option Expr) → List Expr → List (Int × Str)
  | some (.Constant (.int k) _ _) :: ks, .Constant (.str v) _ _ :: vs => (k, v) :: itemsOf ks vs
  | _, _ => []
def chunks : Nat → List (Int × Str) → List (List (Int × Str))
  | 0, _ => []
  | n + 1, l => l.take 17 :: chunks n (l.drop 17)
end Mine
end

/- KMod -/
section
open PySem PySem.W PyProof.Rows
set_option Elab.async false
set_option maxRecDepth 100000
set_option maxHeartbeats 0
namespace Mine
open Lean Meta Elab
/-- an object of the heap as a term; a set's table asks the world one row -/
def objTK (P : Lean.Expr) (o : Obj) : Lean.Expr := match o.data with
  | .set es n t => mkApp4 (mkConst ``Obj.mk) (toExpr o.cls) (toExpr o.dict) (mkApp3 (mkConst ``Data.set) (toExpr es) (toExpr n)
      (mkAppN (mkConst ``SetTable.mk) #[toExpr t.mask, toExpr t.place, toExpr t.dummies, toExpr t.finger, mkApp (mkConst ``Bool.not) (mkApp2 (mkConst ``Params.followText) P (mkStrLit "set-order")), toExpr t.moves, toExpr t.plain])) (toExpr o.slots)
  | _ => objE P o
/-- the written part of the heap, the set too -/
def layK (p : Program) : TermElabM Unit := do
  let some (h, h') ← twoRuns p | throwError "no runs"
  let pr := mkApp2 (mkConst ``Prod [0, 0]) (mkConst ``Nat) (mkConst ``Obj)
  let (v, as) ← withLocalDeclD `P (mkConst ``Params) fun P => do
    let mut fr : Array (Nat × Lean.Expr) := ((fragOf P (some "law") h h').map fun (a, _, e) => (a, e)).toArray
    let some o := h.get? 78 | throwError "no set"
    fr := (fr.push (78, objTK P o)).qsort fun a b => a.1 < b.1
    pure (← mkLambdaFVars #[P] (listE pr (fr.toList.map fun (a, e) => mkApp4 (mkConst ``Prod.mk [0, 0]) (mkConst ``Nat) (mkConst ``Obj) (mkRawNatLit a) e)), fr.map (·.1))
  addDecl (.defnDecl { name := `Mine.K, levelParams := [], type := ← mkArrow (mkConst ``Params) (mkConst ``Frag), value := v, hints := .abbrev, safety := .safe })
  addDecl (.defnDecl { name := `Mine.Ks, levelParams := [], type := mkApp (mkConst ``List [0]) (mkConst ``Nat), value := listE (mkConst ``Nat) (as.toList.map fun a => mkRawNatLit a), hints := .abbrev, safety := .safe })
  PySem.W.Fast.primed.modify (·.insert `Mine.K none)
theorem prepK : True := by
  run_tac do
    layK PySem.Challenge.pw_wf0097_01
  trivial
/-- tells the library's words what the written part holds -/
def fill : TermElabM Unit := do
  let some (h, h') ← twoRuns PySem.Challenge.pw_wf0097_01 | throwError "no runs"
  let fr := ((fragOf (mkConst ``Nat.zero) (some "law") h h').map fun (a, o, _) => (a, o)).toArray
  let some o := h.get? 78 | throwError "no set"
  let fr := (fr.push (78, o)).qsort fun a b => a.1 < b.1
  fragNow.modify ((`Mine.K, fr.toList) :: ·)
theorem Ks_eq (P : Params) : Ks = (K P).map (·.1) := by kernel_rfl
end Mine
end

/- HeadL -/
section
open PySem PySem.W PyProof.Rows
set_option Elab.async false
set_option maxRecDepth 100000
set_option maxHeartbeats 0
namespace Mine
theorem dict_runT {p : Program} {w : World} {n0 : Nat} {ann : Option Value} {env : Env} {x : Str} {p1 P p3 : Pos} {ks : List (Option Expr)} {vs : List Expr} {c : Code} {q : Pos} {F : Frame} {s0 : Shared}
    (hs : swapsWith (.Dict ks vs P) (some (.Name x p1)) p3.line env = pure false) (c0 : List (Int × Str)) (cs : List (List (Int × Str))) (tail : List (Int × Str))
    (hsh : ((evalEachOpt ks env).zip ((evalEach vs env).map fun v => do let x ← v; standAt P; pure x)) = (c0 ++ cs.flatten ++ tail).map (itemOf P)) (hg : goodB c0 cs tail = true)
    (h0 : Nat.ble n0 s0.heap.objs.size = true) (h1 : Nat.ble 2 n0 = true) {s' : Shared} {v : Value} (hv : v = .ref s0.heap.objs.size) (he : sh s0 (dictEnd c0 cs tail s0.toks) (s0.toks + 3 * (c0 ++ cs.flatten ++ tail).length) = s') :
    segGo treeTable p w n0 ann 1 (231 + 330 * cs.length + 19 * tail.length) s0 (piecesOf [.Assign [.Name x p1] (.Dict ks vs P) p3] env c q [F]) = some (s', midT env x p1 v c P [F]) := by
  rw [← table_eq_tree, ← he, hv]
  exact dict_run hs c0 cs tail hsh hg (Nat.le_of_ble_eq_true h0) (Nat.le_of_ble_eq_true h1)

open Lean Meta Elab
abbrev Objs := Array (Obj × Obj × Lean.Expr)
abbrev St := PySem.W.State
structure Fixed where
  m0 : Lean.Expr
  ann : Lean.Expr
  env : Lean.Expr
  q : Lean.Expr
def listOf? (fuel : Nat) (e : Lean.Expr) : MetaM (List Lean.Expr) := match fuel with
  | 0 => throwError "a list"
  | f + 1 => do
    let e ← whnfR e
    if e.isAppOfArity ``List.cons 3 then return e.getAppArgs[1]! :: (← listOf? f e.getAppArgs[2]!)
    if e.isAppOfArity ``List.nil 1 then return []
    throwError "a list: {e.getAppFn}"
theorem prepH : True := by
  run_tac do
    for i in [0:4000] do
      for d in [`Mine.prepH, `Mine.hd, `Mine.hdK] do
        for st in ["o", "tree", "heap", "view"] do
          PySem.W.Fast.primed.modify (·.insert (d.str (st ++ "_" ++ toString i)) none)
    PySem.W.Fast.primed.modify (·.insert ``PySem.Challenge.pw_wf0097_01 none)
    let objT : (Lean.Expr) → (Obj) → Lean.Expr := fun (P : Lean.Expr) (o : Obj) => match o.data with
      | .set es n t => mkApp4 (mkConst ``Obj.mk) (toExpr o.cls) (toExpr o.dict) (mkApp3 (mkConst ``Data.set) (toExpr es) (toExpr n)
          (mkAppN (mkConst ``SetTable.mk) #[toExpr t.mask, toExpr t.place, toExpr t.dummies, toExpr t.finger, mkApp (mkConst ``Bool.not) (mkApp2 (mkConst ``Params.followText) P (mkStrLit "set-order")), toExpr t.moves, toExpr t.plain])) (toExpr o.slots)
      | _ => objE P o
    let layT : (Objs) → (Shared) → (Shared) → MetaM (Objs × St) := fun (old : Objs) (s s' : Shared) => do
      let P := mkConst ``Params
      let mut out := #[]
      for i in [0:s.heap.objs.size] do
        let (o, o') := (s.heap.objs[i]!, s'.heap.objs[i]!)
        match old[i]? with
        | some (a, a', e) => if sameObjNow a o && sameObjNow a' o' then out := out.push (a, a', e); continue
        | none => pure ()
        let v ← withLocalDeclD `P P fun p => do
          let e := objT p o
          unless e == objT p o' do throwError "layT: object {i} is the world's"
          mkLambdaFVars #[p] e
        out := out.push (o, o', ← defAt `o (← mkArrow P (mkConst ``Obj)) v)
      let v ← withLocalDeclD `P P fun p => mkLambdaFVars #[p] (treeE p (out.map (·.2.2)) 1 0)
      let t ← defAt `tree (← mkArrow P (mkConst ``BT)) v
      return (out, { heap := default, gens := ← gensE s s', drawn := toExpr s.drawn, toks := mkRawNatLit s.toks, tree := some (t, mkRawNatLit s.heap.objs.size, toExpr s.heap.life) })
    let asks : (Thread) → Bool := fun (t : Thread) => match t.cur with | .ask _ => true | _ => false
    let cutsAt : (Program) → (Int) → (Nat) → (Nat) → (Shared) → (Thread) → Array (Nat × Shared) := fun (p : Program) (row : Int) (cap total : Nat) (s : Shared) (t : Thread) => Id.run do
      let mut (out, s, t, k, since) := (#[], s, t, 0, 100)
      for i in [0:total] do
        if asks t then since := 0
        match step (denote table) p (aWorld row) s t with
        | .go s' t' => s := s'; t := t'; k := k + 1; since := since + 1
        | .halt _ _ => break
        if k ≥ cap && (since == 8 || since > 60) && total - i > 20 then
          out := out.push (k, s)
          k := 0
      return out
    let stateBehind : (Program) → (Int) → (Nat) → (Shared) → (Thread) → Shared := fun (p : Program) (row : Int) (n : Nat) (s : Shared) (t : Thread) => Id.run do
      let mut (s, t) := (s, t)
      for _ in [0:n] do
        match step (denote table) p (aWorld row) s t with
        | .go s' t' => s := s'; t := t'
        | .halt _ _ => break
      return s
    let rst : (Fixed) → (Lean.Expr) → (Name) → (Lean.Expr) → (Lean.Expr) → (Array Lean.Expr) → (Lean.Expr) → (Lean.Expr) → Lean.Expr := fun (F : Fixed) (n : Lean.Expr) (f : Name) (w p : Lean.Expr) (extra : Array Lean.Expr) (s th : Lean.Expr) => mkAppN (mkConst f) (#[mkConst ``treeTable, p, w, F.m0, F.ann] ++ extra ++ #[n, s, th])
    let cd : (Fixed) → (Lean.Expr) → Lean.Expr := fun (F : Fixed) (b : Lean.Expr) => mkApp2 (mkConst ``Code.body) b F.env
    let fB : (Fixed) → Lean.Expr := fun (F : Fixed) => listE (mkConst ``Frame) [mkApp (mkConst ``topFrame) F.q]
    let endT : (Fixed) → (Lean.Expr) → (Lean.Expr) → (Lean.Expr) → (St) → (Lean.Expr) → MetaM Lean.Expr := fun (F : Fixed) (w b os : Lean.Expr) (S : St) (pos : Lean.Expr) => do mkAppM ``some #[← mkAppM ``Prod.mk #[mkConst ``Flow.next, ← mkAppM ``Prod.mk #[S.atT w os, ← mkAppM ``Prod.mk #[(cd F) b, pos]]]]
    let stmts : Lean.Expr := mkApp (mkConst ``List [0]) (mkConst ``Stmt)
    let overAll : (Lean.Expr → Lean.Expr → Lean.Expr → Lean.Expr → MetaM Lean.Expr) → MetaM Lean.Expr := fun (k : Lean.Expr → Lean.Expr → Lean.Expr → Lean.Expr → MetaM Lean.Expr) => withLocalDeclD `w (mkConst ``World) fun w => withLocalDeclD `p (mkConst ``Program) fun p => withLocalDeclD `b stmts fun b => withLocalDeclD `os (mkConst ``OsState) fun os => do mkLambdaFVars #[w, p, b, os] (← k w p b os)
    let pieceBy : (Fixed) → (Program) → (Trace) → (Trace) → (Nat) → (Nat) → (List String) → (List Lean.Expr) → (Objs) → (St) → (Lean.Expr) → (Shared) → (Shared) → MetaM (Lean.Expr × Lean.Expr × Nat × Objs × St × Lean.Expr) := fun (F : Fixed) (p : Program) (t t' : Trace) (idx cap : Nat) (rows : List String) (sts : List Lean.Expr) (oK : Objs) (SK : St) (posK : Lean.Expr) (from1 from2 : Shared) => do
      let m := sts.length
      let some x := t.pieces[idx + m - 1]? | throwError "x"
      let some x' := t'.pieces[idx + m - 1]? | throwError "x"
      let some y := (if idx == 0 then some t.block else t.pieces[idx-1]?) | throwError "x"
      let sum (t : Trace) : Nat := ((t.pieces.drop idx).take m).foldl (fun n z => n + z.steps) 0
      let steps := sum t
      unless steps == sum t' do throwError "steps"
      let one := natE 1
      let stE ← defAt `sts stmts (listE (mkConst ``Stmt) sts)
      let whole (b : Lean.Expr) : Lean.Expr := mkAppN (mkConst ``piecesOf) #[stE, F.env, (cd F) b, posK, (fB F)]
      let th := piecesOf ((t.body.drop idx).take m) t.benv t.bcode y.pos [topFrame t.framePos]
      let cs := cutsAt p 1 cap steps from1 th
      let cs' := cutsAt p 2 cap steps from2 th
      unless cs.map (·.1) == cs'.map (·.1) do throwError "cuts"
      let mut lems := #[]
      let mut Sj := SK
      let mut thr : Lean.Expr → Lean.Expr → Lean.Expr → Lean.Expr → Lean.Expr := fun _ _ b _ => whole b
      let mut oj := oK
      let mut left := steps
      for ((c, sj), (_, sj')) in cs.toList.zip cs'.toList do
        let (o2, Sn) ← layT oj sj sj'
        let (Sp, tp) := (Sj, thr)
        let thrE ← overAll fun w p b os => do
          let W := rows.foldl (fun w r => mkApp3 (mkConst ``World.withFollow) w (mkStrLit r) (mkConst ``Bool.false)) w
          let r ← whnfQuick ((rst F) (natE c) ``segGoT W p #[one] (Sp.atT W os) (tp W p b os))
          unless r.isAppOfArity ``Option.some 2 do throwError "a cut: no state"
          let r2 ← Dig.kw r.appArg!
          unless r2.isAppOfArity ``Prod.mk 4 do throwError "a cut: no pair"
          let t2 := r2.appArg!
          return if W == w then t2 else t2.replace fun x => if x == W then some w else none
        let thrC ← defAt `thread (← inferType thrE) thrE
        Fast.primed.modify (·.insert thrC.getAppFn.constName! none)
        let tn (w p b os : Lean.Expr) : Lean.Expr := mkApp4 thrC w p b os
        let lem ← byPieceS rows (fun w p b os => pure ((rst F) (natE c) ``segGoT w p #[one] (Sp.atT w os) (tp w p b os))) fun w p b os => do mkAppM ``some #[← mkAppM ``Prod.mk #[Sn.atT w os, tn w p b os]]
        lems := lems.push (c, Sp, tp, Sn, tn, lem)
        Sj := Sn
        thr := tn
        oj := o2
        left := left - c
      let (Sl, tl) := (Sj, thr)
      let (o', S') ← layT oj x.s x'.s
      let last ← byPieceS rows (fun w p b os => pure ((rst F) (natE left.succ) ``segRunT w p #[one] (Sl.atT w os) (tl w p b os))) fun w _ b os => (endT F) w b os S' (toExpr x.pos)
      let pf ← overAll fun w p b os => do
        let mut k ← mkAppM ``segRun_of #[← atS last w p b os]
        let mut N' := natE left.succ
        let some (_, _, r) := (← inferType k).eq? | throwError "an equation"
        for (c, Sp, tp, Sn, tn, l) in lems.toList.reverse do
          k := mkAppN (mkConst ``seg_go) #[mkConst ``treeTable, p, w, F.m0, F.ann, one, natE c, N', Sp.at w os, Sn.at w os, tp w p b os, tn w p b os, r.appArg!, ← mkAppM ``segGo_of #[← atS l w p b os], k]
          N' := mkApp2 (mkConst ``Nat.add) (natE c) N'
        mkExpectedTypeHint k (← mkEq ((rst F) (natE steps.succ) ``segRun w p #[one] (SK.at w os) (whole b)) r)
      let l := mkConst (← withOptions (Elab.async.set · false) (mkAuxLemma [] (← inferType pf) pf (cache := false)))
      return (stE, l, steps.succ, o', S', toExpr x.pos)
    let pieceDict : (Fixed) → (Program) → (Trace) → (Trace) → (Nat) → (Lean.Expr) → (Objs) → (St) → (Lean.Expr) → (Shared) → (Shared) → MetaM (Lean.Expr × Lean.Expr × Nat × Objs × St × Lean.Expr) := fun (F : Fixed) (p : Program) (t t' : Trace) (idx : Nat) (st : Lean.Expr) (oK : Objs) (SK : St) (posK : Lean.Expr) (from1 from2 : Shared) => do
      let some x := t.pieces[idx]? | throwError "x"
      let some x' := t'.pieces[idx]? | throwError "x"
      let some y := t.pieces[idx-1]? | throwError "x"
      unless st.isAppOfArity ``Stmt.Assign 3 do throwError "no assignment"
      let [tg] ← listOf? 2 st.getAppArgs[0]! | throwError "a target"
      unless tg.isAppOfArity ``PySem.Expr.Name 2 do throwError "a name"
      let (nm, p1) := (tg.getAppArgs[0]!, tg.getAppArgs[1]!)
      let dv := st.getAppArgs[1]!
      unless dv.isAppOfArity ``PySem.Expr.Dict 3 do throwError "a display"
      let (ks, vs, P) := (dv.getAppArgs[0]!, dv.getAppArgs[1]!, dv.getAppArgs[2]!)
      let kl ← listOf? 10000 ks
      let vl ← listOf? 10000 vs
      let pairTy ← mkAppM ``Prod #[mkConst ``Int, mkConst ``PySem.Str]
      let mut items := #[]
      for k in kl, v in vl do
        let k1 := k.appArg!.getAppArgs[0]!
        let v1 := v.getAppArgs[0]!
        unless k1.isAppOfArity ``Const.int 1 && v1.isAppOfArity ``Const.str 1 do throwError "an item"
        items := items.push (mkApp4 (mkConst ``Prod.mk [0, 0]) (mkConst ``Int) (mkConst ``PySem.Str) k1.appArg! v1.appArg!)
      let n17 := (items.size - 1) / 17
      let lst (l : List Lean.Expr) := listE pairTy l
      let c0 ← defAt `c0 (mkApp (mkConst ``List [0]) pairTy) (lst (items.toList.take 17))
      let csL := (List.range (n17 - 1)).map fun i => lst ((items.toList.drop (17 * (i + 1))).take 17)
      let lTy := mkApp (mkConst ``List [0]) pairTy
      let cs ← defAt `cs (mkApp (mkConst ``List [0]) lTy) (listE lTy csL)
      let tail ← defAt `tail lTy (lst (items.toList.drop (17 * n17)))
      let len := items.size - 17 * n17
      let nGo := 231 + 330 * (n17 - 1) + 19 * len
      let one := natE 1
      let stE ← defAt `sts stmts (listE (mkConst ``Stmt) [st])
      let whole (b : Lean.Expr) : Lean.Expr := mkAppN (mkConst ``piecesOf) #[stE, F.env, (cd F) b, posK, (fB F)]
      let th := piecesOf ((t.body.drop idx).take 1) t.benv t.bcode y.pos [topFrame t.framePos]
      let (oM, SM) ← layT oK (stateBehind p 1 nGo from1 th) (stateBehind p 2 nGo from2 th)
      let (o', S') ← layT oM x.s x'.s
      let v := mkApp (mkConst ``Value.ref) (mkRawNatLit from1.heap.objs.size)
      let mid (b : Lean.Expr) : Lean.Expr := mkAppN (mkConst ``midT) #[F.env, nm, p1, v, (cd F) b, P, (fB F)]
      let m := x.steps.succ - nGo
      let last ← byPieceS [] (fun w p b os => pure ((rst F) (natE m) ``segRunT w p #[one] (SM.atT w os) (mid b))) fun w _ b os => (endT F) w b os S' (toExpr x.pos)
      let tt := mkConst ``Bool.true
      let rflB := mkApp2 (mkConst ``Eq.refl [1]) (mkConst ``Bool) tt
      let side (ty : Lean.Expr) : MetaM Lean.Expr := do
        let some (_, a, _) := ty.eq? | throwError "side"
        return mkConst (← withOptions (Elab.async.set · false) (mkAuxLemma [] ty (← mkEqRefl a) (cache := false)))
      -- hs, hsh, hg: closed
      let d ← forallMetaTelescope (← inferType (mkConst ``dict_runT))
      let ms := d.1
      let find (nm : Name) : MetaM Lean.Expr := do
        for m in ms do if (← m.mvarId!.getDecl).userName == nm then return m
        throwError "no hole {nm}"
      for (n, v) in [(`env, F.env), (`x, nm), (`p1, p1), (`P, P), (`ks, ks), (`vs, vs), (`n0, F.m0), (`ann, F.ann), (`c0, c0), (`cs, cs), (`tail, tail), (`v, v)] do (← find n).mvarId!.assign v
      (← find `p3).mvarId!.assign st.getAppArgs[2]!
      for n in [`hs, `hsh, `hg, `h1] do
        let h ← find n
        h.mvarId!.assign (← side (← instantiateMVars (← inferType h)))
      let pf0 ← instantiateMVars (mkAppN (mkConst ``dict_runT) ms)
      let rest := ms.filter fun m => (pf0.find? (· == m)).isSome
      let gen ← mkLambdaFVars rest pf0
      let genL := mkConst (← withOptions (Elab.async.set · false) (mkAuxLemma [] (← instantiateMVars (← inferType gen)) gen (cache := false)))
      let names ← rest.mapM fun m => do return (← m.mvarId!.getDecl).userName
      let pf ← overAll fun w p b os => do
        let s0 := SK.at w os
        let sM := SM.at w os
        let mut args := #[]
        for n in names do
          let a ← match n with
            | `p => pure p
            | `w => pure w
            | `c => pure ((cd F) b)
            | `q => pure posK
            | `F => pure (mkApp (mkConst ``topFrame) F.q)
            | `s0 => pure s0
            | `s' => pure sM
            | `h0 => pure rflB
            | `hv => mkEqRefl v
            | `he => mkEqRefl sM
            | n => throwError "another hole: {n}"
          args := args.push a
        let go := mkAppN genL args
        let lastR ← mkAppM ``segRun_of #[← atS last w p b os]
        let some (_, _, r) := (← inferType lastR).eq? | throwError "an equation"
        let k := mkAppN (mkConst ``seg_go) #[mkConst ``treeTable, p, w, F.m0, F.ann, one, natE nGo, natE m, s0, sM, whole b, mid b, r.appArg!, go, lastR]
        mkExpectedTypeHint k (← mkEq ((rst F) (natE x.steps.succ) ``segRun w p #[one] s0 (whole b)) r)
      let ty ← withLocalDeclD `w (mkConst ``World) fun w => withLocalDeclD `p (mkConst ``Program) fun p => withLocalDeclD `b stmts fun b => withLocalDeclD `os (mkConst ``OsState) fun os => do
        let r ← mkAppM ``some #[← mkAppM ``Prod.mk #[mkConst ``Flow.next, ← mkAppM ``Prod.mk #[S'.at w os, ← mkAppM ``Prod.mk #[(cd F) b, toExpr x.pos]]]]
        mkForallFVars #[w, p, b, os] (← mkEq ((rst F) (natE x.steps.succ) ``segRun w p #[one] (SK.at w os) (whole b)) r)
      let l := mkConst (← withOptions (Elab.async.set · false) (mkAuxLemma [] ty pf (cache := false)))
      return (stE, l, x.steps.succ, o', S', toExpr x.pos)
    let extTop : (Name) → (Lean.Expr) → (Nat) → (List (Nat × Nat × Nat × List String)) → Term.TermElabM Unit := fun (nm : Name) (pE : Lean.Expr) (leave : Nat) (todo : List (Nat × Nat × Nat × List String)) => do
      sharedTop nm pE leave
      let some e := (topsExt.getState (← getEnv)).back? | throwError "no entry"
      let p ← progOf pE
      let c ← match ← openProbe p with
        | .error m => throwError "{m}"
        | .ok c => pure c
      let N := 2 * c.steps + 100
      let (t, t') ← match ← traceTop p N 1, ← traceTop p N 2 with
        | .ok t, .ok t' => pure (t, t')
        | .error m, _ | _, .error m => throwError "{m}"
      let k := e.cells.size
      let some cells ← cellsD? (← mkAppM ``behindTheImports #[pE]) | throwError "the body"
      let F : Fixed := ⟨e.m0, e.ann, mkConst e.env, e.q⟩
      let some x0 := t.pieces[k-1]? | throwError "x"
      let some x0' := t'.pieces[k-1]? | throwError "x"
      let stOf (y : TopState) : St := { heap := default, gens := y.gens, drawn := y.drawn, toks := y.toks, tree := some (mkConst y.tree, mkRawNatLit y.n, y.life) }
      let SB := stOf e.sB
      let mut o : Objs := e.sK.objs.mapIdx fun i n => (x0.s.heap.objs[i]!, x0'.s.heap.objs[i]!, mkConst n)
      let mut S := stOf e.sK
      let mut pos := e.posK
      let mut (f1, f2) := (x0.s, x0'.s)
      let mut done := #[]
      for (idx, m, cap, rows) in todo do
        let sts := (cells.drop idx).take m
        let (stE, l, n, o', S', pos') ← if cap == 0 then pieceDict F p t t' idx cells[idx]! o S pos f1 f2 else pieceBy F p t t' idx cap rows sts o S pos f1 f2
        done := done.push (stE, l, n, S, S', pos, pos', sts)
        o := o'; S := S'; pos := pos'
        if let some x := t.pieces[idx + m - 1]? then f1 := x.s
        if let some x := t'.pieces[idx + m - 1]? then f2 := x.s
      let chain := nm ++ `chainX
      let (SK, posK) := (S, pos)
      let (ty, pf) ← withLocalDeclD `p (mkConst ``Program) fun p => withLocalDeclD `b stmts fun b => withLocalDeclD `w (mkConst ``World) fun w => withLocalDeclD `os (mkConst ``OsState) fun os =>
        withLocalDeclD `rest stmts fun rest => withLocalDeclD `N (mkConst ``Nat) fun N => withLocalDeclD `r (mkConst ``Shared) fun r => do
          let th (rest : Lean.Expr) (pos : Lean.Expr) : Lean.Expr := mkAppN (mkConst ``restOf) #[rest, F.env, (cd F) b, pos, (fB F)]
          let someR ← mkAppM ``some #[r]
          let hyp ← mkEq ((rst F) N ``topRun w p #[] (SK.at w os) (th rest posK)) someR
          withLocalDeclD `h hyp fun h => do
            let mut kk := h
            let mut NN := N
            let mut rs := rest
            for (stE, l, n, S1, S2, pos1, pos2, _) in done.toList.reverse do
              kk := mkAppN (mkConst ``piece_app) #[mkConst ``treeTable, p, w, F.m0, F.ann, F.env, F.q, natE n, NN, S1.at w os, S2.at w os, r, stE, rs, (cd F) b, pos1, pos2, mkAppN l #[w, p, b, os], kk]
              NN := mkApp2 (mkConst ``Nat.add) (natE n) NN
              rs ← mkAppM ``HAppend.hAppend #[stE, rs]
            kk := mkAppN (mkConst e.chain) #[p, b, w, os, rs, NN, r, kk]
            for g in e.groups.toList.reverse do rs ← mkAppM ``HAppend.hAppend #[mkConst g, rs]
            for n in e.steps.toList.reverse do NN := mkApp2 (mkConst ``Nat.add) (natE n) NN
            let goal ← mkEq ((rst F) NN ``topRun w p #[] (SB.at w os) (th rs e.posB)) someR
            pure (← mkForallFVars #[p, b, w, os, rest, N, r, h] goal, ← mkLambdaFVars #[p, b, w, os, rest, N, r, h] kk)
      addDecl (.thmDecl { name := chain, levelParams := [], type := ty, value := pf })
      let e' : TopEntry := { e with cells := e.cells ++ (done.toList.flatMap (fun d => d.2.2.2.2.2.2.2)).toArray, groups := e.groups ++ done.map (·.1.constName!), steps := e.steps ++ done.map (·.2.2.1), chain, posK, sK := ← noteOf o SK }
      modifyEnv fun env => topsExt.modifyState env fun _ => #[e']
    extTop `Mine.T0 (Lean.mkConst ``PySem.Challenge.pw_wf0097_01) 22 [(6, 1, 250, ["set-order", "special-get-raises"]), (7, 1, 100, []), (8, 1, 0, []), (9, 6, 400, []), (15, 1, 300, [])]
  trivial
open Lean Elab Tactic Meta in
theorem prepH2 : True := by
  run_tac do
    Mine.fill
    let name := `Mine.hdK
    Term.withDeclName name do
      let ty ← instantiateMVars (← Term.elabType (← `(PySem.Challenge.rw_wf0097_01.Holds)))
      let g ← mkFreshExprSyntheticOpaqueMVar ty
      let rest ← Tactic.run g.mvarId! (withoutRecover (evalTactic (← `(tactic| (w_on; o_law; o_head (kHook Mine.K Mine.Ks Mine.Ks_eq); (case hw => w_witness2))))))
      let [hc] := rest | throwError "open_top: the goals"
      let T ← instantiateMVars (← hc.getType)
      let pf ← withLocalDeclD `walk T fun h => do
        hc.assign h
        mkLambdaFVars #[h] (← instantiateMVars g)
      addDecl (.thmDecl { name, levelParams := [], type := ← mkArrow T ty, value := pf })
  trivial
end Mine
end

/- W1 -/
section
open PySem PySem.W PyProof.Rows
set_option Elab.async false
set_option maxRecDepth 100000
set_option maxHeartbeats 0
namespace Mine
abbrev pg : Program := PySem.Challenge.pw_wf0097_01

/-- what stands at every state of the call -/
structure Cx (w : World) (h : Heap) : Prop where
  K : (Mine.K w.params).In h
  T : ∃ q loose mg mb, TopRead q loose mg mb h
theorem Cx.keeps {w : World} {h h' : Heap} (c : Cx w h) (k : ∀ b o, h.get? b = some o → h'.get? b = some o) : Cx w h' := ⟨c.K.keeps k, let ⟨q, l, mg, mb, t⟩ := c.T; ⟨q, l, mg, mb, t.keeps k⟩⟩

theorem keeps_of {s : Shared} {h' : Heap} {tk : Nat} (k : ∀ b o, s.heap.get? b = some o → h'.get? b = some o) : PySem.Keeps s { s with heap := h', toks := tk } := ⟨h', tk, rfl, k⟩
theorem keeps_trans {a b c : Shared} (x : PySem.Keeps a b) (y : PySem.Keeps b c) : PySem.Keeps a c := by
  obtain ⟨h1, t1, rfl, k1⟩ := x
  obtain ⟨h2, t2, rfl, k2⟩ := y
  exact ⟨h2, t2, rfl, fun b o e => k2 b o (k1 b o e)⟩
theorem Keeps.up {s s' : Shared} (x : PySem.Keeps s s') : ∀ b o, s.heap.get? b = some o → s'.heap.get? b = some o := by obtain ⟨h, t, rfl, k⟩ := x; exact k

/-- a call of a def gives a value, and only makes new objects -/
def Gives (w : World) (d u : Nat) (f : Addr) (args : List Value) (s : Shared) (P : Value → Heap → Prop) : Prop :=
  ∀ (A : Around) (E Q : Value → Shared → Prop), A.handled = none → Cx w s.heap → A.depth + d < recursionLimit → A.units + u < cLine →
    (∀ v s', PySem.Keeps s s' → P v s'.heap → Q v s') → wpAny (model pg w) A (call (.ref f) args) Q E s

theorem enter {w : World} {A : Around} {E Q : Value → Shared → Prop} {s : Shared} {f : Addr} {name : Str} {params : Arguments} {body : List Stmt} {scope : Scope} {pm cd doc : Value} {args : List Value} (binds : List (Str × Value))
    (C : Cx w s.heap) (hd : A.depth < recursionLimit) (ho : (Mine.K w.params).lookup f = some ⟨.type "function", none, .func (Calls.docDef name params body scope pm cd doc), #[]⟩) (hcd : codeIn (Mine.K w.params) cd name = true)
    (hbind : bindArgs (Calls.docDef name params body scope pm cd doc) ⟨args, []⟩ = pure binds) (hloc : (binds.all fun x => decide (scope.names.lookup x.1 = some .local)) = true)
    (h : ∀ h₁, Fr s.heap s.heap.objs.size h₁ (fun x => binds.reverse.lookup x) →
      wpAny (model pg w) (A.deeper (envOf name scope s.heap.objs.size f cd)) (execs body (envOf name scope s.heap.objs.size f cd))
        (fun fl s' => Q (match fl with | .ret v => v | _ => .none) s') (fun _ _ => False) { s with heap := h₁, toks := s.toks + binds.length })
    (hco : scope.isCoroutine = false := by rfl) (hgen : scope.isGenerator = false := by rfl) (hk : scope.kind = .function := by rfl)
    (hcell : ∀ x ∈ scope.names, x.2 ≠ .cell := by decide) :
    wpAny (model pg w) A (call (.ref f) args) Q E s := by
  obtain ⟨q, loose, mg, mb, T⟩ := C.T
  exact wpAny_call (call_plain_ret hd (C.K f _ ho) rfl T.nolimit (codeRec_of C.K hcd) hbind (locs hloc) h hco hgen hk hcell)


def b1L : List Int := [65024, 65025, 65026, 65027, 65028, 65029, 6150, 65030, 65031, 65032, 65033, 6155, 6156, 6157, 8203, 8204, 8205, 65034, 65035, 65036, 65037, 65038, 65039, 173, 847, 8288, 65279]
def b1 (k : Int) : Bool := b1L.contains k
def okE (e : Int × Value) : Bool := match e.2 with | .int k _ => e.1 == k && hashInt k == k | _ => false
def intsE (l : List (Int × Value)) : List Int := l.filterMap fun e => match e.2 with | .int k _ => some k | _ => none
theorem elems_ok {w : World} : ∀ {l : List (Int × Value)}, l.all okE = true → ElemsOf (intKind pg w) l
  | [], _, _, h => nomatch h
  | ⟨hh, v⟩ :: r, h, e, he => by
    simp only [List.all_cons, Bool.and_eq_true] at h
    rcases List.mem_cons.mp he with rfl | he
    · cases v with
      | int k t =>
        have h1 := h.1
        simp only [okE, Bool.and_eq_true, beq_iff_eq] at h1
        refine ⟨⟨k, intKind_is pg w k t, ?_⟩, rfl⟩
        show hh = hashInt k
        rw [h1.2, h1.1]
      | _ => cases h.1
    · exact elems_ok h.2 e he
theorem mem_ints {w : World} {k : Int} : ∀ {l : List (Int × Value)}, l.all okE = true → ((intsE l).contains k = true ↔ ∃ e ∈ l, (intKind pg w).is k e.2 = true)
  | [], _ => ⟨fun h => by simp [intsE] at h, fun ⟨e, h, _⟩ => nomatch h⟩
  | ⟨hh, v⟩ :: r, h => by
    simp only [List.all_cons, Bool.and_eq_true] at h
    cases v with
    | int j t =>
      have ih := mem_ints (w := w) (k := k) h.2
      have e : intsE (⟨hh, .int j t⟩ :: r) = j :: intsE r := rfl
      rw [e, List.contains_cons, Bool.or_eq_true, ih]
      constructor
      · rintro (q | ⟨e, he, q⟩)
        · have := beq_iff_eq.mp q; subst this; exact ⟨_, .head _, intKind_is pg w _ t⟩
        · exact ⟨e, .tail _ he, q⟩
      · rintro ⟨e, he, q⟩
        rcases List.mem_cons.mp he with rfl | he
        · left; have : k = j := (intKind pg w).inj _ _ _ q (intKind_is pg w j t); rw [this]; exact beq_self_eq_true _
        · exact .inr ⟨e, he, q⟩
    | _ => cases h.1
theorem mem_ints_of {w : World} {k : Int} {l : List (Int × Value)} (h : l.all okE = true) (e : intsE l = b1L) : (b1 k = true ↔ ∃ e ∈ l, (intKind pg w).is k e.2 = true) := by
  rw [b1, ← e]; exact mem_ints h
theorem b1_set {w : World} {h : Heap} (X : (Mine.K w.params).In h) : h.SetOf (intKind pg w) 78 b1 27 :=
  ⟨_, _, _, _, X 78 _ rfl, ⟨rfl, rfl, rfl⟩, rfl, elems_ok (by decide +kernel), fun k => mem_ints_of (by decide +kernel) (by decide +kernel), by decide, by rfl, by rfl⟩

theorem in_b1 (w : World) (c : Nat) (t : Tok) (s : Shared) : Gives w 1 1 88 [.str ⟨#[c]⟩ t] s (fun v _ => v = .bool (b1 c)) := by
  intro A E Q hh C hd hu hQ
  obtain ⟨q, loose, mg, mb, T⟩ := C.T
  have X := C.K
  refine enter [(Str.ofString "code", .str ⟨#[c]⟩ t)] C (by omega) rfl (by rfl) (by rfl) (by rfl) (fun h₁ F => ?_)
  have N : News s.heap s.heap.objs.size h₁ [] := News.nil
  iterate 11 walk1
  refine wpAny_inSet_of (knd := intKind pg w) (k := (c : Int)) (intKind_is pg w _ _) rfl (b1_set (X.keeps F.keep)) ?_
  exact hQ _ _ (keeps_of F.keep) rfl
end Mine
end

/- W2 -/
section
open PySem PySem.W PyProof.Rows
set_option Elab.async false
set_option maxRecDepth 100000
set_option maxHeartbeats 0
namespace Mine
open Lean Meta Elab in
def layB3 : TermElabM Unit := do
  let some (h, h') ← twoRuns PySem.Challenge.pw_wf0097_01 | throwError "no runs"
  let some o := h.get? 89 | throwError "no dict"
  let e := objE (mkConst ``Nat.zero) o
  let es := (e.getArg! 2).getArg! 0
  addDecl (.defnDecl { name := `Mine.b3es, levelParams := [], type := mkApp (mkConst ``Array [0]) (mkConst ``DictEntry), value := es, hints := .opaque, safety := .safe })
  let es := (e.getArg! 2).getArg! 1
  addDecl (.defnDecl { name := `Mine.b3n, levelParams := [], type := mkConst ``Nat, value := es, hints := .opaque, safety := .safe })
theorem prepB3 : True := by
  run_tac layB3
  trivial

noncomputable def b3 (c : Nat) : Option (List Nat) := match b3es.toList.find? (fun e => Value.isInt (c : Int) e.key) with
  | some e => (match e.val with | .str x _ => some x.cps.toList | _ => none)
  | none => none
def okD (e : DictEntry) : Bool := match e.key, e.val with | .int k _, .str x _ => e.hash == k && hashInt k == k && decide (x.cps.toList.length ≤ 4) | _, _ => false
theorem okD_all : b3es.toList.all okD = true := by decide +kernel
theorem okD_mem {e : DictEntry} (h : e ∈ b3es.toList) : ∃ k t x u, e.key = .int k t ∧ e.val = .str x u ∧ e.hash = hashInt k ∧ x.cps.toList.length ≤ 4 := by
  have a := List.all_eq_true.mp okD_all e h
  obtain ⟨hh, k, v⟩ := e
  cases k with
  | int k t => cases v with
    | str x u =>
      simp only [okD, Bool.and_eq_true, beq_iff_eq, decide_eq_true_eq] at a
      exact ⟨k, t, x, u, rfl, rfl, by rw [a.1.1, a.1.2], a.2⟩
    | _ => cases a
  | _ => cases a
theorem b3_at (P : Params) : (Mine.K P).lookup 89 = some ⟨.type "dict", none, .dict b3es b3n, #[]⟩ := by kernel_rfl
theorem b3_map {w : World} {h : Heap} (X : (Mine.K w.params).In h) : h.MapOf (intKind pg w) 89 (fun k => findBy Value.isInt b3es k) :=
  ⟨_, b3es, _, X 89 _ (b3_at _), ⟨rfl, rfl, rfl⟩, rfl, fun e he => by
    obtain ⟨k, t, x, u, e1, e2, e3, _⟩ := okD_mem (Array.mem_toList_iff.mpr he)
    exact ⟨k, by rw [e1]; exact intKind_is pg w k t, e3⟩, fun _ => rfl⟩
theorem b3_found (c : Nat) : (b3 c = none ∧ findBy Value.isInt b3es (c : Int) = none) ∨ ∃ x u, b3 c = some x.cps.toList ∧ findBy Value.isInt b3es (c : Int) = some (.str x u) ∧ x.cps.toList.length ≤ 4 := by
  have e : findBy Value.isInt b3es (c : Int) = (b3es.toList.find? fun e => Value.isInt (c : Int) e.key).map (·.val) := by
    unfold findBy; rw [← Array.find?_toList]
  unfold b3
  cases q : b3es.toList.find? (fun e => Value.isInt (c : Int) e.key) with
  | none => left; exact ⟨rfl, by rw [e, q]; rfl⟩
  | some d =>
    right
    obtain ⟨k, t, x, u, e1, e2, e3, e4⟩ := okD_mem (List.mem_of_find?_eq_some q)
    exact ⟨x, u, by simp only [e2], by rw [e, q]; simp [e2], e4⟩
end Mine
end

/- W3 -/
section
open PySem PySem.W PyProof.Rows
set_option Elab.async false
set_option maxRecDepth 100000
set_option maxHeartbeats 0
namespace Mine
noncomputable def m3 (c : Nat) : List Nat := (b3 c).getD (Txt.lower ⟨#[c]⟩).cps.toList
theorem len_m3 (c : Nat) : (m3 c).length ≤ 4 := by
  unfold m3
  rcases b3_found c with ⟨e, _⟩ | ⟨x, u, e, _, h⟩
  · rw [e]
    have := len_lower ⟨#[c]⟩
    simp only [Option.getD]
    have e1 : (Txt.lower ⟨#[c]⟩).cps.toList.length = (Txt.lower ⟨#[c]⟩).length := by simp [PySem.Str.length]
    have e2 : (⟨#[c]⟩ : Str).length = 1 := rfl
    omega
  · rw [e]; simpa using h
theorem map_b3 (w : World) (c : Nat) (t : Tok) (s : Shared) : Gives w 1 1 134 [.str ⟨#[c]⟩ t] s (fun v _ => ∃ t', v = .str ⟨(m3 c).toArray⟩ t') := by
  intro A E Q hh C hd hu hQ
  obtain ⟨q, loose, mg, mb, T⟩ := C.T
  have X := C.K
  refine enter [(Str.ofString "code", .str ⟨#[c]⟩ t)] C (by omega) rfl (by rfl) (by rfl) (by rfl) (fun h₁ F => ?_)
  have N : News s.heap s.heap.objs.size h₁ [] := News.nil
  iterate 4 walk1
  have M := b3_map (w := w) (X.keeps F.keep)
  refine getMethod_builtin M.typeIs PySem.F.plainAttrs_dict PySem.F.slot_dict_get PySem.F.type_dict_get M.noDict ?_
  iterate 10 walk1
  refine call_meetsIn PySem.F.slot_dict_get M.typeIs PySem.F.entry_dict_get (PySem.F.args_dict_get_2 _ _) (meets_dict_get (intKind pg w) (k := (c : Int)) 89 (intKind_is pg w _ _) rfl) ⟨_, M, ?_⟩
  rcases b3_found c with ⟨e1, e2⟩ | ⟨x, u, e1, e2, e3⟩
  · rw [e2]
    simp only [Option.getD_none]
    repeat walk1
    refine SCL.lower (Nat.le_of_ble_eq_true rfl) fun _ => ?_
    exact hQ _ _ (keeps_of (Fr.keep (by assumption))) ⟨_, by rw [show (m3 c).toArray = (Txt.lower ⟨#[c]⟩).cps by simp only [m3, e1, Option.getD_none, Array.toArray_toList]]⟩
  · rw [e2]
    simp only [Option.getD_some]
    repeat walk1
    exact hQ _ _ (keeps_of (Fr.keep (by assumption))) ⟨_, by rw [show (m3 c).toArray = x.cps by simp only [m3, e1, Option.getD_some, Array.toArray_toList]]⟩
end Mine
end

/- W4 -/
section
open PySem PySem.W PyProof.Rows
set_option Elab.async false
set_option maxRecDepth 100000
set_option maxHeartbeats 0
namespace Mine
/-- a text by its signs -/
abbrev tx (l : List Nat) : Str := ⟨l.toArray⟩
theorem tx_len (l : List Nat) : (tx l).length = l.length := by simp [PySem.Str.length]
def pv (p : Nat → Bool) (v : Value) : Bool := match v with | .str x _ => p (x.cps[0]?.getD 0) | _ => false
def Fv (g : Nat → List Nat) (v y : Value) : Prop := ∃ c u t, v = .str ⟨#[c]⟩ u ∧ y = .str (tx (g c)) t
theorem paired_signs {p : Nat → Bool} {g : Nat → List Nat} : ∀ {l : List Nat} {vs : List Value} {ys : List Value}, vs.length = l.length → (∀ (j : Nat) (v : Value), vs[j]? = some v → ∃ (c : Nat) (u : Tok), l[j]? = some c ∧ v = Value.str ⟨#[c]⟩ u) →
    Paired (Fv g) (vs.filter (pv p)) ys → ∃ L : List (Str × Tok), strValues L = ys ∧ L.map (·.1) = (l.filter p).map fun c => tx (g c)
  | [], [], ys, _, _, h => by
    cases h; exact ⟨[], rfl, rfl⟩
  | c :: l, v :: vs, ys, hl, hs, h => by
    obtain ⟨c', u, e1, rfl⟩ := hs 0 v rfl
    simp at e1; subst e1
    have hl' : vs.length = l.length := by simpa using hl
    have hs' : ∀ (j : Nat) (v : Value), vs[j]? = some v → ∃ (c : Nat) (u : Tok), l[j]? = some c ∧ v = Value.str ⟨#[c]⟩ u := fun j v e => by simpa using hs (j+1) v (by simpa using e)
    have pe : pv p (.str ⟨#[c]⟩ u) = p c := rfl
    rw [List.filter_cons, pe] at h
    rw [List.filter_cons]
    cases hp : p c with
    | false =>
      rw [hp] at h
      simp only [Bool.false_eq_true, if_false] at h ⊢
      exact paired_signs hl' hs' h
    | true =>
      rw [hp] at h
      simp only [if_true] at h ⊢
      cases h with
      | cons h1 h2 =>
        obtain ⟨c'', u', t, e, rfl⟩ := h1
        injection e with e _; injection e with e; simp at e; subst e
        obtain ⟨L, e1, e2⟩ := paired_signs hl' hs' h2
        exact ⟨(tx (g c), t) :: L, by rw [← e1]; rfl, by simp [e2]⟩

theorem comp_signs {w : World} {A : Around} {E : Value → Shared → Prop} {env : Env} {s : Shared} {elt iter : Expr} {x : Str} {px : Pos} {ifs : List Expr} {scope : Scope} {pos : Pos} {Q : Value → Shared → Prop} (p : Nat → Bool) (g : Nat → List Nat)
    (hh : A.handled = none)
    (h : wpAny (model pg w) A (eval iter env) (fun xv s₁ => ∃ l t, xv = .str (tx l) t ∧ l.length ≤ sizeLine ∧
      (∀ C c u s₃ m₃ E', c ∈ l → s₃.heap.Ns C m₃ → m₃ x = some (.str ⟨#[c]⟩ u) → (∀ b o, s₁.heap.get? b = some o → s₃.heap.get? b = some o) →
        wpAny (model pg w) A (forIn ifs true fun c r => if r = true then do let ok ← isTrue c (compEnv scope C env) (eval c (compEnv scope C env)); pure (ForInStep.yield ok) else pure (ForInStep.yield r))
          (fun ok s₄ => ok = p c ∧ PySem.Keeps s₃ s₄) E' s₃) ∧
      (∀ C c u s₃ m₃ E', c ∈ l → p c = true → s₃.heap.Ns C m₃ → m₃ x = some (.str ⟨#[c]⟩ u) → (∀ b o, s₁.heap.get? b = some o → s₃.heap.get? b = some o) →
        wpAny (model pg w) A (eval elt (compEnv scope C env)) (fun y s₄ => (∃ t, y = .str (tx (g c)) t) ∧ PySem.Keeps s₃ s₄) E' s₃) ∧
      (∀ D h' tk L, s₁.heap.get? D = none → h'.PlainList D (strValues L).toArray → L.map (·.1) = ((l.filter p).map fun c => tx (g c)) → (∀ b o, s₁.heap.get? b = some o → h'.get? b = some o) → Q (.ref D) { s₁ with heap := h', toks := tk })) E s)
    (hfree : ∀ y ∈ scope.names, y.2 ≠ .free := by decide) (hcell : ∀ y ∈ scope.names, y.2 ≠ .cell := by decide) (hkind : scope.kind = .function := by rfl)
    (hnames : ∀ y ∈ scope.names, y.2 = .local → scope.names.lookup y.1 = some .local := by decide) (hx : scope.names.lookup x = some .local := by rfl)
    (hs : ∀ x, foldedSetIterable iter env x = pure x := by intro _; rfl) :
    wpAny (model pg w) A (eval (.ListComp elt [⟨.Name x px, iter, ifs, 0⟩] scope pos) env) Q E s := by
  refine wpAny_ListComp_walk (pv p) (Fv g) hfree hcell hkind hnames hx (wpAny_mono h (fun xv s₁ h₁ => ?_) fun _ _ e => e) hs
  obtain ⟨l, t, rfl, hl, g1, g2, g3⟩ := h₁
  refine wpAny_pyIter_str fun o St W hst => ?_
  have up : ∀ (h' : Heap), (∀ b o', b ∉ [s₁.heap.objs.size] → (s₁.heap.push o).get? b = some o' → h'.get? b = some o') → ∀ b o', s₁.heap.get? b = some o' → h'.get? b = some o' :=
    fun h' hk b o' e => hk b o' (old_not_new e) (Heap.get?_push_of_some _ e)
  have sg : ∀ {i v}, SignAt (tx l) i v → ∃ (c : Nat) (u : Tok), l[i]? = some c ∧ v = Value.str ⟨#[c]⟩ u := fun ⟨c, u, e, e'⟩ => ⟨c, u, by simpa [tx] using e, e'⟩
  refine ⟨s₁.heap.objs.size, [s₁.heap.objs.size], [s₁.heap.objs.size], (tx l).cps.size, SignAt (tx l), St, rfl, W A hh, by simpa [tx] using hl, hst, ?_, ⟨?_, ?_⟩, ?_⟩
  · intro b hb
    show b < (s₁.heap.push o).objs.size
    rw [Heap.size_push, List.mem_singleton.mp hb]
    exact Nat.lt_succ_self _
  · intro C i v s₃ m₃ E' hP hn hm hk htk
    obtain ⟨c, u, e, rfl⟩ := sg hP
    exact g1 C c u s₃ m₃ E' (List.mem_of_getElem? e) hn hm (up _ hk)
  · intro C i v s₃ m₃ E' hP hp hn hm hk htk
    obtain ⟨c, u, e, rfl⟩ := sg hP
    exact wpAny_mono (g2 C c u s₃ m₃ E' (List.mem_of_getElem? e) hp hn hm (up _ hk)) (fun r s₄ h₄ => ⟨let ⟨⟨t, e⟩, _⟩ := h₄; ⟨c, u, t, rfl, e⟩, h₄.2⟩) fun _ _ e => e
  · intro D h' tk ys vs hnew hlD hplD hlen hP hF hk
    obtain ⟨L, e1, e2⟩ := paired_signs (l := l) (by simpa [tx] using hlen) (fun j v e => sg (hP j v e)) hF
    refine g3 D h' tk L ?_ ?_ e2 (up _ hk)
    · cases e : s₁.heap.get? D with
      | none => rfl
      | some o' => rw [show (s₁.heap.push o).get? D = some o' from Heap.get?_push_of_some _ e] at hnew; cases hnew
    · rw [e1]; simpa using hplD
end Mine
namespace Mine
theorem news_plain {h₀ h' : Heap} {L D : Addr} {m : Str → Option Value} {s₁ : Heap} {ys : Array Value} (F : Fr h₀ L s₁ m) (hD : s₁.get? D = none) (hp : h'.PlainList D ys) : ∃ n, News h₀ L h' [(D, listOf ys n)] := by
  obtain ⟨n, hn⟩ := hp
  refine ⟨n, fun p hp => ?_⟩
  rw [List.mem_singleton] at hp; subst hp
  refine ⟨hn, fun e => ?_, ?_⟩
  · have e' : D = L := e
    subst e'
    obtain ⟨o, _, _, ho, _⟩ := F.ns
    rw [hD] at ho; cases ho
  · cases e : h₀.get? D with
    | none => rfl
    | some o => have := F.keep _ _ e; rw [hD] at this; cases this
/-- a built-in name inside a comprehension -/
theorem nameGB {M : Model} {A : Around} {E : Value → Shared → Prop} {s : Shared} {K : Frag} {h₀ : Heap} {L : Addr} {m mg mb : Str → Option Value} {p : Program} {loose : List Str} {env : Env}
    {x : Str} {pos : Pos} {v : Value} {Q : Value → Shared → Prop} (F : Fr h₀ L s.heap m) (X : K.In h₀) (T : TopRead p loose mg mb h₀) (e : nsIn K mainGlobals x = some none) (hv : bootBuiltins x = some v) (hn : x ≠ "__name__") (h : Q v s)
    (hg : env.globals = mainGlobals) (hb : env.builtins = builtinsNs) (hk : env.scope.kind = .function) (hx : env.kindOf x = some .globalImplicit) (hd : (x == ("__debug__" : Str)) = false) :
    wpAny M A (eval (.Name x pos) env) Q E s :=
  Calls.Name_function_global hk hx (Calls.loadGlobal_builtin (env := env) (by rw [hg]; exact T.g.keeps F.keep) (mg_none_of X T.g e) (by rw [hb]; exact T.b.keeps F.keep) ((T.builtins x hn).trans hv) h) hd
end Mine
end

/- W5 -/
section
open PySem PySem.W PyProof.Rows
set_option Elab.async false
set_option maxRecDepth 100000
set_option maxHeartbeats 0
namespace Mine
theorem str_ext {a b : Str} (h : a.cps = b.cps) : a = b := by cases a; cases b; cases h; rfl
theorem join_tx : ∀ ls : List (List Nat), Txt.join (Str.ofString "") (ls.map tx) = tx ls.flatten := by
  intro ls
  show (Builtin.Str.glued (Str.ofString "") (ls.map tx)) = _
  rw [StrLaws.glued_eq_join]
  have e : Str.ofString "" = ⟨#[]⟩ := by rfl
  rw [e]
  induction ls with
  | nil => rfl
  | cons a r ih =>
    cases r with
    | nil => simp [Str.join]
    | cons b r =>
      rw [List.map_cons, List.map_cons, PyProof.Rows.join_cons_cons, ← List.map_cons, ih]
      rw [List.flatten_cons]
      apply str_ext; rw [PySem.Str.cps_append, PySem.Str.cps_append]; simp [tx]
theorem join_ok {ls : List (List Nat)} {B : Nat} (h : ∀ a ∈ ls, a.length ≤ B) (hn : ls.length * B ≤ 16777216) : JoinOk (Str.ofString "") (ls.map tx) = true := by
  unfold JoinOk
  rw [Bool.not_eq_true']
  refine StrLaws.joinFits (B := B) (fun y hy => ?_) ?_
  · obtain ⟨a, ha, rfl⟩ := List.mem_map.mp hy
    rw [tx_len]; exact h a ha
  · rw [List.length_map]; simpa [show (Str.ofString "").length = 0 from rfl] using hn
noncomputable def prep (l : List Nat) : List Nat := ((l.filter fun c => !b1 (c : Nat)).map m3).flatten
theorem prepared (w : World) (l : List Nat) (t : Tok) (s : Shared) (hl : l.length ≤ 100000) : Gives w 2 20 303 [.str (tx l) t] s (fun v _ => ∃ t', v = .str (tx (prep l)) t') := by
  intro A E Q hh C hd hu hQ
  obtain ⟨q, loose, mg, mb, T⟩ := C.T
  have X := C.K
  refine enter [(Str.ofString "text", .str (tx l) t)] C (by omega) rfl (by rfl) (by rfl) (by rfl) (fun h₁ F => ?_)
  have N : News s.heap s.heap.objs.size h₁ [] := News.nil
  iterate 7 walk1
  refine comp_signs (fun c => !b1 (c : Nat)) m3 hh ?_
  iterate 1 walk1
  refine ⟨l, t, rfl, Nat.le_trans hl (by decide), fun C' c u s₃ m₃ E' hc hn hm hk => ?_, fun C' c u s₃ m₃ E' hc hp hn hm hk => ?_, fun D h' tk L hD hL hL2 hk => ?_⟩
  · refine wpAny_tests_one ?_
    have F₃ := F.keeps hk
    have C₃ := C.keeps F₃.keep
    iterate 9 walk1
    refine ⟨C₃.K, ?_⟩
    refine in_b1 w c u s₃ _ _ _ hh C₃ (by show A.depth + 1 + 1 < _; omega) (by show A.units + 3 + 1 < _; omega) fun v s' k e => ?_
    dsimp only at e
    subst e
    iterate 1 walk1
    exact ⟨rfl, k⟩
  · have F₃ := F.keeps hk
    have C₃ := C.keeps F₃.keep
    iterate 7 walk1
    refine ⟨C₃.K, ?_⟩
    refine map_b3 w c u s₃ _ _ _ hh C₃ (by show A.depth + 1 + 1 < _; omega) (by show A.units + 3 + 1 < _; omega) fun v s' k e => ⟨e, k⟩
  · iterate 1 walk1
    have e2 : (List.map (fun c => tx (m3 c)) (List.filter (fun c => !b1 (c : Nat)) l)) = (((l.filter fun c => !b1 (c : Nat)).map m3).map tx) := by rw [List.map_map]; rfl
    refine SC.join hL.isList hL2 (by rw [e2]; exact join_ok (B := 4) (fun a ha => by obtain ⟨c, _, rfl⟩ := List.mem_map.mp ha; exact len_m3 c) (by rw [List.length_map]; have := List.length_filter_le (fun c => !b1 (c : Nat)) l; omega)) fun t' k => ?_
    refine hQ _ _ (keeps_of (F.keeps hk).keep) ⟨t', ?_⟩
    rw [e2, join_tx]; rfl
end Mine
end

/- W6 -/
section
open PySem PySem.W PyProof.Rows
set_option Elab.async false
set_option maxRecDepth 100000
set_option maxHeartbeats 0
namespace Mine
def esc1 (c : Nat) : List Nat := if c == 34 || c == 92 then [92, c] else [c]
def esc (l : List Nat) : List Nat := (l.map esc1).flatten
theorem quoted_in (c : Nat) : (Builtin.Str.occurrences (Str.ofString "\"\\") ⟨#[c]⟩ 0 (Str.ofString "\"\\").length 1).isEmpty = !(c == 34 || c == 92) := by
  rw [empty_one]
  have e : (Str.ofString "\"\\").cps.toList = [34, 92] := by rfl
  rw [e]; cases h1 : c == 34 <;> cases h2 : c == 92 <;> simp_all
theorem keeps_self (s : Shared) (h' : Heap) (tk : Nat) (k : ∀ b o, s.heap.get? b = some o → h'.get? b = some o) : PySem.Keeps s { s with heap := h', toks := tk } := ⟨h', tk, rfl, k⟩
theorem escaped (w : World) (l : List Nat) (t : Tok) (s : Shared) (hl : l.length ≤ 1000000) : Gives w 1 10 315 [.str (tx l) t] s (fun v _ => ∃ t', v = .str (tx (esc l)) t') := by
  intro A E Q hh C hd hu hQ
  obtain ⟨q, loose, mg, mb, T⟩ := C.T
  have X := C.K
  refine enter [(Str.ofString "text", .str (tx l) t)] C (by omega) rfl (by rfl) (by rfl) (by rfl) (fun h₁ F => ?_)
  have N : News s.heap s.heap.objs.size h₁ [] := News.nil
  iterate 7 walk1
  refine comp_signs (fun _ => true) esc1 hh ?_
  iterate 1 walk1
  refine ⟨l, t, rfl, Nat.le_trans hl (by decide), fun C' c u s₃ m₃ E' hc hn hm hk => ?_, fun C' c u s₃ m₃ E' hc hp hn hm hk => ?_, fun D h' tk L hD hL hL2 hk => ?_⟩
  · exact wpAny_tests_nil ⟨rfl, _, _, rfl, fun _ _ e => e⟩
  · have F₃ := F.keeps hk
    have C₃ := C.keeps F₃.keep
    iterate 7 walk1
    rw [quoted_in]
    cases e : (c == 34 || c == 92)
    · simp only [Bool.not_false, if_true]
      iterate 1 walk1
      exact ⟨⟨u, by simp [esc1, e]⟩, _, _, rfl, fun _ _ e => e⟩
    · simp only [Bool.not_true, Bool.false_eq_true, if_false]
      iterate 4 walk1
      have e3 : tx (esc1 c) = Str.ofString "\\" ++ ⟨#[c]⟩ := by
        apply str_ext; rw [PySem.Str.cps_append, show (Str.ofString "\\").cps = #[92] from rfl]; simp [esc1, e]
      rw [e3]
      exact ⟨⟨_, rfl⟩, _, _, rfl, fun _ _ e => e⟩
  · iterate 1 walk1
    have e2 : (List.map (fun c => tx (esc1 c)) (List.filter (fun _ => true) l)) = ((l.map esc1).map tx) := by rw [List.map_map, List.filter_eq_self.mpr (fun _ _ => rfl)]; rfl
    refine SC.join hL.isList hL2 (by rw [e2]; exact join_ok (B := 2) (fun a ha => by obtain ⟨c, _, rfl⟩ := List.mem_map.mp ha; unfold esc1; split <;> simp) (by rw [List.length_map]; omega)) fun t' k => ?_
    refine hQ _ _ (keeps_of (F.keeps hk).keep) ⟨t', ?_⟩
    rw [e2, join_tx]; rfl
end Mine
end

/- W7 -/
section
open PySem PySem.W PyProof.Rows
set_option Elab.async false
set_option maxRecDepth 100000
set_option maxHeartbeats 0
namespace Mine
def ctl (c : Nat) : Bool := c == 127 || (decide (c < 32) && c != 9)
def refused (l : List Nat) : Bool := l.any ctl
theorem one_eq (c d : Nat) : ((⟨#[c]⟩ : Str) == ⟨#[d]⟩) = (c == d) := by
  show decide _ = decide _
  simp
theorem one_ne (c d : Nat) : ((⟨#[c]⟩ : Str) != ⟨#[d]⟩) = (c != d) := by simp only [bne, one_eq]
theorem s127 : Str.ofString "\x7f" = ⟨#[127]⟩ := rfl
theorem s9 : Str.ofString "\t" = ⟨#[9]⟩ := rfl
theorem carried_strs : ∀ L : List (Str × Tok), CarriedAll (strValues L) (L.map fun p => PyData.str p.1)
  | [] => .nil
  | _ :: r => .cons (.str _ _) (carried_strs r)
theorem shaped_strs {L : List (Str × Tok)} (h : ∀ x ∈ L.map (·.1), PyData.strOk x = true) : SeqAt.shaped (.list (L.map fun p => PyData.str p.1)) = true := by
  have a : PyData.canLayAll0 (L.map fun p => PyData.str p.1) = true ∧ PyData.depthAll (L.map fun p => PyData.str p.1) = 0 := by
    induction L with
    | nil => exact ⟨rfl, rfl⟩
    | cons p r ih =>
      have := ih fun x hx => h x (.tail _ hx)
      have h1 := h p.1 (.head _)
      simp [PyData.canLayAll0, PyData.depthAll, PyData.canLay0, PyData.depth, this, h1]
  simp [SeqAt.shaped, PyData.canLay0, PyData.depth, a]
theorem refused_eq (l : List Nat) {L : List (Str × Tok)} (h : L.map (·.1) = ((l.filter ctl).map fun c => tx [c])) : (!PyData.eqv (.list (L.map fun p => PyData.str p.1)) (.list [])) = refused l := by
  cases L with
  | nil =>
    have e : l.filter ctl = [] := by simpa using h.symm
    have : refused l = false := by
      rw [refused, List.any_eq_false]; intro x hx; exact List.filter_eq_nil_iff.mp e x hx
    rw [this]; simp [PyData.eqv, PyData.eqvAll]
  | cons p r =>
    have : refused l = true := by
      cases e : l.filter ctl with
      | nil => rw [e] at h; simp at h
      | cons c q =>
        have := List.mem_filter.mp (e ▸ List.mem_cons_self : c ∈ l.filter ctl)
        rw [refused, List.any_eq_true]; exact ⟨c, this⟩
    rw [this]; simp [PyData.eqv, PyData.eqvAll]
theorem refusedG (w : World) (l : List Nat) (t : Tok) (s : Shared) (hl : l.length ≤ 1000000) : Gives w 1 100 320 [.str (tx l) t] s (fun v _ => v = .bool (refused l)) := by
  intro A E Q hh C hd hu hQ
  obtain ⟨q, loose, mg, mb, T⟩ := C.T
  have X := C.K
  refine enter [(Str.ofString "text", .str (tx l) t)] C (by omega) rfl (by rfl) (by rfl) (by rfl) (fun h₁ F => ?_)
  have N : News s.heap s.heap.objs.size h₁ [] := News.nil
  iterate 3 walk1
  refine comp_signs ctl (fun c => [c]) hh ?_
  iterate 1 walk1
  refine ⟨l, t, rfl, Nat.le_trans hl (by decide), fun C' c u s₃ m₃ E' hc hn hm hk => ?_, fun C' c u s₃ m₃ E' hc hp hn hm hk => ?_, fun D h' tk L hD hL hL2 hk => ?_⟩
  · refine wpAny_tests_one ?_
    have F₃ := F.keeps hk
    have C₃ := C.keeps F₃.keep
    iterate 5 walk1
    rw [s127, one_eq]
    cases e1 : c == 127
    · iterate 7 walk1
      refine nameGB (x := Str.ofString "ord") F₃ X T (by rfl) (by boot_fast) (by decide) ?_ (by rfl) (by rfl) (by rfl) (by rfl) (by decide)
      repeat' walk1
      all_goals first
        | exact ⟨_, _, rfl, fun _ _ e => e⟩
        | (rename_i a b; rw [s9, one_ne] at b; have a' : c < 32 := by omega
           simp only [ctl, e1, a', b, decide_true, Bool.or_true, Bool.and_true, Bool.and_false, Bool.or_false, Bool.false_or])
        | (rename_i a; have a' : ¬ c < 32 := by omega
           simp only [ctl, e1, a', decide_false, Bool.false_and, Bool.or_false])
    · iterate 2 walk1
      exact ⟨by simp [ctl, e1], _, _, rfl, fun _ _ e => e⟩
  · have F₃ := F.keeps hk
    have C₃ := C.keeps F₃.keep
    iterate 1 walk1
    exact ⟨⟨u, rfl⟩, _, _, rfl, fun _ _ e => e⟩
  · have F₃ := F.keeps hk
    obtain ⟨n, N₃⟩ := news_plain F hD hL
    iterate 3 walk1
    have N' := ‹News _ _ _ (_ :: _)›
    refine ne_dataH (reads_newData (ys := strValues L) (News.isList N' (.tail _ (.head _))) (carried_strs L)) (reads_newData (ys := []) (News.isList N' (.head _)) .nil) ?_ rfl ?_ ?_
    · refine shaped_strs fun x hx => ?_
      rw [hL2] at hx
      obtain ⟨c, hc, rfl⟩ := List.mem_map.mp hx
      have := (List.mem_filter.mp hc).2
      simp only [ctl, Bool.or_eq_true, Bool.and_eq_true, beq_iff_eq, decide_eq_true_eq] at this
      simp [PyData.strOk]
      omega
    · show A.units + 3 + 64 < _; omega
    · refine hQ _ _ (keeps_of (Fr.keep (by assumption))) ?_
      rw [refused_eq l hL2]
end Mine
end

/- W8 -/
section
open PySem PySem.W PyProof.Rows
set_option Elab.async false
set_option maxRecDepth 100000
set_option maxHeartbeats 0
namespace Mine
theorem tx_toList (l : List Nat) : (tx l).cps.toList = l := rfl
theorem slice_tx {l : List Nat} {i j : Int} (h : 0 ≤ i ∧ i ≤ j ∧ j ≤ l.length) : Txt.slice (tx l) (some i) (some j) = tx ((l.drop i.toNat).take (j - i).toNat) := eq_of_beq (slice_closes h)
theorem slice_tx_to {l : List Nat} {j : Int} (h : 0 ≤ j ∧ j ≤ l.length) : Txt.slice (tx l) none (some j) = tx (l.take j.toNat) := by
  rw [eq_of_beq (slice_closes_to h)]; simp
theorem slice_tx_from {l : List Nat} {i : Int} (h : 0 ≤ i ∧ i ≤ l.length) : Txt.slice (tx l) (some i) none = tx (l.drop i.toNat) := by
  have e : (tx l).length = l.length := tx_len l
  rw [slice_from_eq h.1 (by rw [e]; exact h.2) (b := (l.length : Int)) (by rw [e])]
  congr 2
  apply List.take_of_length_le
  rw [tx_toList, List.length_drop]; omega
def rd : List Nat → List Nat
  | [] => []
  | [c] => if c == 34 then [] else [c]
  | c :: d :: r => if c == 34 then (if d == 34 then 34 :: rd r else []) else c :: rd (d :: r)
def pm (R : Str) (t : Tok) (n i : Int) (d : Str) (tn ti td : Tok) (cv : Option Value) : Str → Option Value := fun y =>
  if y = Str.ofString "i" then some (.int i ti) else if y = Str.ofString "dirname" then some (.str d td) else if y = Str.ofString "n" then some (.int n tn) else if y = Str.ofString "c" then cv else if y = Str.ofString "resp" then some (.str R t) else none
theorem pm_start {R d : Str} (t : Tok) {n i : Int} {tn ti td : Tok} (y : Str) :
    (if y = Str.ofString "n" then some (Value.int n tn) else if y = Str.ofString "i" then some (Value.int i ti) else if y = Str.ofString "dirname" then some (Value.str d td) else List.lookup y [(Str.ofString "resp", Value.str R t)].reverse) = pm R t n i d tn ti td none y := by
  by_cases h1 : y = Str.ofString "i"; · subst h1; rfl
  by_cases h2 : y = Str.ofString "dirname"; · subst h2; rfl
  by_cases h3 : y = Str.ofString "n"; · subst h3; rfl
  by_cases h4 : y = Str.ofString "c"; · subst h4; rfl
  by_cases h5 : y = Str.ofString "resp"; · subst h5; rfl
  have h6 : (y == Str.ofString "resp") = false := beq_eq_false_iff_ne.mpr h5
  simp [pm, h1, h2, h3, h4, h5, h6, List.lookup]
theorem s34 : Str.ofString "\"" = ⟨#[34]⟩ := rfl
theorem item_tx {l : List Nat} {i : Int} {c : Nat} (h0 : 0 ≤ i) (e : l[i.toNat]? = some c) : Txt.item (tx l) i = ⟨#[c]⟩ := by
  unfold Txt.item
  have h := (List.getElem?_eq_some_iff.mp e).1
  have e1 : Txt.charAt (tx l) i = some c := by
    unfold Txt.charAt seqIndex?
    rw [tx_len]
    have h2 : i < (l.length : Int) := by omega
    simp [h0, h2, Int.not_lt.mpr h0]; exact (List.getElem?_eq_some_iff.mp e).2
  rw [e1]; rfl
theorem tx_snoc (l : List Nat) (c : Nat) : tx (l ++ [c]) = tx l ++ ⟨#[c]⟩ := by
  apply str_ext; rw [PySem.Str.cps_append]; simp
theorem pm_step1 {R d d' : Str} {t : Tok} {n i i' : Int} {tn ti td ti' td' : Tok} {cv cv' : Option Value} (y : Str) :
    (if y = Str.ofString "dirname" then some (Value.str d' td') else if y = Str.ofString "i" then some (Value.int i' ti') else if y = Str.ofString "c" then cv' else pm R t n i d tn ti td cv y) = pm R t n i' d' tn ti' td' cv' y := by
  by_cases h1 : y = Str.ofString "i"; · subst h1; rfl
  by_cases h2 : y = Str.ofString "dirname"; · subst h2; rfl
  by_cases h3 : y = Str.ofString "n"; · subst h3; rfl
  by_cases h4 : y = Str.ofString "c"; · subst h4; rfl
  simp [pm, h1, h2, h4]
theorem pm_step2 {R d d' : Str} {t : Tok} {n i i' i'' : Int} {tn ti td ti' ti'' td' : Tok} {cv cv' : Option Value} (y : Str) :
    (if y = Str.ofString "dirname" then some (Value.str d' td') else if y = Str.ofString "i" then some (Value.int i' ti') else if y = Str.ofString "i" then some (Value.int i'' ti'') else if y = Str.ofString "c" then cv' else pm R t n i d tn ti td cv y) = pm R t n i' d' tn ti' td' cv' y := by
  by_cases h1 : y = Str.ofString "i"; · subst h1; rfl
  by_cases h2 : y = Str.ofString "dirname"; · subst h2; rfl
  by_cases h3 : y = Str.ofString "n"; · subst h3; rfl
  by_cases h4 : y = Str.ofString "c"; · subst h4; rfl
  simp [pm, h1, h2, h4]
theorem parse (w : World) (l : List Nat) (t : Tok) (s : Shared) (hl : l.length ≤ 1000000) : Gives w 1 100 70 [.str (tx (50 :: 53 :: 55 :: 32 :: 34 :: l)) t] s (fun v _ => ∃ t', v = .str (tx (rd l)) t') := by
  intro A E Q hh C hd hu hQ
  obtain ⟨q, loose, mg, mb, T⟩ := C.T
  have X := C.K
  have hl5 : (tx (50 :: 53 :: 55 :: 32 :: 34 :: l)).length = l.length + 5 := by rw [tx_len]; rfl
  refine enter [(Str.ofString "resp", .str (tx (50 :: 53 :: 55 :: 32 :: 34 :: l)) t)] C (by omega) rfl (by rfl) (by rfl) (by rfl) (fun h₁ F => ?_)
  have N : News s.heap s.heap.objs.size h₁ [] := News.nil
  iterate 12 walk1
  rw [show Txt.slice (tx (50 :: 53 :: 55 :: 32 :: 34 :: l)) none (some 3) = Str.ofString "257" from by rw [slice_tx_to (by simp; omega)]; rfl]
  iterate 2 walk1
  rw [show (Str.ofString "257" != Str.ofString "257") = false from by decide]
  iterate 2 walk1
  iterate 14 walk1
  rw [show Txt.slice (tx (50 :: 53 :: 55 :: 32 :: 34 :: l)) (some 3) (some 5) = Str.ofString " \"" from by rw [slice_tx (by simp; omega)]; rfl]
  iterate 2 walk1
  rw [show (Str.ofString " \"" != Str.ofString " \"") = false from by decide]
  iterate 21 walk1
  rename_i F₂ N₂
  refine wpAny_execs_cons ?_
  refine While_inv2 (fun n m news => news = [] ∧ ∃ (k : Nat) (acc : List Nat) (ti td tn : Tok) (cv : Option Value), m = pm (tx (50 :: 53 :: 55 :: 32 :: 34 :: l)) t (l.length + 5) (k + 5) (tx acc) tn ti td cv ∧ k + n = l.length ∧ acc.length ≤ k ∧ acc ++ rd (l.drop k) = rd l) (n₀ := l.length) F₂ N₂ (by rw [tx_len]; exact ⟨rfl, 0, [], _, _, _, none, funext (pm_start t), by omega, by simp, by simp⟩) ?_
  · rintro n m₁ news₁ h₃ tk₁ F₃ N₃ ⟨rfl, k, acc, ti, td, tn, cv, rfl, hk, ha, he⟩
    clear F₂ N₂
    iterate 6 walk1
    · rename_i hlt
      obtain ⟨c, r, hr⟩ : ∃ c r, l.drop k = c :: r := by
        cases e : l.drop k with
        | nil => rw [List.drop_eq_nil_iff] at e; omega
        | cons c r => exact ⟨c, r, rfl⟩
      iterate 6 walk1
      rw [item_tx (l := 50 :: 53 :: 55 :: 32 :: 34 :: l) (c := c) (i := (k : Int) + 5) (by omega) (by rw [show ((k : Int) + 5).toNat = k + 5 from by omega]; simpa using congrArg List.head? hr)]
      iterate 14 walk1
      rw [s34, one_eq]
      cases hc : c == 34
      · repeat walk1
        refine ⟨_, _, _, _, n - 1, rfl, by assumption, by assumption, by omega, rfl, k + 1, acc ++ [c], _, _, _, _, (by rw [tx_snoc, show ((k + 1 : Nat) : Int) + 5 = (k : Int) + 5 + 1 from by omega]; exact funext pm_step1), by omega, by simp; omega, ?_⟩
        · rw [← he, List.append_assoc, show l.drop (k + 1) = r from by rw [← List.drop_drop, hr]; rfl, hr]
          cases r with
          | nil => simp [rd, hc]
          | cons d r' => simp [rd, hc]
      · iterate 12 walk1
        · rename_i hge
          have e : r = [] := by
            have := congrArg List.length hr
            rw [List.length_drop, List.length_cons] at this
            cases r with
            | nil => rfl
            | cons _ _ => simp at this; omega
          repeat walk1
          unfold WhileStep2
          dsimp only
          repeat walk1
          have he2 : acc = rd l := by rw [← he, hr, e]; simp [rd, hc]
          subst he2
          exact hQ _ _ (keeps_of (Fr.keep (by assumption))) ⟨_, rfl⟩
        · rename_i hlt2
          obtain ⟨d, r', rfl⟩ : ∃ d r', r = d :: r' := by
            cases r with
            | nil => have := congrArg List.length hr; rw [List.length_drop] at this; simp at this; omega
            | cons d r' => exact ⟨d, r', rfl⟩
          iterate 6 walk1
          rw [item_tx (l := 50 :: 53 :: 55 :: 32 :: 34 :: l) (c := d) (i := (k : Int) + 5 + 1) (by omega) (by rw [show ((k : Int) + 5 + 1).toNat = k + 1 + 5 from by omega]; have := congrArg (fun x => x[1]?) hr; simp only [List.getElem?_drop] at this; simpa using this)]
          iterate 2 walk1
          rw [one_ne]
          have hc' : c = 34 := beq_iff_eq.mp hc
          subst hc'
          cases hdd : d == 34
          · rw [show (d != 34) = true from by rw [bne, hdd]; rfl]
            repeat walk1
            unfold WhileStep2
            dsimp only
            repeat walk1
            have he2 : acc = rd l := by rw [← he, hr]; simp [rd, hdd]
            subst he2
            exact hQ _ _ (keeps_of (Fr.keep (by assumption))) ⟨_, rfl⟩
          · rw [show (d != 34) = false from by rw [bne, hdd]; rfl]
            repeat walk1
            refine ⟨_, _, _, _, n - 2, rfl, by assumption, by assumption, by omega, rfl, k + 2, acc ++ [34], _, _, _, _, (by rw [tx_snoc, show ((k + 2 : Nat) : Int) + 5 = (k : Int) + 5 + 1 + 1 from by omega]; exact funext pm_step2), ?_, by simp; omega, ?_⟩
            · have := congrArg List.length hr
              rw [List.length_drop] at this; simp at this; omega
            · rw [← he, List.append_assoc, show l.drop (k + 2) = r' from by rw [← List.drop_drop, hr]; rfl, hr]
              simp [rd, hdd]
    · rename_i hge
      have e : l.drop k = [] := by rw [List.drop_eq_nil_iff]; omega
      repeat walk1
      rw [e, rd, List.append_nil] at he
      subst he
      exact hQ _ _ (keeps_of (Fr.keep (by assumption))) ⟨_, rfl⟩
theorem rd_len : ∀ l : List Nat, (rd l).length ≤ l.length
  | [] => Nat.le_refl _
  | [c] => by unfold rd; split <;> simp
  | c :: d :: r => by
    unfold rd
    have h1 := rd_len r
    have h2 := rd_len (d :: r)
    split
    · split <;> simp <;> omega
    · simp at h2 ⊢; omega
theorem read (w : World) (l : List Nat) (t : Tok) (s : Shared) (hl : l.length ≤ 100000) : Gives w 2 200 298 [.str (tx l) t] s (fun v _ => ∃ t', v = .str (tx (rd l)) t') := by
  intro A E Q hh C hd hu hQ
  obtain ⟨q, loose, mg, mb, T⟩ := C.T
  have X := C.K
  have hl2 : (tx l).length = l.length := tx_len l
  refine enter [(Str.ofString "text", .str (tx l) t)] C (by omega) rfl (by rfl) (by rfl) (by rfl) (fun h₁ F => ?_)
  have N : News s.heap s.heap.objs.size h₁ [] := News.nil
  iterate 10 walk1
  rw [show Str.ofString "257 \"" ++ tx l = tx (50 :: 53 :: 55 :: 32 :: 34 :: l) from by apply str_ext; rw [PySem.Str.cps_append, show (Str.ofString "257 \"").cps = #[50, 53, 55, 32, 34] from rfl]; simp]
  iterate 1 walk1
  have C₁ := C.keeps F.keep
  refine ⟨C₁.K, ?_⟩
  refine parse w l _ _ (by omega) _ _ _ hh C₁ (by show A.depth + 1 + 1 < _; omega) (by show A.units + 3 + 100 < _; omega) fun v s' k e => ?_
  exact hQ _ _ (keeps_trans (keeps_of F.keep) k) e
end Mine
end

/- W9 -/
section
open PySem PySem.W PyProof.Rows
set_option Elab.async false
set_option maxRecDepth 100000
set_option maxHeartbeats 0
namespace Mine
def Txts (h : Heap) (v : Value) (ls : List (List Nat)) : Prop := ∃ D L, v = .ref D ∧ h.IsList D (strValues L).toArray ∧ L.map (·.1) = ls.map tx
theorem Txts.keeps {h h' : Heap} {v : Value} {ls : List (List Nat)} (x : Txts h v ls) (k : ∀ b o, h.get? b = some o → h'.get? b = some o) : Txts h' v ls :=
  let ⟨D, L, e, hl, hL⟩ := x; ⟨D, L, e, hl.at fun o e => k _ _ e, hL⟩
theorem txts_get {L : List (Str × Tok)} {ls : List (List Nat)} (h : L.map (·.1) = ls.map tx) {k : Nat} {a : List Nat} (e : ls[k]? = some a) : ∃ t, (strValues L)[k]? = some (.str (tx a) t) := by
  have e1 := congrArg (fun x => x[k]?) h
  simp only [List.getElem?_map, e, Option.map_some] at e1
  cases q : L[k]? with
  | none => rw [q] at e1; cases e1
  | some p =>
    rw [q] at e1
    injection e1 with e1
    exact ⟨p.2, by unfold strValues; rw [List.getElem?_map, q, Option.map_some, ← e1]⟩
theorem tx_beq (a b : List Nat) : (tx a == tx b) = (a == b) := by
  show decide _ = _
  by_cases h : a = b
  · subst h; simp
  · have : ¬ tx a = tx b := fun e => h (by injection e with e; simpa using e)
    rw [decide_eq_false this]; symm; exact beq_eq_false_iff_ne.mpr h
theorem item_list {w : World} {A : Around} {E : Value → Shared → Prop} {s : Shared} {value slice : Expr} {l : Addr} {items : Array Value} {k : Int} {u : Tok} {v : Value} {Q : Value → Shared → Prop} (hL : s.heap.IsList l items) (h0 : 0 ≤ k) (hhi : k < 2 ^ 63) (hx : items[k.toNat]? = some v) (h : Q v s)
    (hs : subscripted slice false (.ref l) (.int k u) = operate [.ref l, .int k u] (getItem (.ref l) (.int k u)) := by with_unfolding_all rfl) :
    wpAny (model pg w) A (subscriptTail value slice (.ref l) (.int k u)) Q E s :=
  tail_any hL.typeIs slot_list_getitem.lookup (wpAny_getItem_list hL h0 hhi hx h) hs
def tldGo : List (List Nat) → List (List Nat) → List Nat
  | _ :: b :: r, x :: _ :: q => if x == [] then 34 :: (b ++ tldGo r q) else []
  | _, _ => []
def tld (sh as : List (List Nat)) : List Nat := sh.headD [] ++ tldGo (sh.drop 1) (as.drop 1)
def tm (v1 v2 : Value) (k : Int) (d : Str) (tk td : Tok) : Str → Option Value := fun y =>
  if y = Str.ofString "k" then some (.int k tk) else if y = Str.ofString "told" then some (.str d td) else if y = Str.ofString "asked" then some v2 else if y = Str.ofString "shown" then some v1 else none
theorem tm_start {v1 v2 : Value} {k : Int} {d : Str} {tk td : Tok} (y : Str) :
    (if y = Str.ofString "k" then some (Value.int k tk) else if y = Str.ofString "told" then some (Value.str d td) else List.lookup y [(Str.ofString "shown", v1), (Str.ofString "asked", v2)].reverse) = tm v1 v2 k d tk td y := by
  by_cases h1 : y = Str.ofString "k"; · subst h1; rfl
  by_cases h2 : y = Str.ofString "told"; · subst h2; rfl
  by_cases h3 : y = Str.ofString "asked"; · subst h3; rfl
  by_cases h4 : y = Str.ofString "shown"; · subst h4; rfl
  have h5 : (y == Str.ofString "shown") = false := beq_eq_false_iff_ne.mpr h4
  have h6 : (y == Str.ofString "asked") = false := beq_eq_false_iff_ne.mpr h3
  simp [tm, h1, h2, h3, h4, h5, h6, List.lookup]
theorem tm_step {v1 v2 : Value} {k k' : Int} {d d' : Str} {tk tk' td td' : Tok} (y : Str) :
    (if y = Str.ofString "k" then some (Value.int k' tk') else if y = Str.ofString "told" then some (Value.str d' td') else tm v1 v2 k d tk td y) = tm v1 v2 k' d' tk' td' y := by
  by_cases h1 : y = Str.ofString "k"; · subst h1; rfl
  by_cases h2 : y = Str.ofString "told"; · subst h2; rfl
  simp [tm, h1, h2]
theorem tx_cat34 (a b : List Nat) : tx (a ++ 34 :: b) = tx a ++ Str.ofString "\"" ++ tx b := by
  apply str_ext; rw [PySem.Str.cps_append, PySem.Str.cps_append, show (Str.ofString "\"").cps = #[34] from rfl]; simp
theorem told (w : World) (v1 v2 : Value) (sh as : List (List Nat)) (s : Shared) (h1 : Txts s.heap v1 sh) (h2 : Txts s.heap v2 as) (hn : sh ≠ []) (hlen : sh.length = as.length) (hz : sh.length ≤ 1000000) (hsz : (tld sh as).length ≤ 1000000) :
    Gives w 1 100 327 [v1, v2] s (fun v _ => ∃ t', v = .str (tx (tld sh as)) t') := by
  intro A E Q hh C hd hu hQ
  obtain ⟨q, loose, mg, mb, T⟩ := C.T
  have X := C.K
  obtain ⟨D1, L1, rfl, hl1, hL1⟩ := h1
  obtain ⟨D2, L2, rfl, hl2, hL2⟩ := h2
  obtain ⟨a, sh', rfl⟩ := List.exists_cons_of_ne_nil hn
  refine enter [(Str.ofString "shown", .ref D1), (Str.ofString "asked", .ref D2)] C (by omega) rfl (by rfl) (by rfl) (by rfl) (fun h₁ F => ?_)
  have N : News s.heap s.heap.objs.size h₁ [] := News.nil
  have hl1' := hl1.at (h' := h₁) fun o e => F.keep _ _ e
  obtain ⟨t0, ht0⟩ := txts_get hL1 (k := 0) (a := a) rfl
  iterate 5 walk1
  refine item_list hl1' (by decide) (by decide) (by simpa using ht0) ?_
  iterate 5 walk1
  rename_i F₂ N₂
  refine wpAny_execs_cons ?_
  refine While_inv2 (fun n m news => news = [] ∧ ∃ (k : Nat) (acc : List Nat) (tk td : Tok), m = tm (.ref D1) (.ref D2) k (tx acc) tk td ∧ (k ≤ (a :: sh').length) ∧ n = (a :: sh').length - k ∧ acc ++ tldGo ((a :: sh').drop k) (as.drop k) = tld (a :: sh') as) (n₀ := sh'.length) F₂ N₂ ⟨rfl, 1, a, _, _, funext tm_start, by simp, by simp, by rfl⟩ ?_
  rintro n m₁ news₁ h₃ tk₁ F₃ N₃ ⟨rfl, k, acc, tk, td, rfl, hk, hn, he⟩
  clear F₂ N₂
  have hl1 := hl1.at (h' := h₃) fun o e => F₃.keep _ _ e
  have hl2 := hl2.at (h' := h₃) fun o e => F₃.keep _ _ e
  iterate 12 walk1
  have sz1 : (strValues L1).toArray.size = (a :: sh').length := by
    have := congrArg List.length hL1
    simpa [strValues] using this
  refine Calls.call_len_list hl1 (by rw [sz1]; omega) ?_
  rw [sz1]
  iterate 3 walk1
  · rename_i hlt
    have hk2 : k + 1 < (a :: sh').length := by omega
    obtain ⟨x, hx⟩ : ∃ x, as[k]? = some x := ⟨_, List.getElem?_eq_getElem (by omega)⟩
    obtain ⟨b, hb⟩ : ∃ b, (a :: sh')[k + 1]? = some b := ⟨_, List.getElem?_eq_getElem hk2⟩
    obtain ⟨tx', htx⟩ := txts_get hL2 hx
    obtain ⟨tb, htb⟩ := txts_get hL1 hb
    have d1 : (a :: sh').drop k = (a :: sh')[k] :: b :: (a :: sh').drop (k + 2) := by
      rw [List.drop_eq_getElem_cons (by omega), List.drop_eq_getElem_cons hk2, (List.getElem?_eq_some_iff.mp hb).2]
    have d2 : as.drop k = x :: as[k + 1] :: as.drop (k + 2) := by
      rw [List.drop_eq_getElem_cons (by omega), List.drop_eq_getElem_cons (by omega : k + 1 < as.length), (List.getElem?_eq_some_iff.mp hx).2]
    rw [d1, d2, tldGo] at he
    iterate 5 walk1
    refine item_list hl2 (by omega) (by omega) (by simpa using htx) ?_
    iterate 2 walk1
    rw [show Str.ofString "" = tx [] from rfl, tx_beq]
    cases hxe : x == []
    · repeat walk1
      rw [hxe] at he
      simp only [Bool.false_eq_true, if_false, List.append_nil] at he
      subst he
      exact hQ _ _ (keeps_of (Fr.keep (by assumption))) ⟨_, rfl⟩
    · rw [hxe] at he
      simp only [if_true] at he
      have z := congrArg List.length he
      simp only [List.length_append, List.length_cons] at z
      have z1 : (tx acc).length = acc.length := tx_len _
      have z2 : (tx b).length = b.length := tx_len _
      repeat walk1
      refine item_list hl1 (by omega) (by omega) (by rw [show ((k : Int) + 1).toNat = k + 1 from by omega]; simpa using htb) ?_
      repeat walk1
      refine ⟨_, _, _, _, (a :: sh').length - (k + 2), rfl, by assumption, by assumption, by omega, rfl, k + 2, acc ++ 34 :: b, _, _, (by rw [tx_cat34, show ((k + 2 : Nat) : Int) = (k : Int) + 2 from by omega]; exact funext tm_step), by omega, rfl, by rw [← he]; simp⟩
  · rename_i hge
    repeat walk1
    have e : tldGo ((a :: sh').drop k) (as.drop k) = [] := by
      by_cases e : k = (a :: sh').length
      · rw [e, List.drop_length]; rfl
      · rw [List.drop_eq_getElem_cons (by omega), List.drop_eq_nil_iff.mpr (by omega : (a :: sh').length ≤ k + 1)]
        unfold tldGo; rfl
    rw [e, List.append_nil] at he
    subst he
    exact hQ _ _ (keeps_of (Fr.keep (by assumption))) ⟨_, rfl⟩
end Mine
end

/- R1 -/
section
open PySem PySem.W PyProof.Rows
set_option Elab.async false
set_option maxRecDepth 100000
set_option maxHeartbeats 0
namespace Mine
theorem plainAttrs_pat : PlainAttrs "re.Pattern" :=
  ⟨⟨"object.__getattribute__", by rw [typeLookup_type, builtinLookup_eq_fast]; kernel_rfl, by decide +kernel⟩, by rw [typeLookup_type, builtinLookup_eq_fast]; kernel_rfl⟩
theorem owner_pat : Manifest.owners.lookup (String.ofList ['n','r','e','t','t','a','P','.','e','r'].reverse) = some Manifest.sig_re_Pattern := by kernel_rfl
theorem slot_search : Slot "re.Pattern" "search" "re.Pattern.search" :=
  .of (owner := "re.Pattern") (n := "search") (by rw [typeLookup_type, builtinLookup_eq_fast]; kernel_rfl) (by decide +kernel) (by decide +kernel) (by decide +kernel)
    (by first | exact .inl (by decide +kernel) | exact .inr (by decide +kernel)) (by rw [isSubtype_type]; kernel_rfl)
theorem type_search : typeOf (.builtin "re.Pattern.search") = pure (.type "method_descriptor") := by show builtinType _ = _; rw [builtinType_eq_fast]; kernel_rfl
theorem entry_search : entryFor table "re.Pattern.search" = some Builtin.«re.Pattern.search» := entryFor_of_tree (by kernel_rfl)
theorem args_search (a b : Value) : argsOk "re.Pattern.search" ⟨[a, b], []⟩ := by
  unfold argsOk; rw [signature?_of (id := "re.Pattern.search") (n := ['h','c','r','a','e','s']) (o := ['n','r','e','t','t','a','P','.','e','r']) (by kernel_rfl) owner_pat]; kernel_rfl
end Mine
end

/- R2 -/
section
open PySem PySem.W PyProof.Rows
set_option Elab.async false
set_option maxRecDepth 100000
set_option maxHeartbeats 0
namespace Mine
open PySem.Sre
def vc : Array Nat := #[14, 14, 4, 1, 1, 9, 4294966783, 0, 0, 2147483648, 0, 0, 0, 0, 0, 13, 11, 9, 4294966783, 0, 0, 2147483648, 0, 0, 0, 0, 0, 1]
theorem bit_ctl (c : Nat) (k : Nat) (hk : k = 5 ∨ k = 17) : (decide (c < 256) && (vc.getD (k + (1 + c / 32)) 0).testBit (c % 32)) = ctl c := by
  by_cases h : c < 256
  · have : ∀ c, c < 256 → ∀ k, k = 5 ∨ k = 17 → (decide (c < 256) && (vc.getD (k + (1 + c / 32)) 0).testBit (c % 32)) = ctl c := by
      intro c h k hk
      rcases hk with rfl | rfl
      · revert h; revert c; decide +kernel
      · revert h; revert c; decide +kernel
    exact this c h k hk
  · have e : ctl c = false := by
      simp only [ctl, Bool.or_eq_false_iff, Bool.and_eq_false_iff, beq_eq_false_iff_ne, decide_eq_false_iff_not]
      exact ⟨by omega, .inl (by omega)⟩
    rw [e, decide_eq_false h, Bool.false_and]
theorem inSet_v (c n : Nat) (seen : Sre.Seen) (k : Nat) (hk : k = 5 ∨ k = 17) : ∃ seen', inSet vc c (n + 2) k true seen = .ok (ctl c, seen') := by
  have e := bit_ctl c k hk
  have o1 : ops[vc.getD (k + 0) 0]? = some .CHARSET := by rcases hk with rfl | rfl <;> rfl
  have o2 : ops[vc.getD (k + 9 + 0) 0]? = some .FAILURE := by rcases hk with rfl | rfl <;> rfl
  unfold inSet
  simp only [o1]
  by_cases h : ctl c = true
  · rw [h] at e ⊢
    exact ⟨seen.add (vc.getD (k + 0) 0), by rw [if_pos (by simpa using e)]⟩
  · have h' : ctl c = false := by simpa using h
    rw [h'] at e ⊢
    refine ⟨(seen.add (vc.getD (k + 0) 0)).add (vc.getD (k + 9 + 0) 0), ?_⟩
    rw [if_neg (by rw [e]; simp)]
    unfold inSet
    simp only [o2]
    rfl
theorem admitted_v (m : M) (hc : m.code = vc) : ∀ (fuel s : Nat) (seen : Sre.Seen), m.lim - s ≤ fuel →
    ((∃ i, s ≤ i ∧ i < m.lim ∧ ctl (m.text.getD i 0) = true ∧ ∃ seen', M.admitted m fuel s seen = .ok (some i, seen')) ∨ ((∀ i, s ≤ i → i < m.lim → ctl (m.text.getD i 0) = false) ∧ ∃ seen', M.admitted m fuel s seen = .ok (none, seen')))
  | 0, s, seen, h => .inr ⟨fun i h1 h2 => by omega, seen, rfl⟩
  | fuel + 1, s, seen, h => by
    unfold M.admitted
    by_cases hs : s ≥ m.lim
    · rw [if_pos hs]; exact .inr ⟨fun i h1 h2 => by omega, seen, rfl⟩
    · rw [if_neg hs, hc]
      obtain ⟨seen', e⟩ := inSet_v (m.text.getD s 0) 26 seen 5 (.inl rfl)
      rw [show vc.size = 26 + 2 from rfl, e]
      cases q : ctl (m.text.getD s 0) with
      | true => exact .inl ⟨s, Nat.le_refl _, by omega, q, seen', rfl⟩
      | false =>
        rcases admitted_v m hc fuel (s + 1) seen' (by omega) with ⟨i, h1, h2, h3, h4⟩ | ⟨h1, h2⟩
        · exact .inl ⟨i, by omega, h2, h3, h4⟩
        · refine .inr ⟨fun i h3 h4 => ?_, h2⟩
          rcases Nat.eq_or_lt_of_le h3 with rfl | h5
          · exact q
          · exact h1 i h5 h4
theorem exec_in (m : M) (seen : Sre.Seen) (h0 : ops[m.word 0]? = some .IN) (h1 : ¬ m.pos ≥ m.lim) (h2 : accepts m.code m.pc (m.text.getD m.pos 0) (m.seen.add (m.word 0)) = .ok (true, seen)) :
    m.exec = { m with seen := seen, pc := m.pc + itemWidth m.code m.pc, pos := m.pos + 1 } := by
  unfold M.exec
  simp only [h0]
  rw [if_neg h1]
  simp only [h2]
def m0 (text : Array Nat) (lim : Nat) : M := { code := vc, text := text, lim := lim, start := 0, lastStart := lim, pc := 15, pos := 0, handed := 0, marks := Array.replicate 0 none, mustAdvance := false, seen := ({} : Sre.Seen).add 14 }
def m0' (text : Array Nat) (lim : Nat) : M := { code := vc, text := text, lim := lim, start := 0, pc := 15, pos := 0, handed := 0, marks := Array.replicate 0 none, mustAdvance := false, seen := ({} : Sre.Seen).add 14 }
theorem forSearch_v (text : Array Nat) (lim : Nat) : forSearch vc text 0 0 lim false = if (decide (0 > lim) || decide (lim - 0 < 1)) = true then (m0' text lim).say false else (m0 text lim).attemptFrom 0 true := rfl
theorem fail4 (m : M) (h1 : m.outcome = none) (h2 : m.answer = some false) (h3 : m.frames = []) : (m.runFor 4).outcome = some .failed := by
  have s1 : m.step = { m with outcome := some .failed } := by
    unfold M.step; rw [h1]; simp only [Option.isSome_none, Bool.false_eq_true, if_false, h2, h3]
  unfold M.runFor
  rw [h1, s1]
  rfl
def m1 (text : Array Nat) (lim i : Nat) (seen : Sre.Seen) : M := { m0 text lim with mustAdvance := false, seen := seen, start := i, pos := i, frames := [{ wait := .nextStart, pc := 15, pos := i, outermost := true }], weight := 1, handed := i, outermost := true, lastmark := -1, lastindex := -1 }
theorem hit4 (text : Array Nat) (lim i : Nat) (hi : i < lim) (hc : ctl (text.getD i 0) = true) (seen : Sre.Seen) : (({ m0 text lim with mustAdvance := false, seen := seen } : M).attemptAt i true |>.runFor 4).outcome = some .matched := by
  obtain ⟨seen', e⟩ := inSet_v (text.getD i 0) 26 (seen.add 13) 17 (.inr rfl)
  have hm1 : ({ m0 text lim with mustAdvance := false, seen := seen } : M).attemptAt i true = m1 text lim i seen := rfl
  have s1 : (m1 text lim i seen).step = { m1 text lim i seen with seen := seen', pc := 27, pos := i + 1 } := by
    have s0 : (m1 text lim i seen).step = (m1 text lim i seen).exec := by kernel_rfl
    rw [s0]
    rw [exec_in _ seen' rfl (by show ¬ i ≥ lim; omega) (by rw [hc] at e; exact e)]
    rfl
  rw [hm1]
  show (M.runFor 3 (m1 text lim i seen).step).outcome = _
  rw [s1]
  rfl
/-- the search of a text for a sign that no header may hold -/
theorem search_v (text : Array Nat) : 
    ((∃ i, i < text.size ∧ ctl (text.getD i 0) = true) ∧ ((forSearch vc text 0 0 text.size false).runFor 4).outcome = some .matched) ∨
    ((∀ i, i < text.size → ctl (text.getD i 0) = false) ∧ ((forSearch vc text 0 0 text.size false).runFor 4).outcome = some .failed) := by
  rw [forSearch_v]
  by_cases h0 : text.size = 0
  · right
    refine ⟨fun i hi => by omega, ?_⟩
    rw [if_pos (by rw [h0]; rfl)]
    exact fail4 _ rfl rfl rfl
  · rw [if_neg (by rw [show (decide (0 > text.size) || decide (text.size - 0 < 1)) = false from by rw [Bool.or_eq_false_iff]; exact ⟨decide_eq_false (by omega), decide_eq_false (by omega)⟩]; decide)]
    unfold M.attemptFrom
    rw [show (m0 text text.size).hasFirstSet = true from rfl]
    simp only [Bool.not_true, Bool.false_eq_true, if_false]
    rcases admitted_v (m0 text text.size) rfl (text.size + 1) 0 (m0 text text.size).seen (by show text.size - 0 ≤ _; omega) with ⟨i, h1, h2, h3, seen', h4⟩ | ⟨h1, seen', h2⟩
    · left
      refine ⟨⟨i, h2, h3⟩, ?_⟩
      rw [show (m0 text text.size).lim + 1 - 0 = text.size + 1 from rfl, h4]
      exact hit4 text text.size i h2 h3 seen'
    · right
      refine ⟨fun i hi => h1 i (Nat.zero_le _) hi, ?_⟩
      rw [show (m0 text text.size).lim + 1 - 0 = text.size + 1 from rfl, h2]
      exact fail4 _ rfl rfl rfl
end Mine
end

/- R3 -/
section
open PySem PySem.W PyProof.Rows
set_option Elab.async false
set_option maxRecDepth 100000
set_option maxHeartbeats 0
namespace Mine
open PySem.Builtin.Re
theorem named_search (x : Str) (t : Tok) : reNamed "re.Pattern.search" "search" ["string", "pos", "endpos"] 1 [.str x t] [] = pure [some (.str x t), none, none] := by
  rfl
structure Pat (h : Heap) (a : Addr) (code : Array Nat) : Prop where
  obj : ∃ p0 t1 t2 t6 b f, h.get? a = some ⟨.type "re.Pattern", none, .fields #[p0, f, .int 0 t2, .none, .none, .ref b, .int 0 t6], #[]⟩ ∧ ∃ oc xs n, h.get? b = some oc ∧ oc.data = .seq xs n ∧ (xs.map reRawOf).map (·.toNat) = code ∧ t1 = t2
theorem target_search {M : Model} {A : Around} {E : Value → Shared → Prop} {s : Shared} {a : Addr} {x : Str} {t : Tok} {code : Array Nat} {Q : ReTarget → Shared → Prop} (P : Pat s.heap a code) (hx : x.cps.size < 2 ^ 62)
    (h : Q { pattern := .ref a, string := .str x t, code := code, text := x.cps, kind := 0, groups := 0, pos := 0, lim := x.cps.size } s) :
    wpAny M A (reTarget "re.Pattern.search" "search" ⟨[.ref a, .str x t], []⟩) Q E s := by
  obtain ⟨p0, t1, t2, t6, b, f, hp, oc, xs, n, hc, hd, hcode, _⟩ := P.obj
  unfold reTarget
  simp only [named_search]
  refine wpAny_bind (wpAny_pure ?_)
  dsimp only
  refine wpAny_bind (wpAny_pure ?_)
  refine wpAny_bind (wpAny_pure ?_)
  refine wpAny_bind (wpAny_fieldsOf hp rfl ?_)
  refine wpAny_bind (m := reTextOf _) ?_
  have ht : reTextOf (.str x t) = pure (x.cps, 0) := rfl
  rw [ht]
  refine wpAny_pure ?_
  have w6 : reRawNat ((#[p0, f, .int 0 t2, .none, .none, .ref b, .int 0 t6] : Array Value).getD 6 .none) = 0 := rfl
  have w2 : reRawNat ((#[p0, f, .int 0 t2, .none, .none, .ref b, .int 0 t6] : Array Value).getD 2 .none) = 0 := rfl
  have w5 : (#[p0, f, .int 0 t2, .none, .none, .ref b, .int 0 t6] : Array Value).getD 5 .none = .ref b := rfl
  have c1 : ((0 : Nat) == 0 && (0 : Nat) == 1) = false := rfl
  have c2 : ((0 : Nat) == 1 && (0 : Nat) == 0) = false := rfl
  simp only [w6, w2, w5, c1, c2, Bool.false_eq_true, if_false]
  refine wpAny_bind (m := reNoCollectionInside _ _) (wpAny_pure ?_)
  refine wpAny_bind (m := reRawItems _) ?_
  unfold reRawItems
  refine wpAny_bind (wpAny_seqItems hc hd ?_)
  refine wpAny_pure (wpAny_pure ?_)
  have e1 : min (Int.toNat 0) x.cps.size = 0 := Nat.zero_min _
  have e2 : min (Int.toNat (2 ^ 63 - 1)) x.cps.size = x.cps.size := by
    have : Int.toNat (2 ^ 63 - 1) = 9223372036854775807 := by decide
    omega
  rw [e1, e2]
  show Q { pattern := _, string := _, code := (xs.map reRawOf).map fun x => x.toNat, text := _, kind := _, groups := _, pos := _, lim := _ } s
  rw [hcode]
  exact h
theorem rules_unit {M : Model} {A : Around} {E : Value → Shared → Prop} {α : Type} {f : α → PUnit → Sem (ForInStep PUnit)} (hf : ∀ a s (Q : ForInStep PUnit → Shared → Prop), Q (.yield ⟨⟩) s → wpAny M A (f a ⟨⟩) Q E s) :
    ∀ (l : List α) (s : Shared) (Q : PUnit → Shared → Prop), Q ⟨⟩ s → wpAny M A (forIn l ⟨⟩ f) Q E s
  | [], s, Q, h => wpAny_pure h
  | a :: r, s, Q, h => by
    rw [List.forIn_cons]
    refine wpAny_bind (hf a s _ ?_)
    exact rules_unit hf r s Q h
theorem run_search {M : Model} {A : Around} {E : Value → Shared → Prop} {s : Shared} {m : Sre.M} {o : Sre.Outcome} {Q : Option Sre.M → Shared → Prop} (ho : (m.runFor 4).outcome = some o)
    (h1 : o = .matched → Q (some (m.runFor 4)) s) (h2 : o = .failed → Q none s) (h3 : o = .matched ∨ o = .failed) : wpAny M A (reRunToEnd m) Q E s := by
  unfold reRunToEnd
  have e : reDrive (2 ^ 64) m = pure (m.runFor 4) := by
    show (if (m.runFor reTurnSteps).outcome.isSome then pure (m.runFor reTurnSteps) else _) = _
    rw [show reTurnSteps = 4 from rfl, ho]; rfl
  rw [e]
  refine wpAny_bind (wpAny_pure ?_)
  refine wpAny_bind (rules_unit (fun i s Q h => ?_) _ s _ ?_)
  · split
    · exact wpAny_bind (wpAny_rule (wpAny_pure h))
    · exact wpAny_pure h
  · rw [ho]
    rcases h3 with rfl | rfl
    · exact wpAny_pure (h1 rfl)
    · exact wpAny_pure (h2 rfl)
theorem answer_search {M : Model} {A : Around} {E : Value → Shared → Prop} {s : Shared} {t : ReTarget} (hg : t.groups = 0) {m : Sre.M} {o : Sre.Outcome} {Q : Fin → Shared → Prop} (ho : (m.runFor 4).outcome = some o)
    (h1 : o = .matched → ∀ h' r vs, (∀ b o, s.heap.get? b = some o → h'.get? b = some o) → h'.get? r = some ⟨.type "re.Match", none, .fields vs, #[]⟩ → s.heap.get? r = none → Q (.done (.ret (.ref r))) { s with heap := h' }) (h2 : o = .failed → Q (.done (.ret .none)) s) (h3 : o = .matched ∨ o = .failed) : wpAny M A (reAnswer t m) Q E s := by
  unfold reAnswer
  refine wpAny_bind (run_search ho (fun e => ?_) (fun e => ?_) h3)
  · unfold reNewMatch
    rw [hg]
    simp only [List.range_zero, List.flatMap_nil, List.any_nil, Bool.false_eq_true, if_false]
    refine wpAny_bind (wpAny_bind (wpAny_newTuple ?_ (Nat.le_of_ble_eq_true rfl)))
    refine wpAny_newObj_type (data := .fields _) ?_ (Nat.le_of_ble_eq_true rfl)
    refine wpAny_pure (h1 e _ _ _ (fun b o e => Heap.get?_push_of_some _ (Heap.get?_push_of_some _ e)) (Heap.get?_push_size _ rfl) (Heap.get?_none_of_le (by simp)))
  · exact wpAny_pure (h2 e)
/-- a search in a text by a pattern whose machine ends in one turn -/
theorem call_search {w : World} {A : Around} {E Q : Value → Shared → Prop} {s : Shared} {a : Addr} {x : Str} {t : Tok} {code : Array Nat} (P : Pat s.heap a code) (hx : x.cps.size < 2 ^ 62) {o : Sre.Outcome}
    (ho : ((Sre.forSearch code x.cps 0 0 x.cps.size false).runFor 4).outcome = some o) (h3 : o = .matched ∨ o = .failed)
    (h1 : o = .matched → ∀ h' r vs, (∀ b o, s.heap.get? b = some o → h'.get? b = some o) → h'.get? r = some ⟨.type "re.Match", none, .fields vs, #[]⟩ → s.heap.get? r = none → Q (.ref r) { s with heap := h' }) (h2 : o = .failed → Q .none s) :
    wpAny (model pg w) A (call (.builtin "re.Pattern.search") [.ref a, .str x t]) Q E s := by
  have hT : s.TypeIs (.ref a) "re.Pattern" := by
    obtain ⟨p0, t1, t2, t6, b, f, hp, _⟩ := P.obj
    exact ⟨_, hp, rfl⟩
  refine call_meets (S := fun A R s => Pat s.heap a code ∧ (o = .matched → ∀ h' r vs, (∀ b o, s.heap.get? b = some o → h'.get? b = some o) → h'.get? r = some ⟨.type "re.Match", none, .fields vs, #[]⟩ → s.heap.get? r = none → R (.ok (.ret (.ref r))) { s with heap := h' }) ∧ (o = .failed → R (.ok (.ret .none)) s)) slot_search hT entry_search (args_search _ _) ?_ ⟨P, h1, h2⟩
  rintro prog w A R s ⟨P, h1, h2⟩
  unfold Builtin.«re.Pattern.search»
  refine wpAny_bind (target_search P hx ?_)
  exact answer_search rfl ho h1 h2 h3
theorem method_search {M : Model} {A : Around} {E : Value → Shared → Prop} {s : Shared} {a : Addr} {code : Array Nat} {pl : Sem Bool} {Q : Value × List Value → Shared → Prop} (P : Pat s.heap a code) (h : Q (.builtin "re.Pattern.search", [.ref a]) s) :
    wpAny M A (getMethod (.ref a) "search" pl) Q E s := by
  obtain ⟨p0, t1, t2, t6, b, f, hp, _⟩ := P.obj
  exact getMethod_builtin ⟨_, hp, rfl⟩ plainAttrs_pat slot_search type_search (fun a e => by injection e with e; subst e; exact ⟨_, hp, rfl⟩) h
def nc : Array Nat := #[14, 10, 4, 1, 1, 22, 0, 31, 16, 127, 0, 13, 7, 22, 0, 31, 16, 127, 0, 1]
theorem pat_v {P : Params} {h : Heap} (X : (Mine.K P).In h) : Pat h 149 vc := ⟨_, 0, _, _, _, _, X 149 _ rfl, _, _, _, X 148 _ rfl, rfl, by kernel_rfl, rfl⟩
theorem pat_n {P : Params} {h : Heap} (X : (Mine.K P).In h) : Pat h 144 nc := ⟨_, 0, _, _, _, _, X 144 _ rfl, _, _, _, X 143 _ rfl, rfl, by kernel_rfl, rfl⟩
theorem name_ok1 : ((Sre.forSearch nc (Str.ofString "kind").cps 0 0 (Str.ofString "kind").cps.size false).runFor 4).outcome = some .failed := by kernel_rfl
theorem name_ok2 : ((Sre.forSearch nc (Str.ofString "Name").cps 0 0 (Str.ofString "Name").cps.size false).runFor 4).outcome = some .failed := by kernel_rfl
theorem name_ok3 : ((Sre.forSearch nc (Str.ofString "name").cps 0 0 (Str.ofString "name").cps.size false).runFor 4).outcome = some .failed := by kernel_rfl
end Mine
end

/- R4 -/
section
open PySem PySem.W PyProof.Rows
set_option Elab.async false
set_option maxRecDepth 100000
set_option maxHeartbeats 0
namespace Mine
theorem noBool_match : typeLookup (.type "re.Match") "__bool__" = pure none := by rw [typeLookup_type, builtinLookup_eq_fast]; kernel_rfl
theorem noLen_match : typeLookup (.type "re.Match") "__len__" = pure none := by rw [typeLookup_type, builtinLookup_eq_fast]; kernel_rfl
theorem truthy_match {M : Model} {A : Around} {E : Value → Shared → Prop} {s : Shared} {r : Addr} {vs : Array Value} {Q : Bool → Shared → Prop} (h : s.heap.get? r = some ⟨.type "re.Match", none, .fields vs, #[]⟩) (hQ : Q true s) : wpAny M A (truthy (.ref r)) Q E s := by
  have hT : s.TypeIs (.ref r) "re.Match" := ⟨_, h, rfl⟩
  unfold truthy
  refine wpAny_bind (wpAny_callSpecial?_none (name := Str.ofString "__bool__") hT noBool_match ?_)
  refine wpAny_bind (wpAny_specialOf (name := Str.ofString "__len__") hT noLen_match ?_)
  exact wpAny_pure hQ
end Mine
end

/- W11 -/
section
open PySem PySem.W PyProof.Rows
set_option Elab.async false
set_option maxRecDepth 100000
set_option maxHeartbeats 0
namespace Mine
/-- a hand's outcome: a text, or the empty list -/
def Ov (h : Heap) (v : Value) : Option (List Nat) → Prop
  | none => ∃ D, v = .ref D ∧ h.IsList D #[]
  | some l => ∃ t, v = .str (tx l) t
theorem Ov.keeps {h h' : Heap} {v : Value} {o : Option (List Nat)} (x : Ov h v o) (k : ∀ b o, h.get? b = some o → h'.get? b = some o) : Ov h' v o := by
  cases o with
  | none => obtain ⟨D, e, hl⟩ := x; exact ⟨D, e, hl.at fun o e => k _ _ e⟩
  | some l => exact x
def clo (tl shn : List Nat) : Option (List Nat) := if refused tl then none else if tl == [] then some [] else some (esc shn ++ [34])
theorem esc_len (l : List Nat) : (esc l).length ≤ 2 * l.length := by
  induction l with
  | nil => exact Nat.le_refl _
  | cons c r ih =>
    have : esc (c :: r) = esc1 c ++ esc r := rfl
    have h1 : (esc1 c).length ≤ 2 := by unfold esc1; split <;> simp
    rw [this, List.length_append, List.length_cons]; omega
theorem tx_snoc34 (l : List Nat) : tx (l ++ [34]) = tx l ++ Str.ofString "\"" := by rw [tx_snoc]; rfl
theorem closed (w : World) (tl shn : List Nat) (t t2 : Tok) (s : Shared) (h1 : tl.length ≤ 100000) (h2 : shn.length ≤ 100000) :
    Gives w 3 200 334 [.str (tx tl) t, .str (tx shn) t2] s (fun v h => Ov h v (clo tl shn)) := by
  intro A E Q hh C hd hu hQ
  obtain ⟨q, loose, mg, mb, T⟩ := C.T
  have X := C.K
  refine enter [(Str.ofString "told", .str (tx tl) t), (Str.ofString "shown", .str (tx shn) t2)] C (by omega) rfl (by rfl) (by rfl) (by rfl) (fun h₁ F => ?_)
  have N : News s.heap s.heap.objs.size h₁ [] := News.nil
  have C₁ := C.keeps F.keep
  repeat walk1
  refine refusedG w tl t _ (by omega) _ _ _ hh C₁ (by show A.depth + 1 + 1 < _; omega) (by show A.units + 3 + 100 < _; omega) fun v s' k e => ?_
  dsimp only at e
  subst e
  obtain ⟨h₂, tk₂, rfl, k₂⟩ := k
  have F₂ := F.keeps k₂
  have C₂ := C₁.keeps k₂
  have N₂ : News s.heap s.heap.objs.size h₂ [] := News.nil
  dsimp only at F₂ C₂ N₂ ⊢
  clear F N
  repeat walk1
  · rename_i hr _ _ _ _ _
    refine hQ _ _ (keeps_of (Fr.keep (by assumption))) ?_
    rw [clo, if_pos hr]
    exact ⟨_, rfl, News.isList (by assumption) (.head _)⟩
  · rename_i hr
    iterate 7 walk1
    rw [show Str.ofString "" = tx [] from rfl, tx_beq]
    cases ht : tl == []
    · repeat walk1
      refine escaped w shn t2 _ (by omega) _ _ _ hh C₂ (by show A.depth + 1 + 1 < _; omega) (by show A.units + 3 + 10 < _; omega) fun v s' k e => ?_
      obtain ⟨t', rfl⟩ := e
      obtain ⟨h₃, tk₃, rfl, k₃⟩ := k
      have F₃ := F₂.keeps k₃
      have N₃ : News s.heap s.heap.objs.size h₃ [] := News.nil
      have hz := esc_len shn
      have hz2 : (tx (esc shn)).length = (esc shn).length := tx_len _
      dsimp only at F₃ N₃ ⊢
      clear F₂ N₂
      repeat walk1
      refine hQ _ _ (keeps_of (Fr.keep (by assumption))) ?_
      rw [clo, hr, ht, ← tx_snoc34]
      exact ⟨_, rfl⟩
    · repeat walk1
      refine hQ _ _ (keeps_of (Fr.keep (by assumption))) ?_
      rw [clo, hr, ht]
      exact ⟨_, rfl⟩
end Mine
end

/- W12 -/
section
open PySem PySem.W PyProof.Rows
set_option Elab.async false
set_option maxRecDepth 100000
set_option maxHeartbeats 0
namespace Mine
def fstT (sh as : List (List Nat)) : List Nat := if sh.length == 1 then [] else if sh.length == 2 && as[1]?.getD [] == [] then [92, 34] else [92]
def fst (sh as : List (List Nat)) : Option (List Nat) := if refused sh.flatten then none else some (esc (sh.headD []) ++ fstT sh as)
theorem tx_snoc92 (l : List Nat) : tx (l ++ [92]) = tx l ++ Str.ofString "\\" := by rw [tx_snoc]; rfl
theorem tx_snoc9234 (l : List Nat) : tx (l ++ [92, 34]) = tx l ++ Str.ofString "\\\"" := by
  apply str_ext; rw [PySem.Str.cps_append, show (Str.ofString "\\\"").cps = #[92, 34] from rfl]; simp
theorem first (w : World) (v1 v2 : Value) (sh as : List (List Nat)) (s : Shared) (h1 : Txts s.heap v1 sh) (h2 : Txts s.heap v2 as) (hn : sh ≠ []) (hlen : sh.length = as.length) (hz : sh.length ≤ 1000) (hsz : ∀ a ∈ sh, a.length ≤ 1000) :
    Gives w 3 200 341 [v1, v2] s (fun v h => Ov h v (fst sh as)) := by
  intro A E Q hh C hd hu hQ
  obtain ⟨q, loose, mg, mb, T⟩ := C.T
  have X := C.K
  obtain ⟨D1, L1, rfl, hl1, hL1⟩ := h1
  obtain ⟨D2, L2, rfl, hl2, hL2⟩ := h2
  obtain ⟨a, sh', rfl⟩ := List.exists_cons_of_ne_nil hn
  refine enter [(Str.ofString "shown", .ref D1), (Str.ofString "asked", .ref D2)] C (by omega) rfl (by rfl) (by rfl) (by rfl) (fun h₁ F => ?_)
  have N : News s.heap s.heap.objs.size h₁ [] := News.nil
  have C₁ := C.keeps F.keep
  have hl1' := hl1.at (h' := h₁) fun o e => F.keep _ _ e
  obtain ⟨t0, ht0⟩ := txts_get hL1 (k := 0) (a := a) rfl
  have sz1 : (strValues L1).toArray.size = (a :: sh').length := by
    have := congrArg List.length hL1
    simpa [strValues] using this
  have hfl : (a :: sh').flatten.length ≤ 1000000 := by
    have : ∀ l : List (List Nat), (∀ x ∈ l, x.length ≤ 1000) → l.flatten.length ≤ l.length * 1000 := by
      intro l
      induction l with
      | nil => intro _; exact Nat.le_refl _
      | cons x r ih => intro h; have := ih fun y hy => h y (.tail _ hy); have := h x (.head _); rw [List.flatten_cons, List.length_append, List.length_cons]; omega
    have := this (a :: sh') hsz; omega
  have ha : a.length ≤ 1000 := hsz a (.head _)
  have hz' : sh'.length + 1 ≤ 1000 := hz
  repeat walk1
  refine SC.join hl1' hL1 (join_ok (B := 1000) hsz (by omega)) fun t' _ => ?_
  rw [join_tx]
  repeat walk1
  refine refusedG w (a :: sh').flatten t' _ hfl _ _ _ hh C₁ (by show A.depth + 1 + 1 < _; omega) (by show A.units + 3 + 100 < _; omega) fun v s' k e => ?_
  dsimp only at e
  subst e
  obtain ⟨h₂, tk₂, rfl, k₂⟩ := k
  have F₂ := F.keeps k₂
  have C₂ := C₁.keeps k₂
  have N₂ : News s.heap s.heap.objs.size h₂ [] := News.nil
  have hl2' := hl1'.at (h' := h₂) fun o e => k₂ _ _ e
  dsimp only at F₂ C₂ N₂ ⊢
  clear F N
  repeat walk1
  · rename_i hr _ _ _ _ _
    refine hQ _ _ (keeps_of (Fr.keep (by assumption))) ?_
    rw [fst, if_pos hr]
    exact ⟨_, rfl, News.isList (by assumption) (.head _)⟩
  rename_i hr
  repeat walk1
  refine item_list hl2' (by decide) (by decide) (by simpa using ht0) ?_
  repeat walk1
  refine escaped w a t0 _ (by omega) _ _ _ hh C₂ (by show A.depth + 1 + 1 < _; omega) (by show A.units + 3 + 10 < _; omega) fun v s' k e => ?_
  obtain ⟨t', rfl⟩ := e
  obtain ⟨h₃, tk₃, rfl, k₃⟩ := k
  have F₃ := F₂.keeps k₃
  have N₃ : News s.heap s.heap.objs.size h₃ [] := News.nil
  have hz3 := esc_len a
  have hz4 : (tx (esc a)).length = (esc a).length := tx_len _
  dsimp only at F₃ N₃ ⊢
  clear F₂ N₂ C₁ hl1' hl2'
  repeat walk1
  · refine hQ _ _ (keeps_of (Fr.keep (by assumption))) ?_
    have e1 : (a :: sh').length = 1 := by omega
    rw [fst, hr, fstT, e1]
    simp only [Bool.false_eq_true, if_false, List.headD_cons, beq_self_eq_true, if_true, List.append_nil]
    exact ⟨_, rfl⟩
  have e1 : (a :: sh').length ≠ 1 := by omega
  have e1' : ((a :: sh').length == 1) = false := beq_eq_false_iff_ne.mpr e1
  repeat walk1
  · have e2 : (a :: sh').length = 2 := by omega
    have e2' : ((a :: sh').length == 2) = true := beq_iff_eq.mpr e2
    obtain ⟨x, hx⟩ : ∃ x, as[1]? = some x := ⟨_, List.getElem?_eq_getElem (by omega)⟩
    obtain ⟨tx', htx⟩ := txts_get hL2 hx
    refine item_list (hl2.at fun o e => Fr.keep (by assumption) _ _ e) (by decide) (by decide) (by simpa using htx) ?_
    iterate 2 walk1
    rw [show Str.ofString "" = tx [] from rfl, tx_beq]
    cases hxe : x == []
    · repeat walk1
      refine hQ _ _ (keeps_of (Fr.keep (by assumption))) ?_
      rw [fst, hr, fstT, e1', e2', hx]
      simp only [Bool.false_eq_true, if_false, List.headD_cons, if_true, Option.getD_some, hxe, Bool.and_false, Bool.true_and]
      exact ⟨_, by rw [tx_snoc92]⟩
    · repeat walk1
      refine hQ _ _ (keeps_of (Fr.keep (by assumption))) ?_
      rw [fst, hr, fstT, e1', e2', hx]
      simp only [Bool.false_eq_true, if_false, List.headD_cons, if_true, Option.getD_some, hxe, Bool.and_self]
      exact ⟨_, by rw [tx_snoc9234]⟩
  · have e2 : (a :: sh').length ≠ 2 := by omega
    have e2' : ((a :: sh').length == 2) = false := beq_eq_false_iff_ne.mpr e2
    repeat walk1
    refine hQ _ _ (keeps_of (Fr.keep (by assumption))) ?_
    rw [fst, hr, fstT, e1', e2']
    simp only [Bool.false_eq_true, if_false, List.headD_cons, Bool.false_and]
    exact ⟨_, by rw [tx_snoc92]⟩
end Mine
end

/- P1 -/
section
open PySem PySem.W PyProof.Rows
set_option Elab.async false
set_option maxRecDepth 100000
set_option maxHeartbeats 0
namespace Mine
def rep (c : Nat) (z : List Nat) (l : List Nat) : List Nat := (l.map fun k => if k = c then z else [k]).flatten
theorem rep_append (c : Nat) (z a b : List Nat) : rep c z (a ++ b) = rep c z a ++ rep c z b := by simp [rep]
theorem rep_free (c : Nat) (z : List Nat) : ∀ l : List Nat, c ∉ l → rep c z l = l
  | [], _ => rfl
  | k :: r, h => by
    have h1 : ¬ k = c := fun e => h (e ▸ List.mem_cons_self ..)
    have ih := rep_free c z r fun m => h (List.mem_cons_of_mem _ m)
    show (if k = c then z else [k]) ++ rep c z r = _
    rw [if_neg h1, ih]; rfl
theorem rep_join (c : Nat) (z : List Nat) : ∀ parts : List Str, (∀ p ∈ parts, c ∉ p.cps.toList) → rep c z (Str.join ⟨#[c]⟩ parts).cps.toList = (Str.join (tx z) parts).cps.toList
  | [], _ => rfl
  | [p], h => rep_free c z _ (h p (List.mem_singleton.mpr rfl))
  | p :: q :: r, h => by
    have ih := rep_join c z (q :: r) fun a ha => h a (List.mem_cons_of_mem _ ha)
    show rep c z (p ++ ⟨#[c]⟩ ++ Str.join ⟨#[c]⟩ (q :: r)).cps.toList = (p ++ tx z ++ Str.join (tx z) (q :: r)).cps.toList
    simp only [Str.cps_append, Array.toList_append]
    rw [rep_append, rep_append, ih, rep_free c z _ (h p (List.mem_cons_self ..))]
    have e : rep c z [c] = z := by simp [rep]
    rw [e]
theorem replace_tx (l : List Nat) (c : Nat) (z : List Nat) : Txt.replace (tx l) ⟨#[c]⟩ (tx z) = tx (rep c z l) := by
  have h := rep_join c z _ (StrLaws.split_free (tx l) c)
  rw [StrLaws.join_split] at h
  rw [StrLaws.replace_one]
  apply str_ext
  rw [← Array.toArray_toList (xs := (Str.join (tx z) (Txt.split (tx l) ⟨#[c]⟩)).cps), ← h]
theorem esc_rep : ∀ l : List Nat, rep 34 [92, 34] (rep 92 [92, 92] l) = esc l
  | [] => rfl
  | k :: r => by
    have ih := esc_rep r
    have e : rep 92 [92, 92] (k :: r) = (if k = 92 then [92, 92] else [k]) ++ rep 92 [92, 92] r := rfl
    have e2 : esc (k :: r) = esc1 k ++ esc r := rfl
    rw [e, rep_append, ih, e2]
    congr 1
    by_cases h : k = 92
    · subst h; rfl
    · rw [if_neg h]
      by_cases h2 : k = 34
      · subst h2; rfl
      · simp [rep, esc1, h, h2]
theorem esc_replace (l : List Nat) : Txt.replace (Txt.replace (tx l) (Str.ofString "\\") (Str.ofString "\\\\")) (Str.ofString "\"") (Str.ofString "\\\"") = tx (esc l) := by
  rw [show Str.ofString "\\" = ⟨#[92]⟩ from rfl, show Str.ofString "\\\\" = tx [92, 92] from rfl, show Str.ofString "\"" = ⟨#[34]⟩ from rfl, show Str.ofString "\\\"" = tx [92, 34] from rfl, replace_tx, replace_tx, esc_rep]
/-- the pieces between the marks -/
def sp : List Nat → List (List Nat)
  | [] => [[]]
  | c :: r => if c = 34 then [] :: sp r else match sp r with
    | [] => [[c]]
    | p :: q => (c :: p) :: q
theorem sp_ne : ∀ l, sp l ≠ []
  | [] => by simp [sp]
  | c :: r => by unfold sp; split; · simp
                 · split <;> simp
def jn : List (List Nat) → List Nat
  | [] => []
  | [p] => p
  | p :: q :: r => p ++ 34 :: jn (q :: r)
theorem jn_sp : ∀ l, jn (sp l) = l
  | [] => rfl
  | c :: r => by
    have ih := jn_sp r
    have hn := sp_ne r
    unfold sp
    cases h : sp r with
    | nil => exact absurd h hn
    | cons p q =>
      rw [h] at ih
      by_cases e : c = 34
      · subst e; rw [if_pos rfl]; show [] ++ 34 :: jn (p :: q) = _; rw [ih]; rfl
      · rw [if_neg e]
        cases q with
        | nil => show c :: p = _; rw [← ih]; rfl
        | cons q q' => show c :: p ++ 34 :: jn (q :: q') = _; rw [← ih]; rfl
theorem sp_free : ∀ l, ∀ p ∈ sp l, 34 ∉ p
  | [], p, h => by simp [sp] at h; subst h; simp
  | c :: r, p, h => by
    have ih := sp_free r
    unfold sp at h
    by_cases e : c = 34
    · rw [if_pos e] at h
      rcases List.mem_cons.mp h with rfl | h
      · simp
      · exact ih p h
    · rw [if_neg e] at h
      cases hs : sp r with
      | nil => exact absurd hs (sp_ne r)
      | cons a b =>
        rw [hs] at h ih
        rcases List.mem_cons.mp h with rfl | h
        · intro m
          rcases List.mem_cons.mp m with e' | m
          · exact e e'.symm
          · exact ih a (.head _) m
        · exact ih p (.tail _ h)
theorem sp_free_one : ∀ p : List Nat, 34 ∉ p → sp p = [p]
  | [], _ => rfl
  | c :: r, h => by
    have ih := sp_free_one r fun m => h (.tail _ m)
    have e : ¬ c = 34 := fun e => h (e ▸ .head _)
    unfold sp; rw [if_neg e, ih]
theorem sp_app : ∀ (p r : List Nat), 34 ∉ p → sp (p ++ 34 :: r) = p :: sp r
  | [], r, _ => by show (if 34 = 34 then [] :: sp r else _) = _; rw [if_pos rfl]
  | c :: p, r, h => by
    have ih := sp_app p r fun m => h (.tail _ m)
    have e : ¬ c = 34 := fun e => h (e ▸ .head _)
    show (if c = 34 then [] :: sp (p ++ 34 :: r) else match sp (p ++ 34 :: r) with | [] => [[c]] | p :: q => (c :: p) :: q) = _
    rw [if_neg e, ih]
theorem sp_jn : ∀ parts : List (List Nat), parts ≠ [] → (∀ p ∈ parts, 34 ∉ p) → sp (jn parts) = parts
  | [], h, _ => absurd rfl h
  | [p], _, h => sp_free_one p (h p (.head _))
  | p :: q :: r, _, h => by
    show sp (p ++ 34 :: jn (q :: r)) = _
    rw [sp_app _ _ (h p (.head _)), sp_jn (q :: r) (by simp) fun x hx => h x (.tail _ hx)]
theorem join_jn : ∀ parts : List (List Nat), Str.join ⟨#[34]⟩ (parts.map tx) = tx (jn parts)
  | [] => rfl
  | [_] => rfl
  | p :: q :: r => by
    have ih := join_jn (q :: r)
    show tx p ++ ⟨#[34]⟩ ++ Str.join ⟨#[34]⟩ ((q :: r).map tx) = tx (p ++ 34 :: jn (q :: r))
    rw [ih]
    apply str_ext; rw [Str.cps_append, Str.cps_append]; simp [tx]
theorem txt_tx (x : Str) : tx x.cps.toList = x := by apply str_ext; simp
theorem split_tx (l : List Nat) : Txt.split (tx l) ⟨#[34]⟩ = (sp l).map tx := by
  have h1 := StrLaws.join_split (tx l) ⟨#[34]⟩
  have h2 := StrLaws.split_free (tx l) 34
  have hne : Txt.split (tx l) ⟨#[34]⟩ ≠ [] := by
    intro e
    rw [e] at h1
    have h3 : l = [] := by injection h1 with h1; have := congrArg Array.toList h1; simpa using this.symm
    subst h3
    revert e; decide +kernel
  generalize Txt.split (tx l) ⟨#[34]⟩ = ps at *
  obtain ⟨qs, rfl⟩ : ∃ qs : List (List Nat), ps = qs.map tx := by
    refine ⟨ps.map fun x => x.cps.toList, ?_⟩
    rw [List.map_map]
    conv => lhs; rw [← List.map_id ps]
    exact List.map_congr_left fun x _ => (txt_tx x).symm
  rw [join_jn] at h1
  have h3 : jn qs = l := by injection h1 with h1; simpa using h1
  rw [← h3, sp_jn qs (by intro e; exact hne (by rw [e]; rfl)) fun p hp => h2 (tx p) (List.mem_map_of_mem hp)]
end Mine
end

/- P2 -/
section
open PySem PySem.W PyProof.Rows
set_option Elab.async false
set_option maxRecDepth 100000
set_option maxHeartbeats 0
namespace Mine
noncomputable def pr1 (c : Nat) : List Nat := if b1 (c : Nat) then [] else m3 c
theorem prep_flat (l : List Nat) : prep l = (l.map pr1).flatten := by
  induction l with
  | nil => rfl
  | cons c r ih =>
    have e : prep (c :: r) = pr1 c ++ prep r := by
      unfold prep pr1
      by_cases h : b1 (c : Nat) = true
      · rw [List.filter_cons_of_neg (by simp [h])]; simp [h]
      · rw [List.filter_cons_of_pos (by simp [h])]; simp [h]
    rw [e, ih]; rfl
theorem prep_append (a b : List Nat) : prep (a ++ b) = prep a ++ prep b := by simp [prep_flat]
theorem prep_nil : prep [] = [] := rfl
theorem prep_cons (c : Nat) (r : List Nat) : prep (c :: r) = pr1 c ++ prep r := by simp [prep_flat]
/-- what a sign of the text must be -/
structure G (c : Nat) : Prop where
  mark : c = 34 → pr1 c = [34]
  back : c = 92 → pr1 c = [92]
  free : c ≠ 34 → c ≠ 92 → 34 ∉ pr1 c ∧ 92 ∉ pr1 c
  ctrl : (pr1 c).any ctl = ctl c
  small : c < 1114112
  smalls : ∀ x ∈ pr1 c, x < 1114112
def Gs (l : List Nat) : Prop := ∀ c ∈ l, G c
theorem Gs.tail {c : Nat} {l : List Nat} (h : Gs (c :: l)) : Gs l := fun d hd => h d (.tail _ hd)
theorem refused_prep : ∀ {l : List Nat}, Gs l → refused (prep l) = refused l
  | [], _ => rfl
  | c :: r, h => by
    rw [prep_cons]
    have ih := refused_prep h.tail
    unfold refused at *
    rw [List.any_append, ih, (h c (.head _)).ctrl]; rfl
theorem esc_append (a b : List Nat) : esc (a ++ b) = esc a ++ esc b := by simp [esc]
theorem esc_free : ∀ {l : List Nat}, 34 ∉ l → 92 ∉ l → esc l = l
  | [], _, _ => rfl
  | c :: r, h1, h2 => by
    have ih := esc_free (l := r) (fun m => h1 (.tail _ m)) (fun m => h2 (.tail _ m))
    have e1 : c ≠ 34 := fun e => h1 (e ▸ .head _)
    have e2 : c ≠ 92 := fun e => h2 (e ▸ .head _)
    show esc1 c ++ esc r = _
    rw [ih]; simp [esc1, e1, e2]
theorem prep_esc (h34 : pr1 34 = [34]) (h92 : pr1 92 = [92]) : ∀ {l : List Nat}, Gs l → prep (esc l) = esc (prep l)
  | [], _ => rfl
  | c :: r, h => by
    have ih := prep_esc h34 h92 h.tail
    have g := h c (.head _)
    have e : esc (c :: r) = esc1 c ++ esc r := rfl
    rw [e, prep_append, ih, prep_cons, esc_append]
    congr 1
    by_cases h1 : c = 34
    · subst h1; rw [show esc1 34 = [92, 34] from rfl, prep_cons, prep_cons, prep_nil, h34, h92]; rfl
    · by_cases h2 : c = 92
      · subst h2; rw [show esc1 92 = [92, 92] from rfl, prep_cons, prep_cons, prep_nil, h92]; rfl
      · obtain ⟨f1, f2⟩ := g.free h1 h2
        rw [esc_free f1 f2, show esc1 c = [c] from by simp [esc1, h1, h2], prep_cons, prep_nil, List.append_nil]
theorem sp_pre : ∀ (p l : List Nat), 34 ∉ p → ∀ a b, sp l = a :: b → sp (p ++ l) = (p ++ a) :: b
  | [], l, _, a, b, e => e
  | c :: p, l, h, a, b, e => by
    have ih := sp_pre p l (fun m => h (.tail _ m)) a b e
    have e1 : ¬ c = 34 := fun e => h (e ▸ .head _)
    show (if c = 34 then [] :: sp (p ++ l) else match sp (p ++ l) with | [] => [[c]] | p :: q => (c :: p) :: q) = _
    rw [if_neg e1, ih]; rfl
theorem sp_prep (h34 : pr1 34 = [34]) : ∀ {l : List Nat}, Gs l → sp (prep l) = (sp l).map prep
  | [], _ => rfl
  | c :: r, h => by
    have ih := sp_prep h34 h.tail
    have g := h c (.head _)
    by_cases h1 : c = 34
    · subst h1
      rw [prep_cons, h34]
      show [] :: sp (prep r) = List.map prep ([] :: sp r)
      rw [ih]; rfl
    · have f1 : 34 ∉ pr1 c := by
        by_cases h2 : c = 92
        · rw [g.back h2]; decide
        · exact (g.free h1 h2).1
      rw [prep_cons]
      cases hs : sp r with
      | nil => exact absurd hs (sp_ne r)
      | cons a b =>
        rw [hs] at ih
        rw [sp_pre (pr1 c) (prep r) f1 (prep a) (b.map prep) ih]
        show _ = List.map prep (if c = 34 then [] :: sp r else match sp r with | [] => [[c]] | p :: q => (c :: p) :: q)
        rw [if_neg h1, hs]
        show _ = prep (c :: a) :: b.map prep
        rw [prep_cons]
/-- a reading by the pieces -/
theorem rd_go : ∀ (n : Nat) (l : List Nat), l.length ≤ n → ∀ a b, sp l = a :: b → rd l = a ++ tldGo b b
  | 0, [], _, a, b, e => by
    have : sp [] = [[]] := rfl
    rw [this] at e; injection e with e1 e2; subst e1; subst e2; rfl
  | n + 1, [], _, a, b, e => by
    have : sp [] = [[]] := rfl
    rw [this] at e; injection e with e1 e2; subst e1; subst e2; rfl
  | n + 1, [c], _, a, b, e => by
    by_cases h : c = 34
    · subst h
      have : sp [34] = [[], []] := rfl
      rw [this] at e; injection e with e1 e2; subst e1; subst e2; rfl
    · have : sp [c] = [[c]] := by
        show (if c = 34 then _ else _) = _
        rw [if_neg h]; rfl
      rw [this] at e; injection e with e1 e2; subst e1; subst e2
      simp [rd, h, tldGo]
  | n + 1, c :: d :: r, hl, a, b, e => by
    by_cases h : c = 34
    · subst h
      have e0 : sp (34 :: d :: r) = [] :: sp (d :: r) := rfl
      rw [e0] at e; injection e with e1 e2; subst e1; subst e2
      by_cases h2 : d = 34
      · subst h2
        have e3 : sp (34 :: r) = [] :: sp r := rfl
        rw [e3]
        cases hs : sp r with
        | nil => exact absurd hs (sp_ne r)
        | cons p q =>
          have ih := rd_go n r (by simp at hl; omega) p q hs
          rw [show rd (34 :: 34 :: r) = 34 :: rd r from by simp [rd], ih]
          rfl
      · have hd : (d == 34) = false := beq_eq_false_iff_ne.mpr h2
        rw [show rd (34 :: d :: r) = [] from by simp [rd, hd]]
        cases hs : sp r with
        | nil => exact absurd hs (sp_ne r)
        | cons p q =>
          have e3 : sp (d :: r) = (d :: p) :: q := by
            show (if d = 34 then _ else _) = _
            rw [if_neg h2, hs]
          rw [e3]
          cases q with
          | nil => rfl
          | cons q q' => rfl
    · have hc : (c == 34) = false := beq_eq_false_iff_ne.mpr h
      cases hs : sp (d :: r) with
      | nil => exact absurd hs (sp_ne _)
      | cons p q =>
        have ih := rd_go n (d :: r) (by simp at hl ⊢; omega) p q hs
        have e3 : sp (c :: d :: r) = (c :: p) :: q := by
          show (if c = 34 then _ else _) = _
          rw [if_neg h, hs]
        rw [e3] at e; injection e with e1 e2; subst e1; subst e2
        show (if (c == 34) = true then _ else c :: rd (d :: r)) = _
        rw [hc, ih]; rfl
theorem rd_tld (l : List Nat) : rd l = tld (sp l) (sp l) := by
  cases hs : sp l with
  | nil => exact absurd hs (sp_ne l)
  | cons a b => rw [rd_go l.length l (Nat.le_refl _) a b hs]; rfl
theorem prep_tldGo (h34 : pr1 34 = [34]) : ∀ (n : Nat) (b c : List (List Nat)), b.length ≤ n → prep (tldGo b c) = tldGo (b.map prep) c
  | _, [], _, _ => rfl
  | _, [_], _, _ => rfl
  | _, _ :: _ :: _, [], _ => rfl
  | _, _ :: _ :: _, [_], _ => rfl
  | 0, _ :: _ :: _, _ :: _ :: _, h => by simp at h
  | n + 1, a :: b :: r, x :: y :: q, h => by
    have ih := prep_tldGo h34 n r q (by simp at h; omega)
    show prep (if x == [] then 34 :: (b ++ tldGo r q) else []) = (if x == [] then 34 :: (prep b ++ tldGo (r.map prep) q) else [])
    split
    · rw [prep_cons, h34, prep_append, ih]; rfl
    · rfl
theorem prep_tld (h34 : pr1 34 = [34]) (b c : List (List Nat)) : prep (tld b c) = tld (b.map prep) c := by
  unfold tld
  rw [prep_append, prep_tldGo h34 _ _ _ (Nat.le_refl _), List.map_drop]
  congr 1
  cases b <;> rfl
theorem mem_tldGo : ∀ (n : Nat) (b c : List (List Nat)), b.length ≤ n → ∀ x ∈ tldGo b c, x = 34 ∨ ∃ p ∈ b, x ∈ p
  | _, [], _, _, x, h => by simp [tldGo] at h
  | _, [_], _, _, x, h => by simp [tldGo] at h
  | _, _ :: _ :: _, [], _, x, h => by simp [tldGo] at h
  | _, _ :: _ :: _, [_], _, x, h => by simp [tldGo] at h
  | 0, _ :: _ :: _, _ :: _ :: _, h, _, _ => by simp at h
  | n + 1, a :: b :: r, u :: v :: q, hn, x, h => by
    have ih := mem_tldGo n r q (by simp at hn; omega) x
    have h' : x ∈ (if u == [] then 34 :: (b ++ tldGo r q) else []) := h
    split at h'
    · rcases List.mem_cons.mp h' with e | h'
      · exact .inl e
      · rcases List.mem_append.mp h' with h' | h'
        · exact .inr ⟨b, .tail _ (.head _), h'⟩
        · rcases ih h' with e | ⟨p, hp, hx⟩
          · exact .inl e
          · exact .inr ⟨p, .tail _ (.tail _ hp), hx⟩
    · simp at h'
theorem mem_jn : ∀ (ps : List (List Nat)) (x : Nat), (∃ p ∈ ps, x ∈ p) → x ∈ jn ps
  | [], _, ⟨_, h, _⟩ => nomatch h
  | [p], x, ⟨q, h, hx⟩ => by rw [List.mem_singleton.mp h] at hx; exact hx
  | p :: q :: r, x, ⟨y, h, hx⟩ => by
    show x ∈ p ++ 34 :: jn (q :: r)
    rcases List.mem_cons.mp h with rfl | h
    · exact List.mem_append_left _ hx
    · exact List.mem_append_right _ (.tail _ (mem_jn (q :: r) x ⟨y, h, hx⟩))
theorem Gs.rd {l : List Nat} (h34 : G 34) (h : Gs l) : Gs (rd l) := by
  intro x hx
  cases hs : sp l with
  | nil => exact absurd hs (sp_ne l)
  | cons a b =>
    rw [rd_go l.length l (Nat.le_refl _) a b hs] at hx
    have up : ∀ p ∈ sp l, x ∈ p → x ∈ l := fun p hp hxp => by
      have := mem_jn (sp l) x ⟨p, hp, hxp⟩
      rwa [jn_sp] at this
    rcases List.mem_append.mp hx with hx | hx
    · exact h x (up a (by rw [hs]; exact .head _) hx)
    · rcases mem_tldGo _ b b (Nat.le_refl _) x hx with rfl | ⟨p, hp, hxp⟩
      · exact h34
      · exact h x (up p (by rw [hs]; exact .tail _ hp) hxp)
theorem esc_34 (l : List Nat) (h : 34 ∉ l) : 34 ∉ esc l := by
  induction l with
  | nil => exact h
  | cons c r ih =>
    have e : esc (c :: r) = esc1 c ++ esc r := rfl
    rw [e, List.mem_append]
    rintro (m | m)
    · unfold esc1 at m
      have hc : c ≠ 34 := fun e => h (e ▸ .head _)
      split at m
      · simp at m; exact hc m.symm
      · simp at m; exact hc m.symm
    · exact ih (fun m => h (.tail _ m)) m
/-- the pieces of what is escaped -/
def ep : List (List Nat) → List (List Nat)
  | [] => []
  | [p] => [esc p]
  | p :: q :: r => (esc p ++ [92]) :: ep (q :: r)
theorem esc_jn : ∀ ps : List (List Nat), ps ≠ [] → (∀ p ∈ ps, 34 ∉ p) → sp (esc (jn ps) ++ [34]) = ep ps ++ [[]]
  | [], h, _ => absurd rfl h
  | [p], _, h => by
    show sp (esc p ++ 34 :: []) = [esc p] ++ [[]]
    rw [sp_app _ _ (esc_34 p (h p (.head _)))]; rfl
  | p :: q :: r, _, h => by
    have ih := esc_jn (q :: r) (by simp) fun x hx => h x (.tail _ hx)
    have e : esc (jn (p :: q :: r)) ++ [34] = (esc p ++ [92]) ++ 34 :: (esc (jn (q :: r)) ++ [34]) := by
      show esc (p ++ 34 :: jn (q :: r)) ++ [34] = _
      rw [esc_append]
      have : esc (34 :: jn (q :: r)) = [92, 34] ++ esc (jn (q :: r)) := rfl
      rw [this]; simp
    rw [e, sp_app _ _ (by
      rw [List.mem_append]; rintro (m | m)
      · exact esc_34 p (h p (.head _)) m
      · simp at m), ih]
    rfl
theorem rd_esc (l : List Nat) : rd (esc l ++ [34]) = esc ((sp l).headD []) ++ fstT (sp l) (sp l) := by
  have e := esc_jn (sp l) (sp_ne l) (sp_free l)
  rw [jn_sp] at e
  rw [rd_tld, e]
  cases hs : sp l with
  | nil => exact absurd hs (sp_ne l)
  | cons a b =>
    cases b with
    | nil => simp [ep, tld, tldGo, fstT]
    | cons b c =>
      cases c with
      | nil =>
        have e1 : tld (ep [a, b] ++ [[]]) (ep [a, b] ++ [[]]) = (esc a ++ [92]) ++ (if esc b == [] then [34] else []) := by
          show (esc a ++ [92]) ++ (if esc b == [] then 34 :: ([] ++ tldGo [] []) else []) = _
          rfl
        rw [e1]
        have e2 : (esc b == []) = (b == []) := by
          cases b with
          | nil => rfl
          | cons x r => 
            have : esc (x :: r) = esc1 x ++ esc r := rfl
            rw [this]
            have h1 : esc1 x ≠ [] := by unfold esc1; split <;> simp
            cases h2 : esc1 x with
            | nil => exact absurd h2 h1
            | cons _ _ => rfl
        rw [e2]
        have e3 : fstT [a, b] [a, b] = if (b == []) = true then [92, 34] else [92] := by
          show (if (2 == 1) = true then [] else if (2 == 2 && (b == [])) = true then [92, 34] else [92]) = _
          simp
        rw [e3]
        show _ = esc a ++ _
        cases b == [] <;> simp
      | cons c d =>
        have e1 : ep (a :: b :: c :: d) = (esc a ++ [92]) :: (esc b ++ [92]) :: ep (c :: d) := rfl
        rw [e1]
        cases hq : ep (c :: d) ++ [[]] with
        | nil => simp at hq
        | cons x y =>
          have e2 : tld ((esc a ++ [92]) :: (esc b ++ [92]) :: ep (c :: d) ++ [[]]) ((esc a ++ [92]) :: (esc b ++ [92]) :: ep (c :: d) ++ [[]]) = (esc a ++ [92]) ++ (if (esc b ++ [92] == []) = true then 34 :: (x ++ tldGo y y) else []) := by
            rw [show (esc a ++ [92]) :: (esc b ++ [92]) :: ep (c :: d) ++ [[]] = (esc a ++ [92]) :: (esc b ++ [92]) :: x :: y from by rw [← hq]; rfl]
            rfl
          rw [e2]
          have e3 : (esc b ++ [92] == []) = false := by cases esc b <;> rfl
          rw [e3]
          have e4 : fstT (a :: b :: c :: d) (a :: b :: c :: d) = [92] := by
            unfold fstT
            rw [if_neg (by simp), if_neg (by simp)]
          rw [e4]; simp
end Mine
end

/- P3 -/
section
open PySem PySem.W PyProof.Rows
set_option Elab.async false
set_option maxRecDepth 100000
set_option maxHeartbeats 0
namespace Mine
noncomputable def Gb (c : Nat) : Bool := (c != 34 || pr1 c == [34]) && (c != 92 || pr1 c == [92]) && (c == 34 || c == 92 || (!(pr1 c).contains 34 && !(pr1 c).contains 92)) && ((pr1 c).any ctl == ctl c) && decide (c < 1114112) && (pr1 c).all (fun x => decide (x < 1114112))
theorem g_of {c : Nat} (h : Gb c = true) : G c := by
  simp only [Gb, Bool.and_eq_true, Bool.or_eq_true, bne_iff_ne, beq_iff_eq, Bool.not_eq_true', List.contains_eq_mem, decide_eq_false_iff_not, decide_eq_true_eq, List.all_eq_true] at h
  obtain ⟨⟨⟨⟨⟨h1, h2⟩, h3⟩, h4⟩, h5⟩, h6⟩ := h
  refine ⟨fun e => h1.resolve_left (by simp [e]), fun e => h2.resolve_left (by simp [e]), fun e1 e2 => ?_, h4, h5, h6⟩
  rcases h3 with h3 | h3
  · rcases h3 with h3 | h3
    · exact absurd h3 e1
    · exact absurd h3 e2
  · exact h3
noncomputable def PB (c : Nat) (b : List Nat) : Bool := pr1 c == b && Gb c
/-- a pair as the script makes it -/
def PairOk (a b : List Nat) : Prop := ∃ c, a = [c] ∧ b = pr1 c ∧ G c
theorem pairOk {c : Nat} {b : List Nat} (h : PB c b = true) : PairOk [c] b := by
  simp only [PB, Bool.and_eq_true, beq_iff_eq] at h
  exact ⟨c, rfl, h.1.symm, g_of h.2⟩
theorem pb_mark : PB 34 [34] = true := by decide +kernel
theorem pb_back : PB 92 [92] = true := by decide +kernel
def noth : List Nat := [173, 847, 6150, 6155, 6156, 6157, 8203, 8204, 8205, 8288, 65279, 65024, 65025, 65026, 65027, 65028, 65029, 65030, 65031, 65032, 65033, 65034, 65035, 65036, 65037, 65038, 65039]
theorem pb_noth : ∀ i, i < 27 → PB (noth.getD i 0) [] = true := by decide +kernel
theorem pb_math : ∀ i, i < 6 → ∀ j, j < 26 → PB (120172 + 52 * i + j) [97 + j] = true := by decide +kernel
theorem pb_great : ∀ j, j < 26 → PB (65 + j) [97 + j] = true := by decide +kernel
theorem pb_small : ∀ j, j < 26 → PB (97 + j) [97 + j] = true := by decide +kernel
theorem pb_plain : ∀ j, j < 4 → PB ([32, 61, 59, 9].getD j 0) [[32, 61, 59, 9].getD j 0] = true := by decide +kernel
theorem pb_ctl : ∀ j, j < 33 → PB ((j + 127) % 128) [(j + 127) % 128] = true := by decide +kernel
theorem pb_ss : PB 223 [115, 115] = true := by decide +kernel
theorem pb_ff : PB 64256 [102, 102] = true := by decide +kernel
theorem pb_ffi : PB 64259 [102, 102, 105] = true := by decide +kernel
theorem pb_tm : PB 8482 [116, 109] = true := by decide +kernel
theorem pb_km : PB 13262 [107, 109] = true := by decide +kernel
theorem pb_soft : PB 173 [] = true := by decide +kernel
theorem pb_z : PB 90 [122] = true := by decide +kernel
theorem pr1_34 : pr1 34 = [34] := by decide +kernel
theorem pr1_92 : pr1 92 = [92] := by decide +kernel
theorem G_34 : G 34 := g_of (by decide +kernel)
end Mine
end

/- P4 -/
section
open PySem PySem.W PyProof.Rows
set_option Elab.async false
set_option maxRecDepth 100000
set_option maxHeartbeats 0
namespace Mine
theorem sp_len : ∀ l, (sp l).length ≤ l.length + 1
  | [] => Nat.le_refl _
  | c :: r => by
    have ih := sp_len r
    unfold sp
    split
    · simp; omega
    · cases h : sp r with
      | nil => simp
      | cons a b => rw [h] at ih; simp at ih ⊢; omega
theorem sp_flat : ∀ l, (sp l).flatten.length ≤ l.length
  | [] => Nat.le_refl _
  | c :: r => by
    have ih := sp_flat r
    unfold sp
    split
    · simp at ih ⊢; omega
    · cases h : sp r with
      | nil => simp
      | cons a b => rw [h] at ih; simp at ih ⊢; omega
theorem len_mem_flat : ∀ {ls : List (List Nat)} {a : List Nat}, a ∈ ls → a.length ≤ ls.flatten.length
  | x :: r, a, h => by
    rw [List.flatten_cons, List.length_append]
    rcases List.mem_cons.mp h with rfl | h
    · omega
    · have := len_mem_flat h; omega
theorem sp_mem_len {l a : List Nat} (h : a ∈ sp l) : a.length ≤ l.length := Nat.le_trans (len_mem_flat h) (sp_flat l)
theorem tldGo_len : ∀ (n : Nat) (b c : List (List Nat)), b.length ≤ n → (tldGo b c).length ≤ b.flatten.length + b.length
  | _, [], _, _ => by simp [tldGo]
  | _, [_], _, _ => by simp [tldGo]
  | _, _ :: _ :: _, [], _ => by simp [tldGo]
  | _, _ :: _ :: _, [_], _ => by simp [tldGo]
  | 0, _ :: _ :: _, _ :: _ :: _, h => by simp at h
  | n + 1, a :: b :: r, x :: y :: q, h => by
    have ih := tldGo_len n r q (by simp at h; omega)
    show (if x == [] then 34 :: (b ++ tldGo r q) else []).length ≤ _
    split
    · simp at ih ⊢; omega
    · simp
theorem tld_len (b c : List (List Nat)) : (tld b c).length ≤ b.flatten.length + b.length := by
  unfold tld
  have h := tldGo_len _ (b.drop 1) (c.drop 1) (Nat.le_refl _)
  cases b with
  | nil => simp [tldGo]
  | cons a r => simp at h ⊢; omega
theorem tld_sp_len (l : List Nat) (c : List (List Nat)) : (tld (sp l) c).length ≤ 2 * l.length + 1 := by
  have h1 := tld_len (sp l) c
  have h2 := sp_flat l
  have h3 := sp_len l
  omega
end Mine
end

/- W14 -/
section
open PySem PySem.W PyProof.Rows
set_option Elab.async false
set_option maxRecDepth 100000
set_option maxHeartbeats 0
namespace Mine
open PyProof.Rows.LCp
/-- a list comprehension over a list of pairs, both names taken -/
theorem comp_pairs {w : World} {A : Around} {E : Value → Shared → Prop} {env : Env} {s : Shared} {elt iter : Expr} {x x₂ : Str} {px px₂ tp : Pos} {tk} {scope : Scope} {pos : Pos} {Q : Value → Shared → Prop} (sel : Value × Value → Value)
    (hh : A.handled = none)
    (h : wpAny (model pg w) A (eval iter env) (fun xv s₁ => ∃ (ax : Addr) (its : Array Value) (L : List (Value × Value)), xv = .ref ax ∧ s₁.heap.IsList ax its ∧ its.size = L.length ∧ its.size ≤ sizeLine ∧
      (∀ (i : Nat) (v : Value), its[i]? = some v → ∃ (t : Addr) (v₁ v₂ : Value), v = .ref t ∧ IsTup s₁.heap t #[v₁, v₂] ∧ L[i]? = some (v₁, v₂)) ∧
      (∀ C v₁ v₂ s₃ m₃ E', s₃.heap.Ns C m₃ → m₃ x = some v₁ → m₃ x₂ = some v₂ → (∀ b o, s₁.heap.get? b = some o → s₃.heap.get? b = some o) →
        wpAny (model pg w) A (eval elt (compEnvC scope [] C env)) (fun y s₄ => y = sel (v₁, v₂) ∧ PySem.Keeps s₃ s₄) E' s₃) ∧
      (∀ D h' tk, s₁.heap.get? D = none → h'.PlainList D (L.map sel).toArray → (∀ b o, s₁.heap.get? b = some o → h'.get? b = some o) → Q (.ref D) { s₁ with heap := h', toks := tk })) E s)
    (hclos : closureFor scope env = pure [] := by rfl) (hcell : ∀ y ∈ scope.names, y.2 ≠ .cell := by decide) (hkind : scope.kind = .function := by rfl)
    (hnames : ∀ y ∈ scope.names, y.2 = .local → scope.names.lookup y.1 = some .local := by decide) (hx : scope.names.lookup x = some .local := by rfl) (hx₂ : scope.names.lookup x₂ = some .local := by rfl) (hxx : x ≠ x₂ := by decide)
    (hs : ∀ x, foldedSetIterable iter env x = pure x := by intro _; rfl) :
    wpAny (model pg w) A (eval (.ListComp elt [⟨.Tuple [.Name x px, .Name x₂ px₂] tk tp, iter, [], 0⟩] scope pos) env) Q E s := by
  rw [eval_ListComp]
  refine wpAny_comprehension_free (use := none) rfl hs hclos hkind hnames (wpAny_mono h (fun xv s₁ h₁ => ?_) fun _ _ e => e)
  obtain ⟨ax, its, L, rfl, hl, hlen, hsz, hit, helt, hQ⟩ := h₁
  refine wpAny_pyIter_list hl ?_
  have hlt : ax < s₁.heap.objs.size := by obtain ⟨_, e, _⟩ := hl; exact Heap.lt_size e
  have W := Walks.list (prog := pg) (w := w) hh s₁.heap.objs.size ax (Nat.ne_of_lt hlt) its
  generalize hI : s₁.heap.objs.size = I at W ⊢
  generalize hH : s₁.heap.push { cls := .type "list_iterator", data := .fields #[.ref ax, .int 0 0] } = H
  have hHs : H.objs.size = I + 1 := by rw [← hH, Heap.size_push, hI]
  have up : ∀ b o, s₁.heap.get? b = some o → H.get? b = some o := fun b o e => hH ▸ Heap.get?_push_of_some _ e
  have hst : H.IsListIter I ax 0 ∧ H.IsList ax its := ⟨hH ▸ hI ▸ ⟨_, Heap.get?_push_size _ rfl, rfl, rfl⟩, hl.at fun o e => up _ _ e⟩
  have hnI : s₁.heap.get? I = none := hI ▸ Heap.get?_none_of_le (Nat.le_refl _)
  refine wpAny_newObj_type (wpAny_newFunctionEnv hcell (by intro y hy; simp at hy) (fun h₁ hns₁ hsb₁ => ?_) hkind)
  dsimp only at hns₁ hsb₁ ⊢
  generalize hH2 : H.push { cls := .type "list", dict := none, data := .seq ([] : List Value).toArray } = H2 at hns₁ hsb₁ ⊢
  have hC : H2.objs.size = H.objs.size + 1 := by rw [← hH2, Heap.size_push]
  have hDC : H.objs.size ≠ H2.objs.size := by rw [hC]; exact Nat.ne_of_lt (Nat.lt_succ_self _)
  have below : ∀ b, b < H.objs.size → b ≠ H2.objs.size ∧ b ≠ H.objs.size := fun b hb => ⟨by rw [hC]; exact Nat.ne_of_lt (Nat.lt_succ_of_lt hb), Nat.ne_of_lt hb⟩
  have hIlt : I < H.objs.size := by rw [hHs]; exact Nat.lt_succ_self _
  have haxlt : ax < H.objs.size := by rw [hHs, ← hI]; exact Nat.lt_succ_of_lt hlt
  have hCI : I ≠ H2.objs.size := (below I hIlt).1
  have hDI : I ≠ H.objs.size := (below I hIlt).2
  have hfpD : H.objs.size ∉ [I, ax] := by
    intro hm
    rcases List.mem_cons.mp hm with e | hm
    · exact hDI e.symm
    · rw [List.mem_singleton] at hm; exact (below ax haxlt).2 hm.symm
  have hfpC : H2.objs.size ∉ [I, ax] := by
    intro hm
    rcases List.mem_cons.mp hm with e | hm
    · exact hCI e.symm
    · rw [List.mem_singleton] at hm; exact (below ax haxlt).1 hm.symm
  have old : ∀ b o, H.get? b = some o → h₁.get? b = some o := fun b o e => hsb₁.extBut b o (below b (Heap.lt_size e)).1 (Heap.get?_push_of_some _ (hH2 ▸ Heap.get?_push_of_some _ e))
  have hacc : h₁.PlainList H.objs.size #[] := ⟨_, hsb₁.extBut _ _ hDC (Heap.get?_push_of_some _ (hH2 ▸ Heap.get?_push_size _ rfl))⟩
  have hst₁ := W.frame 0 _ h₁ hst fun b _ o e => old b o e
  have ltI : ∀ b o, s₁.heap.get? b = some o → b < I := fun b o e => hI ▸ Heap.lt_size e
  have hD1 : s₁.heap.get? H.objs.size = none := Heap.get?_none_of_le (by rw [hI, hHs]; exact Nat.le_succ _)
  have hC1 : s₁.heap.get? H2.objs.size = none := Heap.get?_none_of_le (by rw [hI, hC, hHs]; omega)
  have loop : ∀ s₃ : Shared, s₃ = { s₁ with heap := h₁, toks := s₁.toks + ([] : List (Str × Value)).length } →
      codeAny (model pg w) A (.compLoop (.ListComp elt [⟨.Tuple [.Name x px, .Name x₂ px₂] tk tp, iter, [], 0⟩] scope pos) 0 (.ref I) (.ref H.objs.size) (compEnvC scope [] H2.objs.size env))
        (compPost (model pg w) A E none Q (.ref H.objs.size) H2.objs.size) s₃ := by
    rintro s₃ rfl
    refine codeAny_compLoop_pair
      (fun k s' => ∃ h' tk i m', s' = { s₁ with heap := h', toks := tk } ∧ i ≤ its.size ∧ k = its.size + 1 - i ∧ (h'.IsListIter I ax i ∧ h'.IsList ax its) ∧ h'.Ns H2.objs.size m' ∧ h'.PlainList H.objs.size ((L.take i).map sel).toArray ∧
        (∀ b o, s₁.heap.get? b = some o → h'.get? b = some o)) ?_ (its.size + 1)
      ⟨h₁, _, 0, _, rfl, Nat.zero_le _, rfl, hst₁, hns₁, hacc, fun b o e => old b o (up b o e)⟩
    rintro k s' ⟨h', tk, i, m', rfl, hi, rfl, hst', hn', hacc', hk'⟩
    by_cases hlti : i < its.size
    · refine W.item i _ _ _ hlti hst' fun v h₂ tk₂ hPv hst₂ hk₂ => ?_
      have hk₂' : ∀ b o, b ≠ I → h'.get? b = some o → h₂.get? b = some o := fun b o hb e => hk₂ b o (by simpa using hb) e
      have s1k : ∀ b o, s₁.heap.get? b = some o → h₂.get? b = some o := fun b o e => hk₂' b o (Nat.ne_of_lt (ltI b o e)) (hk' b o e)
      obtain ⟨t, v₁, v₂, rfl, ht, hL⟩ := hit i v (by simpa using hPv)
      have ht₂ : IsTup h₂ t #[v₁, v₂] := by
        obtain ⟨ot, e1, e2⟩ := ht
        exact ⟨ot, s1k _ _ e1, e2⟩
      refine wpAny_letOwnedTupleGo_listiter hst₂.1 ?_
      refine assign_Tuple_tuple hh ht₂ rfl rfl fun h₅ he => ?_
      have he' : ∀ b o, h₂.get? b = some o → h₅.get? b = some o := fun b o e => he b o (Nat.ne_of_lt (Heap.lt_size e)) e
      refine assignInOrder_cons (wpAny_assign_Name (wpAny_storeName_local (lookup_relabel_local hx) ((hn'.at' fun o e => hk₂' _ o (Ne.symm hCI) e).at' fun o e => he' _ o e) (fun h₆ hn₆ hs₆ => ?_) (by simp [compEnvC, relabel, hkind])))
      refine assignInOrder_cons (wpAny_assign_Name (wpAny_storeName_local (lookup_relabel_local hx₂) hn₆ (fun h₃ hn₃ hs₃ => ?_) (by simp [compEnvC, relabel, hkind])))
      refine assignInOrder_nil ?_
      have old3 : ∀ b o, b ≠ H2.objs.size → h₂.get? b = some o → h₃.get? b = some o := fun b o hb e => hs₃.extBut b o hb (hs₆.extBut b o hb (he' b o e))
      have hst₃ := W.frame (i + 1) _ h₃ hst₂ fun b hb o e => old3 b o (fun q => hfpC (by rw [← q]; exact hb)) e
      have s1k₃ : ∀ b o, s₁.heap.get? b = some o → h₃.get? b = some o := fun b o e => old3 b o (fun q => by rw [q, hC1] at e; cases e) (s1k b o e)
      have hacc₃ : h₃.PlainList H.objs.size ((L.take i).map sel).toArray := hacc'.at fun o e => old3 _ o hDC (hk₂' _ o (Ne.symm hDI) e)
      refine wpAny_mono (helt H2.objs.size v₁ v₂ _ _ _ hn₃ (by simp [hxx]) (by simp) s1k₃) (fun y s₄ h₄ => ?_) fun _ _ e => e
      obtain ⟨rfl, h₄, tk₄, rfl, hk₄⟩ := h₄
      have hLi : i < L.length := hlen ▸ hlti
      refine wpAny_list_append_plain (hsz := by rw [List.size_toArray, List.length_map, List.length_take]; omega) (hacc₃.at fun o e => hk₄ _ o e) fun h₇ hl₇ hs₇ => ?_
      refine ⟨its.size + 1 - (i + 1), by omega, h₇, tk₄, i + 1, _, rfl, hlti, rfl, ?_, (hn₃.keeps hk₄).sameBut hs₇ (Ne.symm hDC), ?_, fun b o e => hs₇.extBut b o (fun q => by rw [q, hD1] at e; cases e) (hk₄ b o (s1k₃ b o e))⟩
      · exact W.frame (i + 1) _ h₇ hst₃ fun b hb o e => hs₇.extBut b o (fun q => hfpD (q ▸ hb)) (hk₄ b o e)
      · have e1 : L.take (i + 1) = L.take i ++ [(v₁, v₂)] := by rw [List.take_add_one, hL]; rfl
        rw [e1, List.map_append]
        have : ((L.take i).map sel ++ [(v₁, v₂)].map sel).toArray = ((L.take i).map sel).toArray.push (sel (v₁, v₂)) := by simp
        rw [this]; exact hl₇
    · obtain rfl : i = its.size := Nat.le_antisymm hi (Nat.not_lt.mp hlti)
      refine W.done _ _ _ hst' fun h₂ tk₂ hk₂ => ?_
      have hk₂' : ∀ b o, b ≠ I → h'.get? b = some o → h₂.get? b = some o := fun b o hb e => hk₂ b o (by simpa using hb) e
      refine ⟨m', hn'.at' fun o e => hk₂' _ o (Ne.symm hCI) e, fun h'' hs'' => hQ _ h'' tk₂ hD1 ?_ fun b o e => hs''.extBut b o (fun q => by rw [q, hC1] at e; cases e) (hk₂' b o (Nat.ne_of_lt (ltI b o e)) (hk' b o e))⟩
      rw [hlen, List.take_length] at hacc'
      exact (hacc'.at fun o e => hk₂' _ o (Ne.symm hDI) e).extBut hs''.extBut hDC
  exact codeAny_compStart_list (loop _ rfl) (W.self 0 _ _ _ hst₁ (loop _ rfl))
end Mine
end

/- Tk -/
section
open PySem PySem.W PyProof.Rows
set_option Elab.async false
set_option maxRecDepth 100000
set_option maxHeartbeats 0
namespace Mine
/-- the count itself, behind the states laid over it -/
def lastTok : Nat → Lean.Expr → Lean.Expr
  | 0, X => X
  | n + 1, X =>
    if X.isAppOfArity ``Shared.toks 1 && X.appArg!.isAppOfArity ``Shared.mk 5 then lastTok n X.appArg!.getAppArgs[3]!
    else if X.isAppOfArity ``HAdd.hAdd 6 then Lean.mkAppN X.getAppFn (X.getAppArgs.set! 4 (lastTok n X.getAppArgs[4]!)) else X
open Lean Elab Tactic Meta in
/-- the state's token count gets a name; that it is not nought is kept -/
def keepTok : TacticM Unit := withMainContext do
  let g ← getMainGoal
  let T ← instantiateMVars (← g.getType)
  unless T.isAppOf ``wpAny do throwError "keepTok: no tree"
  let S := T.getAppArgs.back!
  unless S.isAppOfArity ``Shared.mk 5 do throwError "keepTok: no written state"
  let X0 := S.getAppArgs[3]!
  if X0.isFVar || X0.hasExprMVar then throwError "keepTok: small"
  let X := lastTok 1000 X0
  let g ← g.change (mkAppN T.getAppFn (T.getAppArgs.set! (T.getAppArgs.size - 1) (mkAppN S.getAppFn (S.getAppArgs.set! 3 X))))
  if X.isFVar then
    replaceMainGoal [g]
    return
  let ty := mkNot (← mkEq X (mkNatLit 0))
  let p ← mkFreshExprMVar ty
  let s ← saveState
  try
    let r ← Tactic.run p.mvarId! (withoutRecover (evalTactic (← `(tactic| omega))))
    unless r.isEmpty do throwError "open"
    let g ← g.assert `hne ty (← instantiateMVars p)
    let (_, g) ← g.generalize #[{ expr := X, xName? := some `tk }]
    let (_, g) ← g.intro1
    replaceMainGoal [g]
  catch _ =>
    s.restore
    let (_, g') ← g.generalize #[{ expr := X, xName? := some `tk }]
    replaceMainGoal [g']
open Lean Elab Tactic Meta in
/-- a fork that is left to the hand -/
def notSplit : TacticM Unit := withMainContext do
  let T := (← instantiateMVars (← getMainTarget)).consumeMData
  if T.isAppOf ``ite && (T.getArg! 1).hasFVar then throwError "a split"
open Lean Elab Tactic Meta in
/-- a call of one of these defs is left to the hand -/
def notCall (l : List Nat) : TacticM Unit := withMainContext do
  let T := (← instantiateMVars (← getMainTarget)).consumeMData
  if T.isAppOf ``wpAny && T.getAppNumArgs ≥ 4 then
    let m := T.getAppArgs[3]!
    if m.isAppOf ``PySem.call && m.getAppNumArgs ≥ 1 then
      let f := m.getAppArgs[0]!
      if f.isAppOfArity ``Value.ref 1 then
        match f.appArg!.nat? <|> f.appArg!.rawNatLit? with
        | some n => if l.contains n then throwError "a call"
        | none => pure ()
open Lean Elab Tactic Meta in
/-- a call of this built-in is left to the hand -/
def notB (x : String) : TacticM Unit := withMainContext do
  let T := (← instantiateMVars (← getMainTarget)).consumeMData
  if T.isAppOf ``wpAny && T.getAppNumArgs ≥ 4 then
    let m := T.getAppArgs[3]!
    if m.isAppOf ``PySem.call && m.getAppNumArgs ≥ 1 then
      let f := m.getAppArgs[0]!
      if f.isAppOfArity ``Value.builtin 1 then
        if f.appArg! == mkStrLit x then throwError "a built-in"
open Lean Elab Tactic Meta in
/-- a statement of this kind is left to the hand -/
def notStmt (c : Name) : TacticM Unit := withMainContext do
  let T := (← instantiateMVars (← getMainTarget)).consumeMData
  if T.isAppOf ``wpAny && T.getAppNumArgs ≥ 4 then
    let m := T.getAppArgs[3]!
    if m.isAppOf ``PySem.exec && m.getAppNumArgs ≥ 1 then
      if (m.getAppArgs[0]!).isAppOf c then throwError "a statement"
open Lean Elab Tactic Meta in
/-- the facts whose names nobody can say go, as far as they can -/
def dropNameless : TacticM Unit := withMainContext do
  let mut g ← getMainGoal
  let ds := (← getLCtx).foldl (init := #[]) fun a d => if d.isImplementationDetail || !d.userName.hasMacroScopes then a else a.push d.fvarId
  for f in ds.reverse do
    g ← g.tryClear f
  replaceMainGoal [g]
open Lean Elab Tactic Meta in
/-- an expression of this kind is left to the hand -/
def notExpr (c : Name) : TacticM Unit := withMainContext do
  let T := (← instantiateMVars (← getMainTarget)).consumeMData
  if T.isAppOf ``wpAny && T.getAppNumArgs ≥ 4 then
    let m := T.getAppArgs[3]!
    if m.isAppOf ``PySem.eval && m.getAppNumArgs ≥ 1 then
      if (m.getAppArgs[0]!).isAppOf c then throwError "an expression"
open Lean Elab Tactic Meta in
/-- only a tree is walked -/
def isTree : TacticM Unit := withMainContext do
  let T := (← instantiateMVars (← getMainTarget)).consumeMData.headBeta
  if T.isAppOf ``Exists || T.isAppOf ``And then throwError "no tree"
open Builtin Builtin.Str in
/-- str.replace, the count told -/
theorem replaceK {prog : Program} {w : World} {A : Around} {E : Value → Shared → Prop} {s : Shared} {x y z : Str} {t u v : Tok} {Q : Value → Shared → Prop} (hu : u ≠ 0) (hv : v ≠ 0) (huv : u ≠ v) (hyz : (y == z) = false) (hx : x.length ≤ 1048576) (hz : z.length ≤ 14)
    (hq : ∀ t' k, s.toks ≤ k → Q (.str (Txt.replace x y z) t') { s with toks := k }) : wpAny (model prog w) A (call (.builtin "str.replace") [.str x t, .str y u, .str z v]) Q E s := by
  have hb : x.length + (x.length + 1) * z.length ≤ 16777216 := by
    have h1 : (x.length + 1) * z.length ≤ (x.length + 1) * 14 := Nat.mul_le_mul_left _ hz
    omega
  have hl : tooLong (x.length + (occurrences x y 0 x.length (x.length + 1)).length * z.length) = false := by
    have h1 := StrLaws.occ_length_le x y 0 x.length (x.length + 1)
    have h2 : (occurrences x y 0 x.length (x.length + 1)).length * z.length ≤ (x.length + 1) * z.length := Nat.mul_le_mul_right _ h1
    unfold tooLong sizeLine
    exact decide_eq_false (by omega)
  refine call_gives PySem.F.slot_str_replace (typeIs_str _ _ _) PySem.F.entry_str_replace (PySem.F.args_str_replace_3 _ _ _)
    (gives_str_replace x y z t u v fun _ => ⟨by simp [hu, hv], by simp [huv], hyz, hl⟩) ?_
  have hq' := hq
  unfold Txt.replace at hq'
  cases hc : ((occurrences x y 0 x.length (x.length + 1)).isEmpty || (y.length == 0 && z.length == 0))
  · rw [hc] at hq'
    simp only [Bool.false_eq_true, if_false] at hq' ⊢
    exact ⟨fits_replaced y hb, hq' _ _ (Nat.le_succ _)⟩
  · rw [hc] at hq'
    simp only [if_true] at hq' ⊢
    exact hq' t s.toks (Nat.le_refl _)
end Mine
end

/- W13 -/
section
open PySem PySem.W PyProof.Rows
set_option Elab.async false
set_option maxRecDepth 100000
set_option maxHeartbeats 0
namespace Mine
local macro_rules | `(tactic| walk_at "execs cons") => `(tactic| (run_tac Mine.keepTok))
local macro_rules | `(tactic| walk_at "execs nil") => `(tactic| (run_tac Mine.keepTok))
/-- a call of any def of the text that comes back: methods, defaults, keywords -/
theorem enterX {w : World} {A : Around} {E Q : Value → Shared → Prop} {s : Shared} {f : Addr} {name qual : Str} {params : Arguments} {body : List Stmt} {scope : Scope} {dV kV doc pm cdv ct oc : Value} {an od : Option Addr} {osl : Array (Option Value)}
    {args : List Value} {kw : List (Str × Value)} (binds : List (Str × Value))
    (C : Cx w s.heap) (hd : A.depth < recursionLimit) (ho : (Mine.K w.params).lookup f = some ⟨oc, od, .func (fnOf name qual params body scope dV kV doc pm an cdv ct), osl⟩) (hcd : codeIn (Mine.K w.params) cdv qual = true)
    (hbind : BindsTo s (fnOf name qual params body scope dV kV doc pm an cdv ct) ⟨args, kw⟩ binds) (hloc : (binds.all fun x => decide (scope.names.lookup x.1 = some .local)) = true)
    (h : ∀ h₁, Fr s.heap s.heap.objs.size h₁ (fun x => binds.reverse.lookup x) →
      wpAny (model pg w) (A.deeper (envOf qual scope s.heap.objs.size f cdv)) (execs body (envOf qual scope s.heap.objs.size f cdv))
        (fun fl s' => Q (match fl with | .ret v => v | _ => .none) s') (fun _ _ => False) { s with heap := h₁, toks := s.toks + binds.length })
    (hco : scope.isCoroutine = false := by rfl) (hgen : scope.isGenerator = false := by rfl) (hk : scope.kind = .function := by rfl)
    (hcell : ∀ x ∈ scope.names, x.2 ≠ .cell := by decide) :
    wpAny (model pg w) A (call (.ref f) args kw) Q E s := by
  obtain ⟨q, loose, mg, mb, T⟩ := C.T
  refine wpAny_call (codeAny_call_def (fd := fnOf name qual params body scope dV kV doc pm an cdv ct) (body := body) (binds := binds) hd (C.K f _ ho) rfl T.nolimit (codeRec_of C.K hcd) rfl hbind hcell (locs hloc) (fun h₁ hns hk₁ => ?_) hco hgen hk)
  exact wpAny_mono (h h₁ ⟨hns, hk₁, Nat.le_refl _⟩) (fun _ _ x => x) fun _ _ x => x.elim
def fpar (l : List Nat) : List Nat := if l == [] then [107, 105, 110, 100] else [107, 105, 110, 100, 61, 34] ++ esc l ++ [34]
theorem rep_len (c : Nat) (z : List Nat) (hz : z.length = 2) (l : List Nat) : (rep c z l).length ≤ 2 * l.length := by
  induction l with
  | nil => exact Nat.le_refl _
  | cons k r ih =>
    have : rep c z (k :: r) = (if k = c then z else [k]) ++ rep c z r := rfl
    have h1 : (if k = c then z else [k]).length ≤ 2 := by split <;> simp [hz]
    rw [this, List.length_append, List.length_cons]; omega
theorem fparam (w : World) (l : List Nat) (t t2 : Tok) (s : Shared) (hl : l.length ≤ 100000) (hs : s.toks ≠ 0) :
    Gives w 1 100 157 [.str (Str.ofString "kind") t, .str (tx l) t2] s (fun v _ => ∃ t', v = .str (tx (fpar l)) t') := by
  intro A E Q hh C hd hu hQ
  obtain ⟨q, loose, mg, mb, T⟩ := C.T
  have X := C.K
  have hl2 : (tx l).length = l.length := tx_len l
  refine enterX _ C (by omega) rfl (by rfl) (binds_K (K := Mine.K w.params) X rfl rfl rfl rfl rfl) (by rfl) (fun h₁ F => ?_)
  have N : News s.heap s.heap.objs.size h₁ [] := News.nil
  have C₁ := C.keeps F.keep
  repeat ((run_tac notB "str.replace"); walk1)

  · repeat ((run_tac notB "str.replace"); walk1)
    refine replaceK (by show (_ : Nat) ≠ _; first | omega | (dsimp only; omega)) (by show (_ : Nat) ≠ _; first | omega | (dsimp only; omega)) (by show (_ : Nat) ≠ _; first | omega | (dsimp only; omega)) (by decide) (by omega) (by decide) ?_
    intro t3 k3 hk3
    dsimp only at hk3
    have hq1 : (Txt.replace (tx l) (Str.ofString "\\") (Str.ofString "\\\\")).length ≤ 1048576 := by
      rw [show Str.ofString "\\" = ⟨#[92]⟩ from rfl, show Str.ofString "\\\\" = tx [92, 92] from rfl, replace_tx, tx_len]
      have := rep_len 92 [92, 92] rfl l; omega
    repeat ((run_tac notB "str.replace"); walk1)
    refine replaceK (by show (_ : Nat) ≠ _; first | omega | (dsimp only; omega)) (by show (_ : Nat) ≠ _; first | omega | (dsimp only; omega)) (by show (_ : Nat) ≠ _; first | omega | (dsimp only; omega)) (by decide) hq1 (by decide) ?_
    intro t4 k4 hk4
    dsimp only at hk4
    rw [esc_replace]
    have hz1 := esc_len l
    have hz2 : (tx (esc l)).length = (esc l).length := tx_len _
    have z1 : Str.empty.length = 0 := rfl
    have z2 : (Str.ofString "kind").length = 4 := rfl
    have z3 : (Str.ofString "=\"").length = 2 := rfl
    have z4 : (Str.ofString "\"").length = 1 := rfl
    repeat walk1
    have hne : (l == []) = false := by cases l with
      | nil => simp at hl2; omega
      | cons _ _ => rfl
    have e : Str.empty ++ Str.ofString "kind" ++ Str.ofString "=\"" ++ tx (esc l) ++ Str.ofString "\"" = tx (fpar l) := by
      rw [fpar, hne]
      apply str_ext
      simp only [Str.cps_append]
      rw [show Str.empty.cps = #[] from rfl, show (Str.ofString "kind").cps = #[107, 105, 110, 100] from rfl, show (Str.ofString "=\"").cps = #[61, 34] from rfl, show (Str.ofString "\"").cps = #[34] from rfl]
      simp
    exact hQ _ _ (keeps_of (Fr.keep (by assumption))) ⟨_, by rw [e]⟩
  · have hl0 : l = [] := by cases l with
      | nil => rfl
      | cons _ _ => simp at hl2; omega
    repeat walk1
    exact hQ _ _ (keeps_of (Fr.keep (by assumption))) ⟨_, by subst hl0; rfl⟩
end Mine
end

/- W15 -/
section
open PySem PySem.W PyProof.Rows
set_option Elab.async false
set_option maxRecDepth 100000
set_option maxHeartbeats 0
namespace Mine
open PyProof.V
/-- the end of the one turn: the ledger may have changed, the iterator and the dict have not -/
def OneEnd (h₀ : Heap) (L : Addr) (d it : Addr) (oI : Obj) (news : List (Addr × Obj)) (s s₁ : Shared) (Q : Flow → Shared → Prop) (f : Flow) (s₂ : Shared) : Prop :=
  match f with
  | .next | .cont => ∃ h' tk m' news', s₂ = { s₁ with heap := h', toks := tk } ∧ Fr h₀ L h' m' ∧ News h₀ L h' ((it, oI) :: news') ∧ (∃ o, (d, o) ∈ news ∧ (d, o) ∈ news') ∧ (∀ p ∈ news', p.1 ≠ it) ∧
      ∀ h'' tk'', Fr h₀ L h'' m' → News h₀ L h'' news' → Q .next { s with heap := h'', toks := tk'' }
  | .brk => Q .next s₂
  | .ret v => Q (.ret v) s₂
theorem OneEnd.intro {h₀ : Heap} {L d it : Addr} {oI : Obj} {news news' : List (Addr × Obj)} {s s₁ s₂ : Shared} {Q : Flow → Shared → Prop} {h' : Heap} {tk : Nat} {m' : Str → Option Value} (e : s₂ = { s₁ with heap := h', toks := tk })
    (F : Fr h₀ L h' m') (N : News h₀ L h' ((it, oI) :: news')) (hd : ∃ o, (d, o) ∈ news ∧ (d, o) ∈ news') (hi : ∀ p ∈ news', p.1 ≠ it) (h : ∀ h'' tk'', Fr h₀ L h'' m' → News h₀ L h'' news' → Q .next { s with heap := h'', toks := tk'' }) :
    OneEnd h₀ L d it oI news s s₁ Q .next s₂ := ⟨h', tk, m', news', e, F, N, hd, hi, h⟩
/-- a loop over the items of a dict that holds one pair -/
theorem iter_one {w : World} {A : Around} {E : Value → Shared → Prop} {s : Shared} {env : Env} {h₀ : Heap} {m : Str → Option Value} {news : List (Addr × Obj)} {d vw : Addr} {xk xv : Str} {body : List Stmt} {Q : Flow → Shared → Prop} {k : Str} {v : Value}
    (hh : A.handled = none) (hxk : env.kindOf xk = some .local) (hxv : env.kindOf xv = some .local)
    (hp : (env.scope.kind == .class || (env.scope.kind == .module && env.locals != env.globals)) = false)
    (hvw : ∃ ov, s.heap.get? vw = some ov ∧ ov.cls = .type "dict_items" ∧ ov.data = .fields #[.ref d]) (hdo : s.heap.DictOf (strKind pg w) d [(k, v)]) (F : Fr h₀ env.locals s.heap m) (N : News h₀ env.locals s.heap news)
    (hd : ∃ o, (d, o) ∈ news)
    (step : ∀ t it oI h₁ tk₁, it = s.heap.objs.size → (∀ p ∈ news, p.1 < it) → Fr h₀ env.locals h₁ (fun y => if y = xv then some v else if y = xk then some (.str k t) else m y) → News h₀ env.locals h₁ ((it, oI) :: news) → s.toks ≤ tk₁ →
      wpAny (model pg w) A (execs body env) (OneEnd h₀ env.locals d it oI news s { s with heap := h₁, toks := tk₁ } Q) E { s with heap := h₁, toks := tk₁ })
    (hE : PassesOwn (model pg w) A env E := by passes_own) :
    wpAny (model pg w) A (pyIter (.ref vw)) (fun it s₂ => PairLoopAt pg w A h₀ env xk xv body Q E it s₂) E s := by
  obtain ⟨ep, hat⟩ := hdo.dictAt
  refine wpAny_pyIter_items (knd := strKind pg w) (d := d) (kvs := [(k, v)]) (ep := ep) hvw hat ?_
  intro pk pv pt x1
  have hdi : d ≠ s.heap.objs.size := Nat.ne_of_lt hat.lt_size
  have hlt : ∀ p ∈ news, p.1 < s.heap.objs.size := fun p hp => Heap.lt_size (N p hp).1
  have hin : h₀.get? s.heap.objs.size = none := next_is_new F
  have hiL : s.heap.objs.size ≠ env.locals := Nat.ne_of_gt F.ns.lt
  have hdL : d ≠ env.locals := tab_not_locals F N (.inr hd)
  generalize hI : s.heap.objs.size = it at *
  generalize hH : s.heap.push { cls := .type "dict_itemiterator", data := .fields #[.none, .bool false, .ref d, .int 0 0, .int ([(k, v)] : List (Str × Value)).length 0, .int ep 0, .none, .none] } = H
  have upH : ∀ b o, s.heap.get? b = some o → H.get? b = some o := fun b o e => hH ▸ Heap.get?_push_of_some _ e
  have hit₀ : IsItemIter H it d 0 ([(k, v)] : List (Str × Value)).length ep .none .none := by rw [← hH, ← hI]; exact Heap.get?_push_size _ rfl
  have hat₀ : H.DictAt (strKind pg w) d [(k, v)] ep := hH ▸ hat.push _
  have F₀ : Fr h₀ env.locals H m := F.keeps upH
  have N₀ : News h₀ env.locals H news := N.grown upH
  refine codeAny_forLoop_any
    (fun n s' => (n = 2 ∧ s' = { s with heap := H }) ∨ (n = 1 ∧ ∃ h' tk m' news' ok ov, s' = { s with heap := h', toks := tk } ∧ IsItemIter h' it d 1 ([(k, v)] : List (Str × Value)).length ep ok ov ∧ h'.DictAt (strKind pg w) d [(k, v)] ep ∧ Fr h₀ env.locals h' m' ∧ News h₀ env.locals h' news' ∧ (∀ p ∈ news', p.1 ≠ it) ∧
      ∀ h'' tk'', Fr h₀ env.locals h'' m' → News h₀ env.locals h'' news' → Q .next { s with heap := h'', toks := tk'' })) ?_ 2 (.inl ⟨rfl, rfl⟩)
  have oldNe : ∀ b o, h₀.get? b = some o → b ≠ it := fun b o e q => by rw [q, hin] at e; cases e
  rintro n s' (⟨rfl, rfl⟩ | ⟨rfl, h', tk, m', news', ok, ov, rfl, hit', hm', F', N', hni, hdone⟩)
  · have hiH : it < H.objs.size := Heap.lt_size hit₀
    have hLH : env.locals < H.objs.size := F₀.ns.lt
    have hdH : d < H.objs.size := hat₀.lt_size
    refine wpAny_pyNext_items_item hit₀ hat₀ (k := k) (v := v) rfl fun key h₁ hkey heo ht₁ hz₁ hk₁ => ?_
    obtain ⟨t, rfl⟩ := Value.isStrOf_shape hkey
    refine wpAny_letOwnedTupleGo_items heo fun h₂ he₂ hs₂ => ?_
    replace hs₂ : Heap.SameBut it h₁ h₂ := hs₂
    have ht₂ : h₂.IsTuple H.objs.size #[.str k t, v] := ⟨_, (hs₂.2 _ (Nat.ne_of_gt hiH)).trans ht₁, rfl, _, rfl⟩
    have hz₂ : h₂.objs.size = H.objs.size + 1 := hs₂.1.trans hz₁
    refine wpAny_assign_Tuple hh ht₂ rfl rfl fun h₃ hx₃ => ?_
    replace hx₃ : Heap.ExtBut h₂.objs.size h₂ h₃ := hx₃
    have old₃ : ∀ b o, b < H.objs.size → h₂.get? b = some o → h₃.get? b = some o := fun b o hb x => hx₃ b o (by rw [hz₂]; exact Nat.ne_of_lt (Nat.lt_succ_of_lt hb)) x
    have up₃ : ∀ b o, b ≠ it → H.get? b = some o → h₃.get? b = some o := fun b o hb x => old₃ b o (Heap.lt_size x) (hs₂.extBut b o hb (hk₁ b o hb x))
    have F₃ : Fr h₀ env.locals h₃ m := ⟨F₀.ns.at fun o x => up₃ _ o (Ne.symm hiL) x, fun b o e => up₃ b o (oldNe b o e) (F₀.keep b o e), F₀.above⟩
    have N₃ : News h₀ env.locals h₃ news := fun p hp => ⟨up₃ _ _ (Nat.ne_of_lt (hlt p hp)) (N₀ p hp).1, (N₀ p hp).2⟩
    show wpAny _ _ (do holding [v] (assign (.Name xk pk) env (.str k t)); do holding [] (assign (.Name xv pv) env v); pure ()) _ _ _
    refine wpAny_bind (wpAny_holding (wpAny_assign_Name (wpAny_storeName_local hxk F₃.ns (fun h₄ hn₄ hs₄ => ?_) hp)))
    replace hs₄ : Heap.SameBut env.locals h₃ h₄ := hs₄
    have F₄ := F₃.set hn₄ hs₄
    refine wpAny_bind (wpAny_holding (wpAny_assign_Name (wpAny_storeName_local hxv F₄.ns (fun h₅ hn₅ hs₅ => wpAny_pure ?_) hp)))
    replace hs₅ : Heap.SameBut env.locals h₄ h₅ := hs₅
    have F₅ := F₄.set hn₅ hs₅
    have N₅ : News h₀ env.locals h₅ news := (N₃.set hs₄).set hs₅
    have up₅ : ∀ b o, b ≠ env.locals → b < H.objs.size → h₂.get? b = some o → h₅.get? b = some o := fun b o hbL hb x => hs₅.extBut b o hbL (hs₄.extBut b o hbL (old₃ b o hb x))
    have hm₂ : h₂.DictAt (strKind pg w) d [(k, v)] ep := (hat₀.at fun o x => hk₁ d o hdi x).extBut hs₂.extBut hdi
    have hm₅ : h₅.DictAt (strKind pg w) d [(k, v)] ep := hm₂.at fun o x => up₅ d o hdL hdH x
    have hit₅ := up₅ it _ hiL hiH he₂
    have hit₅' : IsItemIter h₅ it d 1 ([(k, v)] : List (Str × Value)).length ep (.str k t) v := hit₅
    obtain ⟨oI, hoI⟩ : ∃ oI, h₅.get? it = some oI := ⟨_, hit₅⟩
    have N₅' : News h₀ env.locals h₅ ((it, oI) :: news) := fun p hp => by
      rcases List.mem_cons.mp hp with rfl | hp
      · exact ⟨hoI, hiL, hin⟩
      · exact N₅ p hp
    refine wpAny_mono (step t it oI h₅ _ rfl hlt F₅ N₅' (by dsimp only; omega)) (fun f s₃ h₆ => ?_) hE
    have fin : (∃ h' tk m' news', s₃ = { s with heap := h', toks := tk } ∧ Fr h₀ env.locals h' m' ∧ News h₀ env.locals h' ((it, oI) :: news') ∧ (∃ o, (d, o) ∈ news ∧ (d, o) ∈ news') ∧ (∀ p ∈ news', p.1 ≠ it) ∧
      ∀ h'' tk'', Fr h₀ env.locals h'' m' → News h₀ env.locals h'' news' → Q .next { s with heap := h'', toks := tk'' }) →
        ∃ m, m < 2 ∧ ((m = 2 ∧ s₃ = { s with heap := H }) ∨ (m = 1 ∧ ∃ h' tk m' news' ok ov, s₃ = { s with heap := h', toks := tk } ∧ IsItemIter h' it d 1 ([(k, v)] : List (Str × Value)).length ep ok ov ∧ h'.DictAt (strKind pg w) d [(k, v)] ep ∧ Fr h₀ env.locals h' m' ∧ News h₀ env.locals h' news' ∧ (∀ p ∈ news', p.1 ≠ it) ∧
      ∀ h'' tk'', Fr h₀ env.locals h'' m' → News h₀ env.locals h'' news' → Q .next { s with heap := h'', toks := tk'' })) := by
      rintro ⟨h₇, tk₆, m₂, news₂, rfl, F₆, N₆, ⟨o, hd1, hd2⟩, hni, hdone⟩
      refine ⟨1, by omega, .inr ⟨rfl, h₇, tk₆, m₂, news₂, .str k t, v, rfl, (N₆ _ (.head _)).1.trans (hoI.symm.trans hit₅'), hm₅.at fun o' x => ?_, F₆, fun p hp => N₆ p (.tail _ hp), hni, hdone⟩⟩
      have e1 := (N₅ _ hd1).1
      rw [x] at e1
      cases e1
      exact (N₆ _ (.tail _ hd2)).1
    cases f with
    | next => exact fin h₆
    | cont => exact fin h₆
    | brk => exact h₆
    | ret v => exact h₆
  · refine wpAny_pyNext_items_end hh hit' hm' rfl fun h₁ he₁ => wpAny_execs_nil ?_
    exact hdone h₁ tk ⟨F'.ns.extBut he₁ (Ne.symm hiL), fun b o e => he₁ b o (oldNe b o e) (F'.keep b o e), F'.above⟩ fun p hp => ⟨he₁ _ _ (hni p hp) (N' p hp).1, (N' p hp).2⟩
end Mine
end

/- W17 -/
section
open PySem PySem.W PyProof.Rows
set_option Elab.async false
set_option maxRecDepth 100000
set_option maxHeartbeats 0
namespace Mine
theorem ctl_any {l : List Nat} : refused l = true ↔ ∃ i, i < (tx l).cps.size ∧ ctl ((tx l).cps.getD i 0) = true := by
  unfold refused
  rw [List.any_eq_true]
  constructor
  · rintro ⟨c, hc, h⟩
    obtain ⟨i, hi, rfl⟩ := List.mem_iff_getElem.mp hc
    exact ⟨i, by simpa using hi, by simpa [Array.getD, hi] using h⟩
  · rintro ⟨i, hi, h⟩
    have hi' : i < l.length := by simpa using hi
    exact ⟨l[i], List.getElem_mem hi', by simpa [Array.getD, hi'] using h⟩
theorem search_ok {l : List Nat} (h : refused l = false) : ((Sre.forSearch vc (tx l).cps 0 0 (tx l).cps.size false).runFor 4).outcome = some .failed := by
  rcases search_v (tx l).cps with ⟨hm, ho⟩ | ⟨_, ho⟩
  · rw [ctl_any.mpr hm] at h; cases h
  · exact ho
theorem search_bad {l : List Nat} (h : refused l = true) : ((Sre.forSearch vc (tx l).cps 0 0 (tx l).cps.size false).runFor 4).outcome = some .matched := by
  rcases search_v (tx l).cps with ⟨_, ho⟩ | ⟨hm, _⟩
  · exact ho
  · obtain ⟨i, hi, hc⟩ := ctl_any.mp h
    rw [hm i hi] at hc; cases hc
def okFor (b : Bool) (y : Str) : Prop := ((Sre.forSearch (if b then nc else vc) y.cps 0 0 y.cps.size false).runFor 4).outcome = some .failed
theorem conv (w : World) (x : Addr) (y : Str) (t : Tok) (b : Bool) (s : Shared) (hy : y.cps.size < 2 ^ 62) (ho : okFor b y) {A : Around} {E Q : Value → Shared → Prop} (hh : A.handled = none) (C : Cx w s.heap) (hd : A.depth + 1 < recursionLimit) (hu : A.units + 20 < cLine)
    (hQ : ∀ h' tk, (∀ b o, s.heap.get? b = some o → h'.get? b = some o) → Q (.str y t) { s with heap := h', toks := tk }) :
    wpAny (model pg w) A (call (.ref 179) [.ref x, .str y t] [(Str.ofString "name", .bool b)]) Q E s := by
  obtain ⟨q, loose, mg, mb, T⟩ := C.T
  have X := C.K
  refine enterX _ C (by omega) rfl (by rfl) (BindsTo.of_eq rfl) (by rfl) (fun h₁ F => ?_)
  have N : News s.heap s.heap.objs.size h₁ [] := News.nil
  have C₁ := C.keeps F.keep
  cases b
  · repeat walk1
    refine method_search (pat_v (by k_in)) ?_
    repeat walk1
    refine call_search (pat_v (by k_in)) hy ho (.inr rfl) (fun e => nomatch e) (fun _ => ?_)
    repeat walk1
    exact hQ _ _ (Fr.keep (by assumption))
  · repeat walk1
    refine method_search (pat_n (by k_in)) ?_
    repeat walk1
    refine call_search (pat_n (by k_in)) hy ho (.inr rfl) (fun e => nomatch e) (fun _ => ?_)
    repeat walk1
    exact hQ _ _ (Fr.keep (by assumption))
end Mine
end

/- W16 -/
section
open PySem PySem.W PyProof.Rows
set_option Elab.async false
set_option maxRecDepth 100000
set_option maxHeartbeats 0
namespace Mine
abbrev lawSc : Scope := { kind := ScopeKind.function, names := [(Str.ofString "script", NameKind.local), (Str.ofString "pairs", NameKind.local), (Str.ofString "text", NameKind.local), (Str.ofString "ready", NameKind.local), (Str.ofString "heard", NameKind.local), (Str.ofString "sent", NameKind.local), (Str.ofString "found", NameKind.local), (Str.ofString "line", NameKind.local), (Str.ofString "_law_pairs", NameKind.globalImplicit), (Str.ofString "_law_prepared", NameKind.globalImplicit), (Str.ofString "_law_read", NameKind.globalImplicit), (Str.ofString "_law_written", NameKind.globalImplicit), (Str.ofString "_law_due", NameKind.globalImplicit)], isGenerator := false, isCoroutine := false, more := [(Str.ofString "fast", Const.str (Str.ofString "script")), (Str.ofString "fast", Const.str (Str.ofString "pairs")), (Str.ofString "fast", Const.str (Str.ofString "raw")), (Str.ofString "fast", Const.str (Str.ofString "made")), (Str.ofString "fast", Const.str (Str.ofString "text")), (Str.ofString "fast", Const.str (Str.ofString "ready")), (Str.ofString "fast", Const.str (Str.ofString "heard")), (Str.ofString "fast", Const.str (Str.ofString "sent")), (Str.ofString "fast", Const.str (Str.ofString "found")), (Str.ofString "fast", Const.str (Str.ofString "line"))] }
abbrev lawEnv (fa : Addr) (lcd : Value) (L : Addr) : Env := envOf (Str.ofString "law") lawSc L fa lcd
abbrev wrSc : Scope := { kind := ScopeKind.function, names := [(Str.ofString "text", NameKind.local), (Str.ofString "table", NameKind.local), (Str.ofString "Headers", NameKind.globalImplicit), (Str.ofString "ValueError", NameKind.globalImplicit)], isGenerator := false, isCoroutine := false }
abbrev wrEnv (L : Addr) : Env := envOf (Str.ofString "_law_written") wrSc L 310 (.ref 309)
local macro_rules | `(tactic| walk_at "execs cons") => `(tactic| (run_tac Mine.keepTok))
local macro_rules | `(tactic| walk_at "execs nil") => `(tactic| (run_tac Mine.keepTok))
abbrev hdrD (P : Params) (tk : Tok) (l1 : Addr) : Obj := dictOf [{ hash := PyData.keyHash P (Str.ofString "_headers"), key := Value.str (Str.ofString "_headers") tk, val := Value.ref l1 }] 1
theorem allLt_lt {d : Nat} {l : List (Addr × Obj)} (h : AllLt d l) : ∀ p ∈ l, @LT.lt Nat _ p.1 d := by
  induction l with
  | nil => intro p hp; cases hp
  | cons q r ih =>
    intro p hp
    have h1 : @LT.lt Nat _ q.1 d := h.1
    rcases List.mem_cons.mp hp with e | hp
    · rw [e]; exact h1
    · exact ih h.2 p hp
theorem addhK (w : World) {fa : Addr} {lcd : Value} (l : List Nat) (t tn tkh : Tok) (s : Shared) {hb h₀ : Heap} {L0 L x d l1 : Addr} {m : Str → Option Value} {news : List (Addr × Obj)} {p : Program} {loose : List Str} {mean : ExcName → Option Value} {mg mb : Str → Option Value}
    {Q E : Value → Shared → Prop} (B : Below (callerA.deeper (lawEnv fa lcd L0)) hb [lawEnv fa lcd L0] h₀) (F : Fr h₀ L s.heap m) (N : News h₀ L s.heap ((l1, listOf #[] 0) :: (x, instObj 280 d) :: (d, hdrD w.params tkh l1) :: news)) (X : (Mine.K w.params).In h₀) (T : Top p loose mean mg mb h₀)
    (hl : l.length ≤ 100000) (hr : refused l = false) (hs : s.toks ≠ 0) (lt1 : @LT.lt Nat _ x l1) (lt2 : @LT.lt Nat _ d x) (hn : AllLt d news)
    (hQ : ∀ h' tk Tp tn' t', Fr h₀ L h' m → News h₀ L h' ((l1, listOf #[.ref Tp] 1) :: (x, instObj 280 d) :: (d, hdrD w.params tkh l1) :: news) → News h₀ L h' [(Tp, { cls := .type "tuple", data := .seq #[.str (Str.ofString "Name") tn', .str (tx (fpar l)) t'] })] → tk ≠ 0 → Q .none { s with heap := h', toks := tk }) :
    wpAny (model pg w) ((callerA.deeper (lawEnv fa lcd L0)).deeper (wrEnv L)) (call (.ref 277) [.ref x, .str (Str.ofString "Name") tn, .none] [(Str.ofString "kind", .str (tx l) t)]) Q E s := by
  have hl2 : (tx l).length = l.length := tx_len l
  refine wpAny_with_toks (n := 1) (by omega) ?_
  repeat ((run_tac notStmt ``PySem.Stmt.For); walk1)
  rename_i D o g' L' _ _ lo hsd fs FG B' X' T' lA lp _ lB h₁ F₁ N₁ hne
  have off : OwnOff news [lp, D, l1, x, d] := by
    intro p hp b hb
    have h1 := allLt_lt hn p hp
    obtain ⟨a1, a2, a3, a4, _⟩ := lB
    obtain ⟨a5, a6, a7, _⟩ := lA
    simp only [List.mem_cons, List.not_mem_nil, or_false] at hb
    rcases hb with rfl | rfl | rfl | rfl | rfl <;> exact Nat.ne_of_lt (by omega)
  have Tb : StrTab pg w h₁ D [(PyData.str (Str.ofString "kind"), PyData.str (tx l))] := TabAt.ofNews N₁ (.tail _ (.head _)) lo hsd fs
  refine For_pair_inv g' ?_ (by intro _; rfl)
  refine MethodCall_ ?_
  refine ld F₁ (by rfl) ?_
  refine getMethod_tab PySem.F.slot_dict_items PySem.F.type_dict_items Tb ?_
  refine callWith_method0 ?_
  refine call_items_tab Tb F₁ N₁ ?_
  intro h₂ o₂ hv₂ F₂ N₂
  have Td : h₂.DictOf (strKind pg w) D [(Str.ofString "kind", Value.str (tx l) t)] := by
    obtain ⟨es, n, hq⟩ := hsd
    exact ⟨o, es, n, (N₂ _ (.tail _ (.tail _ (.head _)))).1, hq⟩
  refine iter_one (by rfl) (by rfl) (by rfl) (by rfl) hv₂ Td F₂ N₂ ⟨o, .tail _ (.tail _ (.head _))⟩ ?_
  intro t3 it oI h₃ tk₃ hit hlt F₃ N₃ htk
  dsimp only at htk
  have q0 : @LT.lt Nat _ lp h₁.objs.size := Heap.lt_size (N₁ _ (.head _)).1
  have q1 : @LT.lt Nat _ h₁.objs.size it := hlt _ (.head _)
  have q2 : @LT.lt Nat _ lp it := hlt _ (.tail _ (.head _))
  clear F₂ N₂ F₁ N₁ Tb Td hlt
  have hsz : (tx l).cps.size < 2 ^ 62 := by show (tx l).length < _; omega
  have hne3 : tk₃ ≠ 0 := by omega
  repeat ((run_tac notCall [179]); walk1)
  refine wpAny_with_toks (n := 1) (by show 1 ≤ (_ : Nat); first | omega | (dsimp only; omega)) ?_
  refine conv w _ _ _ true _ (by decide) name_ok1 (by rfl) ⟨by k_in, _, _, _, _, (topRead_of (by assumption)).keeps (Fr.keep (by assumption))⟩ (by k_room) (by units_room) fun h₄ tk₄ k₄ n₄ => ?_
  have F₄ := Fr.keeps (by assumption) k₄
  have N₄ := News.grown (by assumption) k₄
  dsimp only at F₄ N₄ n₄ ⊢
  repeat ((run_tac notCall [179]); walk1)
  refine wpAny_with_toks (n := 1) (by show 1 ≤ (_ : Nat); first | omega | (dsimp only; omega)) ?_
  refine conv w _ _ _ false _ hsz (search_ok hr) (by rfl) ⟨by k_in, _, _, _, _, (topRead_of (by assumption)).keeps (Fr.keep (by assumption))⟩ (by k_room) (by units_room) fun h₅ tk₅ k₅ n₅ => ?_
  have F₅ := Fr.keeps (by assumption) k₅
  have N₅ := News.grown (by assumption) k₅
  dsimp only at F₅ N₅ n₅ ⊢
  repeat ((run_tac notB "str.replace"); walk1)
  refine replaceK (by show (_ : Nat) ≠ _; first | omega | (dsimp only; omega)) (by show (_ : Nat) ≠ _; first | omega | (dsimp only; omega)) (by show (_ : Nat) ≠ _; first | omega | (dsimp only; omega)) (by decide) (by decide) (by decide) ?_
  intro t6 k6 hk6
  dsimp only at hk6
  rw [show Txt.replace (Str.ofString "kind") (Str.ofString "_") (Str.ofString "-") = Str.ofString "kind" from by kernel_rfl]
  repeat ((run_tac notCall [157]); walk1)
  refine wpAny_with_toks (n := 1) (by show 1 ≤ (_ : Nat); first | omega | (dsimp only; omega)) ?_
  refine fparam w l _ _ _ hl ?hs _ _ _ ?hh ?hC ?hd ?hu fun v s' k e htk7 => ?_
  case hs => show (_ : Nat) ≠ _; first | omega | (dsimp only; omega)
  case hh => rfl
  case hC => exact ⟨by k_in, _, _, _, _, (topRead_of (by assumption)).keeps (Fr.keep (by assumption))⟩
  case hd => k_room
  case hu => units_room
  obtain ⟨t', rfl⟩ := e
  obtain ⟨h₇, tk₇, rfl, k₇⟩ := k
  have F₇ := Fr.keeps (by assumption) k₇
  have N₇ := News.grown (by assumption) k₇
  dsimp only at F₇ N₇ htk7 ⊢
  repeat ((run_tac notCall [179]); walk1)
  refine OneEnd.intro rfl (by assumption) (by assumption) ⟨o, .tail _ (.tail _ (.head _)), .tail _ (.tail _ (.head _))⟩ ?hi ?_
  case hi =>
    intro p hp
    obtain ⟨b1, b2, b3, b4, _⟩ := lB
    simp only [List.mem_cons] at hp
    rcases hp with rfl | rfl | rfl | rfl | rfl | rfl | hp
    · exact Nat.ne_of_lt q1
    · exact Nat.ne_of_lt q2
    · exact Nat.ne_of_lt (by omega)
    · exact Nat.ne_of_lt (by omega)
    · exact Nat.ne_of_lt (by omega)
    · exact Nat.ne_of_lt (by omega)
    · have := allLt_lt hn p hp; exact Nat.ne_of_lt (by omega)
  intro h₈ tk₈ F₈ N₈
  dsimp only at F₈ N₈ ⊢
  repeat ((run_tac notCall [179]); walk1)
  refine conv w _ _ _ true _ (by decide) name_ok2 (by rfl) ⟨by k_in, _, _, _, _, (topRead_of (by assumption)).keeps (Fr.keep (by assumption))⟩ (by k_room) (by units_room) fun h₉ tk₉ k₉ => ?_
  have F₉ := Fr.keeps (by assumption) k₉
  have N₉ := News.grown (by assumption) k₉
  dsimp only at F₉ N₉ ⊢
  repeat ((run_tac notB "str.join"); walk1)
  have hfl : (fpar l).length ≤ 300000 := by
    have := esc_len l
    unfold fpar
    split <;> simp <;> omega
  refine SC.join (l := [(tx (fpar l), t')]) (texts := [tx (fpar l)]) (News.isList N₉ (.tail _ (.head _))) rfl (by
    unfold JoinOk
    rw [Bool.not_eq_true']
    refine StrLaws.joinFits (B := 300000) (fun y hy => ?_) ?_
    · rw [List.mem_singleton.mp hy, tx_len]; exact hfl
    · simp [show (Str.ofString "; ").length = 2 from rfl]) fun tj kj => ?_
  rw [show Txt.join (Str.ofString "; ") [tx (fpar l)] = tx (fpar l) from by show Builtin.Str.glued _ _ = _; rw [StrLaws.glued_eq_join]; rfl]
  repeat walk1
  rename_i D' _ _ _ _ _ kF kN _ _ hk
  refine hQ _ _ D' tn tj kF (fun p hp => kN p (.tail _ (.tail _ (.tail _ (.tail _ hp))))) (fun p hp => ?_) (by omega)
  rw [List.mem_singleton] at hp
  subst hp
  exact kN _ (.head _)
end Mine
end

/- W19 -/
section
open PySem PySem.W PyProof.Rows
set_option Elab.async false
set_option maxRecDepth 100000
set_option maxHeartbeats 0
namespace Mine
/-- a loop over a list of pairs that leaves in its first turn -/
theorem iter_first {w : World} {A : Around} {E : Value → Shared → Prop} {s : Shared} {env : Env} {h₀ : Heap} {m : Str → Option Value} {news : List (Addr × Obj)} {ax t : Addr} {its : Array Value} {v₁ v₂ : Value} {xk xv : Str} {body : List Stmt} {Q : Flow → Shared → Prop}
    (hh : A.handled = none) (hxk : env.kindOf xk = some .local) (hxv : env.kindOf xv = some .local)
    (hp : (env.scope.kind == .class || (env.scope.kind == .module && env.locals != env.globals)) = false)
    (hl : s.heap.IsList ax its) (h0 : its[0]? = some (.ref t)) (ht : IsTup s.heap t #[v₁, v₂]) (F : Fr h₀ env.locals s.heap m) (N : News h₀ env.locals s.heap news)
    (step : ∀ h₁ tk₁, Fr h₀ env.locals h₁ (fun y => if y = xv then some v₂ else if y = xk then some v₁ else m y) → News h₀ env.locals h₁ news →
      wpAny (model pg w) A (execs body env) (fun f s₂ => match f with | .ret v => Q (.ret v) s₂ | _ => False) E { s with heap := h₁, toks := tk₁ })
    (hE : PassesOwn (model pg w) A env E := by passes_own) :
    wpAny (model pg w) A (pyIter (.ref ax)) (fun it s₂ => PairLoopAt pg w A h₀ env xk xv body Q E it s₂) E s := by
  refine wpAny_pyIter_list hl ?_
  intro pk pv pt x1
  have hlt : ax < s.heap.objs.size := by obtain ⟨_, e, _⟩ := hl; exact Heap.lt_size e
  have W := Walks.list (prog := pg) (w := w) hh s.heap.objs.size ax (Nat.ne_of_lt hlt) its
  have hin : h₀.get? s.heap.objs.size = none := next_is_new F
  have hiL : s.heap.objs.size ≠ env.locals := Nat.ne_of_gt F.ns.lt
  generalize hI : s.heap.objs.size = I at *
  generalize hH : s.heap.push { cls := .type "list_iterator", data := .fields #[.ref ax, .int 0 0] } = H
  have up : ∀ b o, s.heap.get? b = some o → H.get? b = some o := fun b o e => hH ▸ Heap.get?_push_of_some _ e
  have hst : H.IsListIter I ax 0 ∧ H.IsList ax its := ⟨hH ▸ hI ▸ ⟨_, Heap.get?_push_size _ rfl, rfl, rfl⟩, hl.at fun o e => up _ _ e⟩
  have ltI : ∀ b o, s.heap.get? b = some o → b < I := fun b o e => hI ▸ Heap.lt_size e
  have hsz : 0 < its.size := by
    rcases Nat.eq_zero_or_pos its.size with e | e
    · rw [Array.getElem?_eq_none (by omega)] at h0; cases h0
    · exact e
  refine codeAny_forLoop_any (fun n s' => s' = { s with heap := H }) (fun n s' e => ?_) 1 rfl
  subst e
  refine W.item 0 _ _ _ hsz hst fun v h₂ tk₂ hPv hst₂ hk₂ => ?_
  have hk₂' : ∀ b o, b ≠ I → H.get? b = some o → h₂.get? b = some o := fun b o hb e => hk₂ b o (by simpa using hb) e
  have s1k : ∀ b o, s.heap.get? b = some o → h₂.get? b = some o := fun b o e => hk₂' b o (Nat.ne_of_lt (ltI b o e)) (up b o e)
  obtain rfl : v = .ref t := by
    have : its[0]? = some v := by simpa using hPv
    rw [h0] at this; injection this with this; exact this.symm
  have ht₂ : IsTup h₂ t #[v₁, v₂] := by
    obtain ⟨ot, e1, e2⟩ := ht
    exact ⟨ot, s1k _ _ e1, e2⟩
  refine wpAny_letOwnedTupleGo_listiter hst₂.1 ?_
  refine assign_Tuple_tuple hh ht₂ rfl rfl fun h₅ he => ?_
  have he' : ∀ b o, h₂.get? b = some o → h₅.get? b = some o := fun b o e => he b o (Nat.ne_of_lt (Heap.lt_size e)) e
  have F₅ : Fr h₀ env.locals h₅ m := F.keeps fun b o e => he' b o (s1k b o e)
  have N₅ : News h₀ env.locals h₅ news := N.grown fun b o e => he' b o (s1k b o e)
  refine assignInOrder_cons (wpAny_assign_Name (wpAny_storeName_local hxk F₅.ns (fun h₆ hn₆ hs₆ => ?_) hp))
  have F₆ := F₅.set hn₆ hs₆
  have N₆ := N₅.set hs₆
  refine assignInOrder_cons (wpAny_assign_Name (wpAny_storeName_local hxv F₆.ns (fun h₃ hn₃ hs₃ => ?_) hp))
  refine assignInOrder_nil ?_
  have F₃ := F₆.set hn₃ hs₃
  have N₃ := N₆.set hs₃
  refine wpAny_mono (step h₃ _ F₃ N₃) (fun f s₃ h₆ => ?_) hE
  cases f with
  | next => exact h₆.elim
  | cont => exact h₆.elim
  | brk => exact h₆.elim
  | ret v => exact h₆
end Mine
end

/- W18 -/
section
open PySem PySem.W PyProof.Rows
set_option Elab.async false
set_option maxRecDepth 100000
set_option maxHeartbeats 0
namespace Mine
theorem getK (w : World) {fa : Addr} {lcd : Value} (tn tkh tn' t' : Tok) (r : Str) (s : Shared) {hb h₀ : Heap} {L0 L x d l1 Tp : Addr} {m : Str → Option Value} {news : List (Addr × Obj)} {p : Program} {loose : List Str} {mean : ExcName → Option Value} {mg mb : Str → Option Value}
    {Q E : Value → Shared → Prop} (B : Below (callerA.deeper (lawEnv fa lcd L0)) hb [lawEnv fa lcd L0] h₀) (F : Fr h₀ L s.heap m)
    (N : News h₀ L s.heap ((Tp, { cls := .type "tuple", data := .seq #[.str (Str.ofString "Name") tn', .str r t'] }) :: (l1, listOf #[.ref Tp] 1) :: (x, instObj 280 d) :: (d, hdrD w.params tkh l1) :: news)) (X : (Mine.K w.params).In h₀) (T : Top p loose mean mg mb h₀)
    (hQ : ∀ h' tk, Fr h₀ L h' m → News h₀ L h' ((Tp, { cls := .type "tuple", data := .seq #[.str (Str.ofString "Name") tn', .str r t'] }) :: (l1, listOf #[.ref Tp] 1) :: (x, instObj 280 d) :: (d, hdrD w.params tkh l1) :: news) → Q (.str r t') { s with heap := h', toks := tk }) :
    wpAny (model pg w) ((callerA.deeper (lawEnv fa lcd L0)).deeper (wrEnv L)) (call (.ref 227) [.ref x, .str (Str.ofString "NAME") tn]) Q E s := by
  repeat ((run_tac notCall [179]); walk1)
  refine conv w _ _ _ true _ (by decide) name_ok3 (by rfl) ⟨by k_in, _, _, _, _, (topRead_of (by assumption)).keeps (Fr.keep (by assumption))⟩ (by k_room) (by units_room) fun h₄ tk₄ k₄ => ?_
  have F₄ := Fr.keeps (by assumption) k₄
  have N₄ := News.grown (by assumption) k₄
  dsimp only at F₄ N₄ ⊢
  repeat ((run_tac notStmt ``PySem.Stmt.For); walk1)
  rename_i h₆ F₆ N₆
  refine For_pair_unrF F₆ ?_ (by intro _; rfl)
  repeat walk1
  refine iter_first (t := Tp) (by rfl) (by rfl) (by rfl) (by rfl) (News.isList N₆ (.tail _ (.head _))) rfl ⟨_, (N₆ _ (.head _)).1, rfl, _, rfl⟩ F₆ N₆ fun h₇ tk₇ F₇ N₇ => ?_
  repeat walk1
  exact hQ _ _ (by assumption) (by assumption)
end Mine
end

/- W20 -/
section
open PySem PySem.W PyProof.Rows
set_option Elab.async false
set_option maxRecDepth 100000
set_option maxHeartbeats 0
namespace Mine
local macro_rules | `(tactic| walk_at "execs cons") => `(tactic| (run_tac Mine.keepTok))
local macro_rules | `(tactic| walk_at "execs nil") => `(tactic| (run_tac Mine.keepTok))
theorem for_none {w : World} {A : Around} {E : Value → Shared → Prop} {Q : Flow → Shared → Prop} {s : Shared} {env : Env} {target iter : Expr} {body : List Stmt} {pos : Pos} (hh : A.handled = none)
    (h : wpAny (model pg w) A (eval iter env) (fun x s₁ => ∃ l, x = .ref l ∧ s₁.heap.IsList l #[] ∧ ∀ h' tk, (∀ b o, s₁.heap.get? b = some o → h'.get? b = some o) → Q .next { s₁ with heap := h', toks := tk }) E s)
    (hs : ∀ x, foldedSetIterable iter env x = pure x := by intro _; rfl) :
    wpAny (model pg w) A (exec (.For target iter body [] pos) env) Q E s := by
  refine wpAny_For (wpAny_mono h (fun x s₁ h₁ => ?_) fun _ _ e => e) hs
  obtain ⟨l, rfl, hl, hQ⟩ := h₁
  refine wpAny_pyIter_list hl ?_
  generalize hH : s₁.heap.push { cls := .type "list_iterator", data := .fields #[.ref l, .int 0 0] } = H
  have hit : H.IsListIter s₁.heap.objs.size l 0 := hH ▸ ⟨_, Heap.get?_push_size _ rfl, rfl, rfl⟩
  have up : ∀ b o, s₁.heap.get? b = some o → H.get? b = some o := fun b o e => hH ▸ Heap.get?_push_of_some _ e
  have hl' : H.IsList l #[] := hl.at fun o e => up _ _ e
  have hne : l ≠ s₁.heap.objs.size := by obtain ⟨o, ho, _⟩ := hl; exact Nat.ne_of_lt (Heap.lt_size ho)
  have W := Walks.list (prog := pg) (w := w) (A := A.mark none) hh s₁.heap.objs.size l hne #[]
  refine codeAny_forLoop_any (fun _ s' => s' = { s₁ with heap := H }) (fun n s' e => ?_) 0 rfl
  subst e
  refine wpAny_pyNext_list_end hh hit hl' (by simp) fun h' he' => ?_
  refine wpAny_execs_nil ?_
  exact hQ h' _ fun b o e => he' b o (Nat.ne_of_lt (Heap.lt_size e)) (up b o e)
theorem news_cons {h₀ h : Heap} {L : Addr} {a : Addr × Obj} {news : List (Addr × Obj)} (x : News h₀ L h [a]) (y : News h₀ L h news) : News h₀ L h (a :: news) := fun p hp => by
  rcases List.mem_cons.mp hp with rfl | hp
  · exact x _ (.head _)
  · exact y p hp
theorem fpar_len (l : List Nat) : 4 ≤ (fpar l).length ∧ (fpar l).length ≤ 2 * l.length + 7 := by
  have := esc_len l
  unfold fpar
  split <;> simp <;> omega
theorem fpar_drop (l : List Nat) : some ((fpar l).drop 6) = if l == [] then some [] else some (esc l ++ [34]) := by
  unfold fpar; split <;> rfl
theorem fpar_slice (l : List Nat) : Txt.slice (tx (fpar l)) (some 6) none = tx ((fpar l).drop 6) := by
  cases l with
  | nil => decide +kernel
  | cons a r =>
    refine slice_tx_from ⟨by decide, ?_⟩
    have : fpar (a :: r) = [107, 105, 110, 100, 61, 34] ++ esc (a :: r) ++ [34] := rfl
    rw [this]; simp; omega
theorem written (w : World) {fa : Addr} {lcd : Value} (l : List Nat) (t : Tok) (s : Shared) {h₀ : Heap} {L : Addr} {m : Str → Option Value} {news : List (Addr × Obj)} {p : Program} {loose : List Str} {mean : ExcName → Option Value} {mg mb : Str → Option Value}
    {Q E : Value → Shared → Prop} 
    (B : Below callerA h₀ [] h₀) (F : Fr h₀ L s.heap m) (N : News h₀ L s.heap news) (X : (Mine.K w.params).In h₀) (T : Top p loose mean mg mb h₀) (hl : l.length ≤ 100000) (hs : s.toks ≠ 0)
    (hQ : ∀ v s', Fr h₀ L s'.heap m → News h₀ L s'.heap news → Ov s'.heap v (clo l l) → 1 ≤ s'.toks → s'.gens = s.gens → s'.os = s.os → Q v s') :
    wpAny (model pg w) (callerA.deeper (lawEnv fa lcd L)) (call (.ref 310) [.str (tx l) t]) Q E s := by
  have hl2 : (tx l).length = l.length := tx_len l
  have hsz : (tx l).cps.size < 2 ^ 62 := by show (tx l).length < _; omega
  refine wpAny_with_toks (n := 1) (by omega) ?_
  refine wpAny_call ?_
  kts_go
  repeat ((run_tac notCall [277]); walk1)
  refine for_none (by rfl) ?_
  iterate 1 walk1
  refine ⟨_, rfl, News.isList (by assumption) (.head _), fun h₉ tk₉ k₉ => ?_⟩
  have F₉ := Fr.keeps (by assumption) k₉
  have N₉ := News.grown (by assumption) k₉
  repeat ((run_tac notCall [277]); walk1)
  cases hr : refused l
  · refine wpAny_with_toks (n := 1) (by show 1 ≤ (_ : Nat); first | omega | (dsimp only; omega)) ?_
    refine addhK w l t _ _ _ (by assumption) (by assumption) (by assumption) (by k_in) (by assumption) hl hr ?hs ?lt1 ?lt2 ?hn ?_
    case hs => show (_ : Nat) ≠ _; first | omega | (dsimp only; omega)
    case lt1 => omega
    case lt2 => omega
    case hn => exact allLt_of (by assumption)
    intro h₂ tk₂ Tp tn' t' F₂ N₂ N₃ n₂ htk
    have N₄ := news_cons N₃ N₂
    clear N₂ N₃
    dsimp only at F₂ N₄ htk ⊢
    repeat ((run_tac notCall [227]); walk1)
    refine wpAny_with_toks (n := 1) (by show 1 ≤ (_ : Nat); first | omega | (dsimp only; omega)) ?_
    refine getK w _ _ tn' t' (tx (fpar l)) _ (by assumption) (by assumption) (by assumption) (by k_in) (by assumption) ?_
    intro h₃ tk₃ F₃ N₃ htk₃
    dsimp only at F₃ N₃ htk₃ ⊢
    have hz1 : (tx (fpar l)).length = (fpar l).length := tx_len _
    have hz2 := fpar_len l
    repeat walk1
    rename_i kF kN _ _ hk
    refine hQ _ _ kF (fun p hp => kN p (.tail _ (.tail _ (.tail _ (.tail _ hp))))) ?_ hk (by rfl) (by rfl)
    rw [clo, hr, fpar_slice]
    simp only [Bool.false_eq_true, if_false]
    rw [← fpar_drop]
    exact ⟨_, rfl⟩
  · repeat ((run_tac notStmt ``PySem.Stmt.For); walk1)
    rename_i D o g' L' _ _ lo hsd fs FG B' X' T' lA lp _ lB h₁ F₁ N₁ hne
    have Tb : StrTab pg w h₁ D [(PyData.str (Str.ofString "kind"), PyData.str (tx l))] := TabAt.ofNews N₁ (.tail _ (.head _)) lo hsd fs
    refine For_pair_inv g' ?_ (by intro _; rfl)
    refine MethodCall_ ?_
    refine ld F₁ (by rfl) ?_
    refine getMethod_tab PySem.F.slot_dict_items PySem.F.type_dict_items Tb ?_
    refine callWith_method0 ?_
    refine call_items_tab Tb F₁ N₁ ?_
    intro h₂ o₂ hv₂ F₂ N₂
    have Td : h₂.DictOf (strKind pg w) D [(Str.ofString "kind", Value.str (tx l) t)] := by
      obtain ⟨es, n, hq⟩ := hsd
      exact ⟨o, es, n, (N₂ _ (.tail _ (.tail _ (.head _)))).1, hq⟩
    refine iter_one (by rfl) (by rfl) (by rfl) (by rfl) hv₂ Td F₂ N₂ ⟨o, .tail _ (.tail _ (.head _))⟩ ?_
    intro t3 it oI h₃ tk₃ hit hlt F₃ N₃ htk
    dsimp only at htk
    clear F₂ N₂ F₁ N₁ Tb Td
    have hne3 : tk₃ ≠ 0 := by omega
    repeat walk1
    refine method_search (pat_n (by k_in)) ?_
    repeat walk1
    refine call_search (pat_n (by k_in)) (by decide) name_ok1 (.inr rfl) (fun e => nomatch e) (fun _ => ?_)
    repeat walk1
    refine method_search (pat_v (by k_in)) ?_
    repeat walk1
    refine call_search (pat_v (by k_in)) hsz (search_bad hr) (.inl rfl) (fun _ h₈ r₈ vs₈ k₈ hr₈ hn₈ => ?_) (fun e => nomatch e)
    have F₈ := Fr.keeps (by assumption) k₈
    have N₈ := News.grown (by assumption) k₈
    refine truthy_match hr₈ ?_
    repeat walk1
    rename_i kF kN _ _ hk
    refine hQ _ _ kF (fun p hp => kN p (.tail _ (.tail _ (.tail _ (.tail _ (.tail _ (.tail _ (.tail _ (.tail _ hp))))))))) ?_ hk (by rfl) (by rfl)
    rw [clo, hr]
    exact ⟨_, rfl, News.isList kN (.head _)⟩
end Mine
end

/- W23 -/
section
open PySem PySem.W PyProof.Rows
set_option Elab.async false
set_option maxRecDepth 100000
set_option maxHeartbeats 0
namespace Mine
/-- a list of pairs of texts -/
def Prs (h : Heap) (v : Value) (ps : List (List Nat × List Nat)) : Prop := ∃ D its, v = .ref D ∧ h.IsList D its ∧ its.size = ps.length ∧
  ∀ (i : Nat) (v : Value), its[i]? = some v → ∃ (t : Addr) (a b : List Nat) (u u' : Tok), v = .ref t ∧ IsTup h t #[.str (tx a) u, .str (tx b) u'] ∧ ps[i]? = some (a, b)
theorem Prs.keeps {h h' : Heap} {v : Value} {ps : List (List Nat × List Nat)} (x : Prs h v ps) (k : ∀ b o, h.get? b = some o → h'.get? b = some o) : Prs h' v ps := by
  obtain ⟨D, its, e, hl, h1, h2⟩ := x
  refine ⟨D, its, e, hl.at fun o e => k _ _ e, h1, fun i v e => ?_⟩
  obtain ⟨t, a, b, u, u', e1, ⟨o, ho, e2⟩, e3⟩ := h2 i v e
  exact ⟨t, a, b, u, u', e1, ⟨o, k _ _ ho, e2⟩, e3⟩
/-- the outcomes of the hands, in a list -/
inductive Ovs (h : Heap) : List Value → List (Option (List Nat)) → Prop
  | nil : Ovs h [] []
  | cons {v : Value} {o : Option (List Nat)} {vs : List Value} {os : List (Option (List Nat))} : Ov h v o → Ovs h vs os → Ovs h (v :: vs) (o :: os)
def Outs (h : Heap) (v : Value) (os : List (Option (List Nat))) : Prop := ∃ D vs, v = .ref D ∧ h.IsList D vs.toArray ∧ Ovs h vs os
def dueOf (R M : List Nat) : List (Option (List Nat)) :=
  let raws := sp R
  let mades := sp M
  let ahead := tld mades mades
  let behind := tld mades raws
  [clo ahead ahead, clo behind behind, fst mades mades, fst mades mades, clo (tld raws raws) behind, fst mades raws]
/-- an outcome that stands as long as the base and these objects stand -/
def Held (h₀ : Heap) (exs : List (Addr × Obj)) (v : Value) (o : Option (List Nat)) : Prop := ∀ h', (∀ b o, h₀.get? b = some o → h'.get? b = some o) → (∀ p ∈ exs, h'.get? p.1 = some p.2) → Ov h' v o
theorem Held.more {h₀ : Heap} {exs exs' : List (Addr × Obj)} {v : Value} {o : Option (List Nat)} (x : Held h₀ exs v o) (sub : ∀ p ∈ exs, p ∈ exs') : Held h₀ exs' v o := fun h' b g => x h' b fun p hp => g p (sub p hp)
theorem hold {h₀ h : Heap} {L : Addr} {m : Str → Option Value} {v : Value} {o : Option (List Nat)} (F : Fr h₀ L h m) (x : Ov h v o) : ∃ ex, News h₀ L h ex ∧ Held h₀ ex v o := by
  cases o with
  | some l => exact ⟨[], News.nil, fun h' _ _ => x⟩
  | none =>
    obtain ⟨D, rfl, ob, ho, hc, n, hd⟩ := x
    cases e : h₀.get? D with
    | some o' =>
      have e2 := F.keep _ _ e
      refine ⟨[], News.nil, fun h' hb _ => ⟨D, rfl, ob, ?_, hc, n, hd⟩⟩
      rw [ho] at e2; injection e2 with e2; subst e2
      exact hb _ _ e
    | none =>
      refine ⟨[(D, ob)], fun p hp => ?_, fun h' _ hg => ⟨D, rfl, ob, hg _ (.head _), hc, n, hd⟩⟩
      rw [List.mem_singleton] at hp; subst hp
      refine ⟨ho, fun e' => ?_, e⟩
      obtain ⟨oL, es, ep, hL, hLd, _⟩ := F.ns
      have e' : D = L := e'
      subst e'
      rw [ho] at hL; injection hL with hL; subst hL
      rw [hd] at hLd; cases hLd
theorem hold2 {h₀ h : Heap} {L : Addr} {m : Str → Option Value} {v : Value} {o : Option (List Nat)} {a b : Addr × Obj} {exs : List (Addr × Obj)} (F : Fr h₀ L h m) (N : News h₀ L h (a :: b :: exs)) (x : Ov h v o) : ∃ exs', News h₀ L h (a :: b :: exs') ∧ (∀ p ∈ exs, p ∈ exs') ∧ Held h₀ exs' v o := by
  obtain ⟨ex, Nx, H⟩ := hold F x
  refine ⟨ex ++ exs, fun p hp => ?_, fun p hp => List.mem_append_right _ hp, H.more fun p hp => List.mem_append_left _ hp⟩
  rcases List.mem_cons.mp hp with rfl | hp
  · exact N _ (.head _)
  rcases List.mem_cons.mp hp with rfl | hp
  · exact N _ (.tail _ (.head _))
  rcases List.mem_append.mp hp with hp | hp
  · exact Nx p hp
  · exact N p (.tail _ (.tail _ hp))
theorem vals_of {h : Heap} : ∀ (its : List Value) (ps : List (List Nat × List Nat)), its.length = ps.length → (∀ (i : Nat) (v : Value), its[i]? = some v → ∃ (t : Addr) (a b : List Nat) (u u' : Tok), v = .ref t ∧ IsTup h t #[.str (tx a) u, .str (tx b) u'] ∧ ps[i]? = some (a, b)) →
    ∃ (L : List (Value × Value)) (L1 L2 : List (Str × Tok)), its.length = L.length ∧ (∀ (i : Nat) (v : Value), its[i]? = some v → ∃ (t : Addr) (v₁ v₂ : Value), v = .ref t ∧ IsTup h t #[v₁, v₂] ∧ L[i]? = some (v₁, v₂)) ∧
      L.map (fun x => x.1) = strValues L1 ∧ L.map (fun x => x.2) = strValues L2 ∧ L1.map (·.1) = (ps.map (·.1)).map tx ∧ L2.map (·.1) = (ps.map (·.2)).map tx
  | [], [], _, _ => ⟨[], [], [], rfl, fun i v e => by simp at e, rfl, rfl, rfl, rfl⟩
  | x :: r, p :: q, hl, hh => by
    obtain ⟨L, L1, L2, e1, e2, e3, e4, e5, e6⟩ := vals_of r q (by simpa using hl) fun i v e => by simpa using hh (i + 1) v (by simpa using e)
    obtain ⟨t, a, b, u, u', e, ht, hp⟩ := hh 0 x rfl
    simp at hp
    subst hp
    refine ⟨(.str (tx a) u, .str (tx b) u') :: L, (tx a, u) :: L1, (tx b, u') :: L2, by simp [e1], fun i v ei => ?_, ?_, ?_, ?_, ?_⟩
    · cases i with
      | zero => simp at ei; subst ei; exact ⟨t, _, _, e, ht, rfl⟩
      | succ i => simpa using e2 i v (by simpa using ei)
    · simp only [List.map_cons, e3]; rfl
    · simp only [List.map_cons, e4]; rfl
    · simp only [List.map_cons, e5]
    · simp only [List.map_cons, e6]
theorem flat_le {ps : List (List Nat × List Nat)} {f : List Nat × List Nat → List Nat} {B n : Nat} (h : ∀ x ∈ ps, (f x).length ≤ B) (hn : ps.length ≤ n) : (ps.map f).flatten.length ≤ n * B := by
  have : (ps.map f).flatten.length ≤ ps.length * B := by
    clear hn
    induction ps with
    | nil => simp
    | cons x r ih =>
      have h1 := h x (.head _)
      have h2 := ih fun y hy => h y (.tail _ hy)
      rw [List.map_cons, List.flatten_cons, List.length_append, List.length_cons, Nat.succ_mul]; omega
  exact Nat.le_trans this (Nat.mul_le_mul_right _ hn)
theorem due (w : World) (D : Addr) (ps : List (List Nat × List Nat)) (s : Shared) (hp : Prs s.heap (.ref D) ps) (hlen : ps.length ≤ 18) (h1 : ∀ ab ∈ ps, ab.1.length ≤ 1 ∧ ab.2.length ≤ 4) (hsl : (sp (ps.map (·.1)).flatten).length = (sp (ps.map (·.2)).flatten).length) :
    Gives w 10 1000 346 [.ref D] s (fun v h => Outs h v (dueOf (ps.map (·.1)).flatten (ps.map (·.2)).flatten)) := by
  intro A E Q hh C hd hu hQ
  obtain ⟨q, loose, mg, mb, T⟩ := C.T
  have X := C.K
  refine enter [(Str.ofString "pairs", .ref D)] C (by omega) rfl (by rfl) (by rfl) (by rfl) (fun h₁ F => ?_)
  have N : News s.heap s.heap.objs.size h₁ [] := News.nil
  have C₁ := C.keeps F.keep
  obtain ⟨Da, its, hD, hl, hsz, hits⟩ := hp
  injection hD with hD
  subst hD
  obtain ⟨L, L1, L2, e1, e2, e3, e4, e5, e6⟩ := vals_of its.toList ps (by simpa using hsz) fun i v e => hits i v (by simpa using e)
  have hl₁ := hl.at (h' := h₁) fun o e => F.keep _ _ e
  have e2₁ : ∀ (i : Nat) (v : Value), its[i]? = some v → ∃ (t : Addr) (v₁ v₂ : Value), v = .ref t ∧ IsTup h₁ t #[v₁, v₂] ∧ L[i]? = some (v₁, v₂) := fun i v e => by
    obtain ⟨t, v₁, v₂, a1, ⟨o, ho, a2⟩, a3⟩ := e2 i v (by simpa using e)
    exact ⟨t, v₁, v₂, a1, ⟨o, F.keep _ _ ho, a2⟩, a3⟩
  repeat ((run_tac notExpr ``PySem.Expr.ListComp); walk1)
  refine comp_pairs (fun x => x.1) hh ?_
  repeat ((run_tac isTree); walk1)
  refine ⟨D, its, L, rfl, hl₁, by simpa using e1, Nat.le_trans (by omega : its.size ≤ 18) (by decide), e2₁, fun C' v₁ v₂ s₃ m₃ E' hn m1 m2 hk => ?_, fun D' h₂ tk₂ hD' hpl k₂ => ?_⟩
  · exact wpAny_Name (wpAny_loadName_local (by rfl) (by rfl) hn m1 ⟨rfl, _, _, rfl, fun _ _ e => e⟩) (by decide)
  rw [e3] at hpl
  have F₂ := F.keeps k₂
  have N₂ : News s.heap s.heap.objs.size h₂ [] := News.nil
  clear F N
  dsimp only at F₂ N₂ ⊢
  repeat ((run_tac notB "str.join"); walk1)
  refine SC.join hpl.isList e5 (join_ok (B := 4) (fun a ha => by obtain ⟨x, hx, rfl⟩ := List.mem_map.mp ha; have := h1 x hx; omega) (by rw [List.length_map]; omega)) fun t3 k3 => ?_
  rw [join_tx]
  have hR : (ps.map (·.1)).flatten.length ≤ 18 := flat_le (B := 1) (fun x hx => (h1 x hx).1) hlen
  have hM : (ps.map (·.2)).flatten.length ≤ 72 := flat_le (B := 4) (fun x hx => (h1 x hx).2) hlen
  generalize (ps.map (·.1)).flatten = R at hR hQ hsl ⊢
  generalize hMe : (ps.map (·.2)).flatten = M at hM hQ hsl
  have hRx : (tx R).length = R.length := tx_len _
  have hMx : (tx M).length = M.length := tx_len _
  repeat ((run_tac notB "str.split"); walk1)
  refine splitN1 (by assumption) (by assumption) (by rfl) (fun lr h₃ k₃ hlr F₃ N₃ => ?_) (by rw [sizeLine_eq]; omega)
  rw [show Str.ofString "\"" = ⟨#[34]⟩ from rfl, split_tx] at hlr
  dsimp only at F₃ N₃ ⊢
  clear F₂ N₂
  repeat ((run_tac notExpr ``PySem.Expr.ListComp); walk1)
  rename Fr _ _ _ _ => F₄
  rename News _ _ _ _ => N₄
  refine comp_pairs (fun x => x.2) hh ?_
  repeat ((run_tac isTree); walk1)
  refine ⟨D, its, L, rfl, hl.at fun o e => F₄.keep _ _ e, by simpa using e1, Nat.le_trans (by omega : its.size ≤ 18) (by decide), fun i v e => by
    obtain ⟨t, v₁, v₂, a1, ⟨o, ho, a2⟩, a3⟩ := e2 i v (by simpa using e)
    exact ⟨t, v₁, v₂, a1, ⟨o, F₄.keep _ _ ho, a2⟩, a3⟩, fun C' v₁ v₂ s₃ m₃ E' hn m1 m2 hk => ?_, fun D' h₅ tk₅ hD' hpl k₅ => ?_⟩
  · exact wpAny_Name (wpAny_loadName_local (by rfl) (by rfl) hn m2 ⟨rfl, _, _, rfl, fun _ _ e => e⟩) (by decide)
  rw [e4] at hpl
  have F₅ := F₄.keeps k₅
  have N₅ := N₄.grown k₅
  clear F₄ N₄
  dsimp only at F₅ N₅ ⊢
  repeat ((run_tac notB "str.join"); walk1)
  refine SC.join hpl.isList e6 (join_ok (B := 4) (fun a ha => by obtain ⟨x, hx, rfl⟩ := List.mem_map.mp ha; have := h1 x hx; omega) (by rw [List.length_map]; omega)) fun t6 k6 => ?_
  rw [join_tx, hMe]
  repeat ((run_tac notB "str.split"); walk1)
  refine splitN1 (by assumption) (by assumption) (by rfl) (fun lm h₆ k₆ hlm F₆ N₆ => ?_) (by rw [sizeLine_eq]; omega)
  rw [show Str.ofString "\"" = ⟨#[34]⟩ from rfl, split_tx] at hlm
  dsimp only at F₆ N₆ ⊢
  clear F₅ N₅
  repeat walk1
  rename Fr _ _ _ _ => Fa
  rename News _ _ _ _ => Na
  refine told w _ _ (sp M) (sp M) _ ⟨_, lm, rfl, News.isList Na (.head _), hlm⟩ ⟨_, lm, rfl, News.isList Na (.head _), hlm⟩ (sp_ne M) rfl (by have := sp_len M; omega) (by have := tld_sp_len M (sp M); omega) _ _ _ hh (C.keeps Fa.keep) (by show A.depth + 1 + _ < _; omega) (by show A.units + 3 + _ < _; omega) fun v s' k e => ?_
  obtain ⟨t11, rfl⟩ := e
  obtain ⟨h11, tk11, rfl, k11⟩ := k
  have F11 := Fa.keeps k11
  have N11 := Na.grown k11
  clear Fa Na
  dsimp only at F11 N11 ⊢
  repeat walk1
  rename Fr _ _ _ _ => Fa
  rename News _ _ _ _ => Na
  refine told w _ _ (sp M) (sp R) _ ⟨_, lm, rfl, News.isList Na (.head _), hlm⟩ ⟨_, lr, rfl, News.isList Na (.tail _ (.head _)), hlr⟩ (sp_ne M) hsl.symm (by have := sp_len M; omega) (by have := tld_sp_len M (sp R); omega) _ _ _ hh (C.keeps Fa.keep) (by show A.depth + 1 + _ < _; omega) (by show A.units + 3 + _ < _; omega) fun v s' k e => ?_
  obtain ⟨t12, rfl⟩ := e
  obtain ⟨h12, tk12, rfl, k12⟩ := k
  have F12 := Fa.keeps k12
  have N12 := Na.grown k12
  clear Fa Na
  dsimp only at F12 N12 ⊢
  have z1 := tld_sp_len M (sp M)
  have z2 := tld_sp_len M (sp R)
  have z3 := tld_sp_len R (sp R)
  repeat walk1
  rename Fr _ _ _ _ => Fa
  rename News _ _ _ _ => Na
  refine closed w (tld (sp M) (sp M)) (tld (sp M) (sp M)) t11 t11 _ (by omega) (by omega) _ _ _ hh (C.keeps Fa.keep) (by show A.depth + 1 + _ < _; omega) (by show A.units + 3 + _ < _; omega) fun w13 s' k o13 => ?_
  obtain ⟨h13, tk13, rfl, k13⟩ := k
  have F13 := Fa.keeps k13
  have N13 := Na.grown k13
  clear Fa Na
  dsimp only at F13 N13 o13 ⊢
  obtain ⟨exs13, Nb13, sub13, H13⟩ := hold2 F13 N13 o13
  clear N13
  repeat walk1
  rename Fr _ _ _ _ => Fa
  rename News _ _ _ _ => Na
  refine closed w (tld (sp M) (sp R)) (tld (sp M) (sp R)) t12 t12 _ (by omega) (by omega) _ _ _ hh (C.keeps Fa.keep) (by show A.depth + 1 + _ < _; omega) (by show A.units + 3 + _ < _; omega) fun w14 s' k o14 => ?_
  obtain ⟨h14, tk14, rfl, k14⟩ := k
  have F14 := Fa.keeps k14
  have N14 := Na.grown k14
  clear Fa Na
  dsimp only at F14 N14 o14 ⊢
  obtain ⟨exs14, Nb14, sub14, H14⟩ := hold2 F14 N14 o14
  clear N14
  replace H13 := H13.more sub14
  repeat walk1
  rename Fr _ _ _ _ => Fa
  rename News _ _ _ _ => Na
  refine first w _ _ (sp M) (sp M) _ ⟨_, lm, rfl, News.isList Na (.head _), hlm⟩ ⟨_, lm, rfl, News.isList Na (.head _), hlm⟩ (sp_ne M) rfl (by have := sp_len M; omega) (fun a ha => by have := sp_mem_len ha; omega) _ _ _ hh (C.keeps Fa.keep) (by show A.depth + 1 + _ < _; omega) (by show A.units + 3 + _ < _; omega) fun w15 s' k o15 => ?_
  obtain ⟨h15, tk15, rfl, k15⟩ := k
  have F15 := Fa.keeps k15
  have N15 := Na.grown k15
  clear Fa Na
  dsimp only at F15 N15 o15 ⊢
  obtain ⟨exs15, Nb15, sub15, H15⟩ := hold2 F15 N15 o15
  clear N15
  replace H13 := H13.more sub15
  replace H14 := H14.more sub15
  repeat walk1
  rename Fr _ _ _ _ => Fa
  rename News _ _ _ _ => Na
  refine first w _ _ (sp M) (sp M) _ ⟨_, lm, rfl, News.isList Na (.head _), hlm⟩ ⟨_, lm, rfl, News.isList Na (.head _), hlm⟩ (sp_ne M) rfl (by have := sp_len M; omega) (fun a ha => by have := sp_mem_len ha; omega) _ _ _ hh (C.keeps Fa.keep) (by show A.depth + 1 + _ < _; omega) (by show A.units + 3 + _ < _; omega) fun w16 s' k o16 => ?_
  obtain ⟨h16, tk16, rfl, k16⟩ := k
  have F16 := Fa.keeps k16
  have N16 := Na.grown k16
  clear Fa Na
  dsimp only at F16 N16 o16 ⊢
  obtain ⟨exs16, Nb16, sub16, H16⟩ := hold2 F16 N16 o16
  clear N16
  replace H13 := H13.more sub16
  replace H14 := H14.more sub16
  replace H15 := H15.more sub16
  repeat walk1
  rename Fr _ _ _ _ => Fa
  rename News _ _ _ _ => Na
  refine told w _ _ (sp R) (sp R) _ ⟨_, lr, rfl, News.isList Na (.tail _ (.head _)), hlr⟩ ⟨_, lr, rfl, News.isList Na (.tail _ (.head _)), hlr⟩ (sp_ne R) rfl (by have := sp_len R; omega) (by have := tld_sp_len R (sp R); omega) _ _ _ hh (C.keeps Fa.keep) (by show A.depth + 1 + _ < _; omega) (by show A.units + 3 + _ < _; omega) fun v s' k e => ?_
  obtain ⟨t17, rfl⟩ := e
  obtain ⟨h17, tk17, rfl, k17⟩ := k
  have F17 := Fa.keeps k17
  have N17 := Na.grown k17
  clear Fa Na
  dsimp only at F17 N17 ⊢
  repeat walk1
  rename Fr _ _ _ _ => Fa
  rename News _ _ _ _ => Na
  refine closed w (tld (sp R) (sp R)) (tld (sp M) (sp R)) t17 t12 _ (by omega) (by omega) _ _ _ hh (C.keeps Fa.keep) (by show A.depth + 1 + _ < _; omega) (by show A.units + 3 + _ < _; omega) fun w18 s' k o18 => ?_
  obtain ⟨h18, tk18, rfl, k18⟩ := k
  have F18 := Fa.keeps k18
  have N18 := Na.grown k18
  clear Fa Na
  dsimp only at F18 N18 o18 ⊢
  obtain ⟨exs18, Nb18, sub18, H18⟩ := hold2 F18 N18 o18
  clear N18
  replace H13 := H13.more sub18
  replace H14 := H14.more sub18
  replace H15 := H15.more sub18
  replace H16 := H16.more sub18
  repeat walk1
  rename Fr _ _ _ _ => Fa
  rename News _ _ _ _ => Na
  refine first w _ _ (sp M) (sp R) _ ⟨_, lm, rfl, News.isList Na (.head _), hlm⟩ ⟨_, lr, rfl, News.isList Na (.tail _ (.head _)), hlr⟩ (sp_ne M) hsl.symm (by have := sp_len M; omega) (fun a ha => by have := sp_mem_len ha; omega) _ _ _ hh (C.keeps Fa.keep) (by show A.depth + 1 + _ < _; omega) (by show A.units + 3 + _ < _; omega) fun w19 s' k o19 => ?_
  obtain ⟨h19, tk19, rfl, k19⟩ := k
  have F19 := Fa.keeps k19
  have N19 := Na.grown k19
  clear Fa Na
  dsimp only at F19 N19 o19 ⊢
  obtain ⟨exs19, Nb19, sub19, H19⟩ := hold2 F19 N19 o19
  clear N19
  replace H13 := H13.more sub19
  replace H14 := H14.more sub19
  replace H15 := H15.more sub19
  replace H16 := H16.more sub19
  replace H18 := H18.more sub19
  repeat walk1
  rename News _ _ _ _ => Na
  rename Fr _ _ _ _ => Fa
  have sat : ∀ {v : Value} {o : Option (List Nat)}, Held s.heap exs19 v o → Ov _ v o := fun H => H _ Fa.keep fun p hp => (Na p (.tail _ (.tail _ (.tail _ hp)))).1
  exact hQ _ _ (keeps_of (Fr.keep (by assumption))) ⟨_, [w13, w14, w15, w16, w18, w19], rfl, News.isList Na (.head _), .cons (sat H13) (.cons (sat H14) (.cons (sat H15) (.cons (sat H16) (.cons (sat H18) (.cons (sat H19) .nil)))))⟩
end Mine
end

/- W21 -/
section
open PySem PySem.W PyProof.Rows
set_option Elab.async false
set_option maxRecDepth 100000
set_option maxHeartbeats 0
namespace Mine
/-- the end of a turn: the iterator stands, the word holds at the next -/
def ListEnd (h₀ : Heap) (L it : Addr) (oI : Obj) (J : (Str → Option Value) → List (Addr × Obj) → Prop) (s₁ : Shared) (Q : Flow → Shared → Prop) (f : Flow) (s₂ : Shared) : Prop :=
  match f with
  | .next | .cont => ∃ h' tk m' news', s₂ = { s₁ with heap := h', toks := tk } ∧ Fr h₀ L h' m' ∧ News h₀ L h' ((it, oI) :: news') ∧ (∀ p ∈ news', p.1 ≠ it) ∧ J m' news'
  | .brk => Q .next s₂
  | .ret v => Q (.ret v) s₂
theorem ListEnd.intro {h₀ : Heap} {L it : Addr} {oI : Obj} {J : (Str → Option Value) → List (Addr × Obj) → Prop} {s₁ s₂ : Shared} {Q : Flow → Shared → Prop} {h' : Heap} {tk : Nat} {m' : Str → Option Value} {news' : List (Addr × Obj)} (e : s₂ = { s₁ with heap := h', toks := tk })
    (F : Fr h₀ L h' m') (N : News h₀ L h' ((it, oI) :: news')) (hi : ∀ p ∈ news', p.1 ≠ it) (h : J m' news') : ListEnd h₀ L it oI J s₁ Q .next s₂ := ⟨h', tk, m', news', e, F, N, hi, h⟩
/-- a loop over a list of the call's own, by a word over the frame and the ledger -/
theorem for_list {w : World} {A : Around} {E : Value → Shared → Prop} {Q : Flow → Shared → Prop} {s : Shared} {env : Env} {h₀ : Heap} {x : Str} {px pos : Pos} {iter : Expr} {body : List Stmt}
    (hh : A.handled = none) (hx : env.kindOf x = some .local) (hp : (env.scope.kind == .class || (env.scope.kind == .module && env.locals != env.globals)) = false)
    (h : wpAny (model pg w) A (eval iter env) (fun xv s₁ => ∃ (ax : Addr) (its : Array Value) (oL : Obj) (m : Str → Option Value) (news : List (Addr × Obj)) (J : Nat → (Str → Option Value) → List (Addr × Obj) → Prop), xv = .ref ax ∧ s₁.heap.IsList ax its ∧ s₁.heap.get? ax = some oL ∧
      (∀ i m₁ news₁, J i m₁ news₁ → (ax, oL) ∈ news₁) ∧ Fr h₀ env.locals s₁.heap m ∧ News h₀ env.locals s₁.heap news ∧ J 0 m news ∧
      (∀ (i : Nat) (v : Value) (it : Addr) (oI : Obj) (m₁ : Str → Option Value) (news₁ : List (Addr × Obj)) (h₁ : Heap) (tk₁ : Nat), its[i]? = some v → oI.cls = .type "list_iterator" → J i m₁ news₁ → (∀ p ∈ news₁, p.1 ≠ it) → Fr h₀ env.locals h₁ (fun y => if y = x then some v else m₁ y) → News h₀ env.locals h₁ ((it, oI) :: news₁) →
        wpAny (model pg w) A (execs body env) (ListEnd h₀ env.locals it oI (J (i + 1)) { s₁ with heap := h₁, toks := tk₁ } Q) E { s₁ with heap := h₁, toks := tk₁ }) ∧
      (∀ h' tk m' news', J its.size m' news' → Fr h₀ env.locals h' m' → News h₀ env.locals h' news' → Q .next { s₁ with heap := h', toks := tk })) E s)
    (hs : ∀ x, foldedSetIterable iter env x = pure x := by intro _; rfl)
    (hE : PassesOwn (model pg w) A env E := by passes_own) :
    wpAny (model pg w) A (exec (.For (.Name x px) iter body [] pos) env) Q E s := by
  refine wpAny_For (wpAny_mono h (fun xv s₁ h₁ => ?_) fun _ _ e => e) hs
  obtain ⟨ax, its, oL, m, news, J, rfl, hl, hoL, hJL, F, N, h0, step, done⟩ := h₁
  refine wpAny_pyIter_list hl ?_
  have hlt : ax < s₁.heap.objs.size := Heap.lt_size hoL
  have W := Walks.list (prog := pg) (w := w) hh s₁.heap.objs.size ax (Nat.ne_of_lt hlt) its
  have hin : h₀.get? s₁.heap.objs.size = none := next_is_new F
  have hiL : s₁.heap.objs.size ≠ env.locals := Nat.ne_of_gt F.ns.lt
  have hni₀ : ∀ p ∈ news, p.1 ≠ s₁.heap.objs.size := fun p hp => Nat.ne_of_lt (Heap.lt_size (N p hp).1)
  have haxI : ax ≠ s₁.heap.objs.size := Nat.ne_of_lt hlt
  generalize hI : s₁.heap.objs.size = I at *
  generalize hH : s₁.heap.push { cls := .type "list_iterator", data := .fields #[.ref ax, .int 0 0] } = H
  have up : ∀ b o, s₁.heap.get? b = some o → H.get? b = some o := fun b o e => hH ▸ Heap.get?_push_of_some _ e
  have hst : H.IsListIter I ax 0 ∧ H.IsList ax its := ⟨hH ▸ hI ▸ ⟨_, Heap.get?_push_size _ rfl, rfl, rfl⟩, hl.at fun o e => up _ _ e⟩
  have oldNe : ∀ b o, h₀.get? b = some o → b ≠ I := fun b o e q => by rw [q, hin] at e; cases e
  refine codeAny_forLoop_any
    (fun n s' => ∃ h' tk m' news' i, s' = { s₁ with heap := h', toks := tk } ∧ (h'.IsListIter I ax i ∧ h'.IsList ax its) ∧ Fr h₀ env.locals h' m' ∧ News h₀ env.locals h' news' ∧ (∀ p ∈ news', p.1 ≠ I) ∧ J i m' news' ∧ i ≤ its.size ∧ n = its.size + 1 - i) ?_ (its.size + 1)
    ⟨H, _, m, news, 0, rfl, hst, F.keeps up, N.grown up, hni₀, h0, Nat.zero_le _, rfl⟩
  rintro n s' ⟨h', tk, m', news', i, rfl, hst', F', N', hni, hJ, hi, rfl⟩
  by_cases hlti : i < its.size
  · refine W.item i _ _ _ hlti hst' fun v h₂ tk₂ hPv hst₂ hk₂ => ?_
    have hk₂' : ∀ b o, b ≠ I → h'.get? b = some o → h₂.get? b = some o := fun b o hb e => hk₂ b o (by simpa using hb) e
    have F₂ : Fr h₀ env.locals h₂ m' := ⟨F'.ns.at' fun o e => hk₂' _ o (Ne.symm hiL) e, fun b o e => hk₂' b o (oldNe b o e) (F'.keep b o e), F'.above⟩
    have N₂ : News h₀ env.locals h₂ news' := fun p hp => ⟨hk₂' _ _ (hni p hp) (N' p hp).1, (N' p hp).2⟩
    refine letGo_listiter hst₂.1 ?_
    refine wpAny_assign_Name (wpAny_storeName_local hx F₂.ns (fun h₃ hn₃ hs₃ => ?_) hp)
    have F₃ := F₂.set hn₃ hs₃
    have N₃ := N₂.set hs₃
    obtain ⟨oI, hoI, hoc, hod⟩ := hst₂.1
    have hoI₃ : h₃.get? I = some oI := hs₃.extBut _ _ hiL hoI
    have N₃' : News h₀ env.locals h₃ ((I, oI) :: news') := fun p hp => by
      rcases List.mem_cons.mp hp with rfl | hp
      · exact ⟨hoI₃, hiL, hin⟩
      · exact N₃ p hp
    refine wpAny_mono (step i v I oI m' news' h₃ _ (by simpa using hPv) hoc hJ hni F₃ N₃') (fun f s₃ h₆ => ?_) hE
    have fin : (∃ h' tk m' news', s₃ = { s₁ with heap := h', toks := tk } ∧ Fr h₀ env.locals h' m' ∧ News h₀ env.locals h' ((I, oI) :: news') ∧ (∀ p ∈ news', p.1 ≠ I) ∧ J (i + 1) m' news') →
        ∃ mm, mm < its.size + 1 - i ∧ ∃ h' tk m' news' i, s₃ = { s₁ with heap := h', toks := tk } ∧ (h'.IsListIter I ax i ∧ h'.IsList ax its) ∧ Fr h₀ env.locals h' m' ∧ News h₀ env.locals h' news' ∧ (∀ p ∈ news', p.1 ≠ I) ∧ J i m' news' ∧ i ≤ its.size ∧ mm = its.size + 1 - i := by
      rintro ⟨h₇, tk₇, m₇, news₇, rfl, F₇, N₇, hni₇, hJ₇⟩
      refine ⟨its.size + 1 - (i + 1), by omega, h₇, tk₇, m₇, news₇, i + 1, rfl, ⟨⟨oI, (N₇ _ (.head _)).1, hoc, hod⟩, ?_⟩, F₇, fun p hp => N₇ p (.tail _ hp), hni₇, hJ₇, hlti, rfl⟩
      have e1 := (N' _ (hJL _ _ _ hJ)).1
      obtain ⟨o2, e2, e3⟩ := hst'.2
      have : o2 = oL := by rw [e1] at e2; injection e2 with e2; exact e2.symm
      subst this
      exact ⟨_, (N₇ _ (.tail _ (hJL _ _ _ hJ₇))).1, e3⟩
    cases f with
    | next => exact fin h₆
    | cont => exact fin h₆
    | brk => exact h₆
    | ret v => exact h₆
  · obtain rfl : i = its.size := Nat.le_antisymm hi (Nat.not_lt.mp hlti)
    refine W.done _ _ _ hst' fun h₂ tk₂ hk₂ => wpAny_execs_nil ?_
    have hk₂' : ∀ b o, b ≠ I → h'.get? b = some o → h₂.get? b = some o := fun b o hb e => hk₂ b o (by simpa using hb) e
    exact done h₂ tk₂ m' news' hJ ⟨F'.ns.at' fun o e => hk₂' _ o (Ne.symm hiL) e, fun b o e => hk₂' b o (oldNe b o e) (F'.keep b o e), F'.above⟩ fun p hp => ⟨hk₂' _ _ (hni p hp) (N' p hp).1, (N' p hp).2⟩
end Mine
end

/- W22 -/
section
open PySem PySem.W PyProof.Rows
set_option Elab.async false
set_option maxRecDepth 100000
set_option maxHeartbeats 0
namespace Mine
def pmP (S P Tl Dn : Addr) (kv qv sv xv : Option Value) : Str → Option Value := fun y =>
  if y = Str.ofString "kind" then kv else if y = Str.ofString "q" then qv else if y = Str.ofString "sign" then sv else if y = Str.ofString "x" then xv else if y = Str.ofString "pairs" then some (.ref P) else if y = Str.ofString "ties" then some (.ref Tl) else if y = Str.ofString "nothing" then some (.ref Dn) else if y = Str.ofString "script" then some (.ref S) else none
theorem pmP_start {S P Tl Dn : Addr} (y : Str) :
    (if y = Str.ofString "pairs" then some (Value.ref P) else if y = Str.ofString "ties" then some (Value.ref Tl) else if y = Str.ofString "nothing" then some (Value.ref Dn) else List.lookup y [(Str.ofString "script", Value.ref S)].reverse) = pmP S P Tl Dn none none none none y := by
  by_cases h1 : y = Str.ofString "kind"; · subst h1; rfl
  by_cases h2 : y = Str.ofString "q"; · subst h2; rfl
  by_cases h3 : y = Str.ofString "sign"; · subst h3; rfl
  by_cases h4 : y = Str.ofString "x"; · subst h4; rfl
  by_cases h5 : y = Str.ofString "script"; · subst h5; rfl
  have h6 : (y == Str.ofString "script") = false := beq_eq_false_iff_ne.mpr h5
  simp [pmP, h1, h2, h3, h4, h5, h6, List.lookup]
abbrev tup2 (x : Str) (u : Tok) (y : Str) (v : Tok) : Obj := { cls := .type "tuple", data := .seq #[.str x u, .str y v] }
/-- the word of the loop that builds the pairs -/
def PJ (S P Tl Dn : Addr) (base : List (Addr × Obj)) (i : Nat) (m : Str → Option Value) (news : List (Addr × Obj)) : Prop :=
  ∃ (kv qv sv xv : Option Value) (its : Array Value) (n : Nat) (tups : List (Addr × Obj)), m = pmP S P Tl Dn kv qv sv xv ∧ news = (P, listOf its n) :: (base ++ tups) ∧ its.size ≤ i ∧ (∀ p ∈ tups, p.1 ≠ P) ∧
    ∀ (j : Nat) (v : Value), its[j]? = some v → ∃ (t : Addr) (a b : List Nat) (u u' : Tok), v = .ref t ∧ (t, tup2 (tx a) u (tx b) u') ∈ base ++ tups ∧ PairOk a b
theorem pmP_turn1 {S P Tl Dn : Addr} {kv qv sv xv kv' qv' xv' : Option Value} (y : Str) :
    (if y = Str.ofString "q" then qv' else if y = Str.ofString "kind" then kv' else if y = Str.ofString "x" then xv' else pmP S P Tl Dn kv qv sv xv y) = pmP S P Tl Dn kv' qv' sv xv' y := by
  by_cases h1 : y = Str.ofString "kind"; · subst h1; rfl
  by_cases h2 : y = Str.ofString "q"; · subst h2; rfl
  by_cases h4 : y = Str.ofString "x"; · subst h4; rfl
  simp [pmP, h1, h2, h4]
theorem pmP_turn2 {S P Tl Dn : Addr} {kv qv sv xv kv' qv' sv' xv' : Option Value} (y : Str) :
    (if y = Str.ofString "sign" then sv' else if y = Str.ofString "q" then qv' else if y = Str.ofString "kind" then kv' else if y = Str.ofString "x" then xv' else pmP S P Tl Dn kv qv sv xv y) = pmP S P Tl Dn kv' qv' sv' xv' y := by
  by_cases h1 : y = Str.ofString "kind"; · subst h1; rfl
  by_cases h2 : y = Str.ofString "q"; · subst h2; rfl
  by_cases h3 : y = Str.ofString "sign"; · subst h3; rfl
  by_cases h4 : y = Str.ofString "x"; · subst h4; rfl
  simp [pmP, h1, h2, h3, h4]
section
variable {w : World} {A : Around} {E : Value → Shared → Prop} {s : Shared} {h₀ : Heap} {L S T it P Tl Dn : Addr} {m : Str → Option Value} {oI : Obj} {its : Array Value} {n i : Nat} {x y : Str} {u v : Tok} {base tups : List (Addr × Obj)} {a b : List Nat}
theorem apart {h : Heap} {news : List (Addr × Obj)} {a b : Addr} {o₁ o₂ : Obj} (N : News h₀ L h news) (h1 : (a, o₁) ∈ news) (h2 : (b, o₂) ∈ news) (hc : o₁.cls ≠ o₂.cls) : a ≠ b := by
  rintro rfl
  have e1 := (N _ h1).1
  have e2 := (N _ h2).1
  rw [e1] at e2; injection e2 with e2; exact hc (congrArg Obj.cls e2)
theorem news_drop2 {h : Heap} {x y : Addr × Obj} {r : List (Addr × Obj)} (N : News h₀ L h (x :: y :: r)) : News h₀ L h (x :: r) := fun p hp => N p (by
  rcases List.mem_cons.mp hp with rfl | hp
  · exact .head _
  · exact .tail _ (.tail _ hp))
theorem app_tup {Q : Value → Shared → Prop} {rest : List (Addr × Obj)} (F : Fr h₀ L s.heap m) (N : News h₀ L s.heap ((T, tup2 x u y v) :: (it, oI) :: (P, listOf its n) :: rest)) (hi : it ≠ P) (hr : ∀ p ∈ rest, p.1 ≠ P) (hn : its.size ≤ 1000)
    (h : ∀ h', Fr h₀ L h' m → News h₀ L h' ((T, tup2 x u y v) :: (it, oI) :: (P, listOf (its.push (.ref T)) (n + 1)) :: rest) → Q .none { s with heap := h' }) : wpAny (model pg w) A (call (.builtin "list.append") [.ref P, .ref T]) Q E s :=
  append_K F N (.tail (apart N (.head _) (.tail _ (.tail _ (.head _))) (show Value.type "tuple" ≠ Value.type "list" by decide)) (.tail hi (.head hr))) h (Nat.le_trans hn (by decide))
theorem app_old {Q : Value → Shared → Prop} {rest : List (Addr × Obj)} {e : Value} (F : Fr h₀ L s.heap m) (N : News h₀ L s.heap ((it, oI) :: (P, listOf its n) :: rest)) (hi : it ≠ P) (hr : ∀ p ∈ rest, p.1 ≠ P) (hn : its.size ≤ 1000)
    (h : ∀ h', Fr h₀ L h' m → News h₀ L h' ((it, oI) :: (P, listOf (its.push e) (n + 1)) :: rest) → Q .none { s with heap := h' }) : wpAny (model pg w) A (call (.builtin "list.append") [.ref P, e]) Q E s :=
  append_K F N (.tail hi (.head hr)) h (Nat.le_trans hn (by decide))
theorem pj_new {s₁ : Shared} {Q : Flow → Shared → Prop} {h' : Heap} {tk : Nat} (a b : List Nat) (F : Fr h₀ L h' m) (N : News h₀ L h' ((T, tup2 (tx a) u (tx b) v) :: (it, oI) :: (P, listOf (its.push (.ref T)) (n + 1)) :: (base ++ tups)))
    (hm : ∃ kv qv sv xv, m = pmP S P Tl Dn kv qv sv xv) (hn : its.size ≤ i) (hP : ∀ p ∈ tups, p.1 ≠ P)
    (hits : ∀ (j : Nat) (v : Value), its[j]? = some v → ∃ (t : Addr) (a b : List Nat) (u u' : Tok), v = .ref t ∧ (t, tup2 (tx a) u (tx b) u') ∈ base ++ tups ∧ PairOk a b)
    (hni : ∀ p ∈ (P, listOf its n) :: (base ++ tups), p.1 ≠ it) (hoI : oI.cls = .type "list_iterator") (ok : PairOk a b) {s₂ : Shared} (e : s₂ = { s₁ with heap := h', toks := tk }) :
    ListEnd h₀ L it oI (PJ S P Tl Dn base (i + 1)) s₁ Q .next s₂ := by
  obtain ⟨kv, qv, sv, xv, rfl⟩ := hm
  have hPT : T ≠ P := apart N (.head _) (.tail _ (.tail _ (.head _))) (show Value.type "tuple" ≠ Value.type "list" by decide)
  have hTi : T ≠ it := apart N (.head _) (.tail _ (.head _)) (by rw [hoI]; show Value.type "tuple" ≠ _; decide)
  refine ListEnd.intro (news' := (P, listOf (its.push (.ref T)) (n + 1)) :: (base ++ (T, tup2 (tx a) u (tx b) v) :: tups)) e F (fun p hp => N p ?_) (fun p hp => ?_) ⟨kv, qv, sv, xv, _, _, _, rfl, rfl, by simp; omega, fun p hp => ?_, fun j v hj => ?_⟩
  · simp only [List.mem_cons, List.mem_append] at hp ⊢
    rcases hp with h | h | h | h | h
    · exact .inr (.inl h)
    · exact .inr (.inr (.inl h))
    · exact .inr (.inr (.inr (.inl h)))
    · exact .inl h
    · exact .inr (.inr (.inr (.inr h)))
  · simp only [List.mem_cons, List.mem_append] at hp hni
    rcases hp with h | h | h | h
    · rw [h]; exact hni (P, listOf its n) (.inl rfl)
    · exact hni _ (.inr (.inl h))
    · rw [h]; exact hTi
    · exact hni _ (.inr (.inr h))
  · rcases List.mem_cons.mp hp with h | h
    · rw [h]; exact hPT
    · exact hP p h
  · rw [Array.getElem?_push] at hj
    split at hj
    · injection hj with hj
      exact ⟨T, a, b, _, _, hj.symm, List.mem_append_right _ (.head _), ok⟩
    · obtain ⟨t, a, b, u, u', e, hm, hok⟩ := hits j v hj
      refine ⟨t, a, b, u, u', e, ?_, hok⟩
      rcases List.mem_append.mp hm with h | h
      · exact List.mem_append_left _ h
      · exact List.mem_append_right _ (.tail _ h)
theorem pj_old {s₁ : Shared} {Q : Flow → Shared → Prop} {h' : Heap} {tk : Nat} (a b : List Nat) (F : Fr h₀ L h' m) (N : News h₀ L h' ((it, oI) :: (P, listOf (its.push (.ref T)) (n + 1)) :: (base ++ tups)))
    (hm : ∃ kv qv sv xv, m = pmP S P Tl Dn kv qv sv xv) (hn : its.size ≤ i) (hP : ∀ p ∈ tups, p.1 ≠ P)
    (hits : ∀ (j : Nat) (v : Value), its[j]? = some v → ∃ (t : Addr) (a b : List Nat) (u u' : Tok), v = .ref t ∧ (t, tup2 (tx a) u (tx b) u') ∈ base ++ tups ∧ PairOk a b)
    (hni : ∀ p ∈ (P, listOf its n) :: (base ++ tups), p.1 ≠ it) (hT : (T, tup2 (tx a) u (tx b) v) ∈ base) (ok : PairOk a b) {s₂ : Shared} (e : s₂ = { s₁ with heap := h', toks := tk }) :
    ListEnd h₀ L it oI (PJ S P Tl Dn base (i + 1)) s₁ Q .next s₂ := by
  obtain ⟨kv, qv, sv, xv, rfl⟩ := hm
  refine ListEnd.intro (news' := (P, listOf (its.push (.ref T)) (n + 1)) :: (base ++ tups)) e F N (fun p hp => ?_) ⟨kv, qv, sv, xv, _, _, _, rfl, rfl, by simp; omega, hP, fun j v hj => ?_⟩
  · rcases List.mem_cons.mp hp with h | h
    · rw [h]; exact hni (P, listOf its n) (.head _)
    · exact hni _ (.tail _ h)
  · rw [Array.getElem?_push] at hj
    split at hj
    · injection hj with hj
      exact ⟨T, a, b, _, _, hj.symm, List.mem_append_left _ hT, ok⟩
    · exact hits j v hj
end
theorem fm (q : Int) (n : Int) (h : 0 < n) : 0 ≤ q.fmod n ∧ q.fmod n < n := ⟨Int.fmod_nonneg_of_pos q h, Int.fmod_lt_of_pos q h⟩
theorem noth_all : ∀ k, k < 27 → ((173 :: 847 :: 6150 :: 6155 :: 6156 :: 6157 :: 8203 :: 8204 :: 8205 :: 8288 :: 65279 :: List.map (fun x => x) (rangeInts 65024 1 16)) : List Int).getD k 0 = ((noth.getD k 0 : Nat) : Int) ∧ noth.getD k 0 ≤ 65279 := by decide
theorem noth_at (q : Int) : ∃ k, k < 27 ∧ ((173 :: 847 :: 6150 :: 6155 :: 6156 :: 6157 :: 8203 :: 8204 :: 8205 :: 8288 :: 65279 :: List.map (fun x => x) (rangeInts 65024 1 16)) : List Int).getD (q.fmod 27).toNat 0 = ((noth.getD k 0 : Nat) : Int) ∧ noth.getD k 0 ≤ 65279 := by
  have h := fm q 27 (by decide)
  have hk : (q.fmod 27).toNat < 27 := by omega
  exact ⟨_, hk, noth_all _ hk⟩
theorem pair_math (q : Int) : PairOk [(120172 + 52 * q.fmod 6 + (q.fdiv 6).fmod 26).toNat] [(97 + (q.fdiv 6).fmod 26).toNat] := by
  have h1 := fm q 6 (by decide)
  have h2 := fm (q.fdiv 6) 26 (by decide)
  have e1 : (120172 + 52 * q.fmod 6 + (q.fdiv 6).fmod 26).toNat = 120172 + 52 * (q.fmod 6).toNat + ((q.fdiv 6).fmod 26).toNat := by omega
  have e2 : (97 + (q.fdiv 6).fmod 26).toNat = 97 + ((q.fdiv 6).fmod 26).toNat := by omega
  rw [e1, e2]
  exact pairOk (pb_math _ (by omega) _ (by omega))
theorem pair_great (q : Int) : PairOk [(65 + q.fmod 26).toNat] [(97 + q.fmod 26).toNat] := by
  have h1 := fm q 26 (by decide)
  have e1 : (65 + q.fmod 26).toNat = 65 + (q.fmod 26).toNat := by omega
  have e2 : (97 + q.fmod 26).toNat = 97 + (q.fmod 26).toNat := by omega
  rw [e1, e2]
  exact pairOk (pb_great _ (by omega))
theorem pair_small (q : Int) : PairOk [(97 + q.fmod 26).toNat] [(97 + q.fmod 26).toNat] := by
  have h1 := fm q 26 (by decide)
  have e2 : (97 + q.fmod 26).toNat = 97 + (q.fmod 26).toNat := by omega
  rw [e2]
  exact pairOk (pb_small _ (by omega))
theorem pair_ctl (q : Int) : PairOk [((q.fmod 33 - 1).fmod 128).toNat] [((q.fmod 33 - 1).fmod 128).toNat] := by
  have h1 := fm q 33 (by decide)
  have e : ((q.fmod 33 - 1).fmod 128).toNat = ((q.fmod 33).toNat + 127) % 128 := by
    rw [Int.fmod_eq_emod_of_nonneg _ (by decide)]
    omega
  rw [e]
  exact pairOk (pb_ctl _ (by omega))
theorem sign_at (k q : Int) (h1 : 21 ≤ k) (h2 : k < 24) (ua ub uc : Tok) : ∃ (c : Nat) (u : Tok), (#[.str ⟨#[(97 + q.fmod 26).toNat]⟩ ua, .str (Txt.item (Str.ofString " =;\t") (q.fmod 4)) ub, .str ⟨#[((q.fmod 33 - 1).fmod 128).toNat]⟩ uc] : Array Value)[(k - 21).toNat]? = some (.str (tx [c]) u) ∧ PairOk [c] [c] := by
  have e : (k - 21).toNat = 0 ∨ (k - 21).toNat = 1 ∨ (k - 21).toNat = 2 := by omega
  rcases e with e | e | e <;> rw [e]
  · exact ⟨_, _, rfl, pair_small q⟩
  · have h4 := fm q 4 (by decide)
    have h5 : (q.fmod 4).toNat < 4 := by omega
    have e3 : Txt.item (Str.ofString " =;\t") (q.fmod 4) = tx [[32, 61, 59, 9].getD (q.fmod 4).toNat 0] := by
      rw [show Str.ofString " =;\t" = tx [32, 61, 59, 9] from rfl]
      refine item_tx h4.1 ?_
      generalize (q.fmod 4).toNat = j at h5
      match j, h5 with
      | 0, _ => rfl
      | 1, _ => rfl
      | 2, _ => rfl
      | 3, _ => rfl
    rw [e3]
    exact ⟨_, _, rfl, pairOk (pb_plain _ h5)⟩
  · exact ⟨_, _, rfl, pair_ctl q⟩
theorem collect {h : Heap} : ∀ (its : List Value), (∀ (j : Nat) (v : Value), its[j]? = some v → ∃ (t : Addr) (a b : List Nat) (u u' : Tok), v = .ref t ∧ IsTup h t #[.str (tx a) u, .str (tx b) u'] ∧ PairOk a b) →
    ∃ ps : List (List Nat × List Nat), its.length = ps.length ∧ (∀ (j : Nat) (v : Value), its[j]? = some v → ∃ (t : Addr) (a b : List Nat) (u u' : Tok), v = .ref t ∧ IsTup h t #[.str (tx a) u, .str (tx b) u'] ∧ ps[j]? = some (a, b)) ∧ ∀ ab ∈ ps, PairOk ab.1 ab.2
  | [], _ => ⟨[], rfl, fun j v e => by simp at e, fun _ h => nomatch h⟩
  | x :: r, hh => by
    obtain ⟨ps, h1, h2, h3⟩ := collect r fun j v e => hh (j + 1) v (by simpa using e)
    obtain ⟨t, a, b, u, u', e, ht, hok⟩ := hh 0 x rfl
    refine ⟨(a, b) :: ps, by simp [h1], fun j v ej => ?_, fun ab hab => ?_⟩
    · cases j with
      | zero => simp at ej; subst ej; exact ⟨t, a, b, u, u', e, ht, rfl⟩
      | succ j => simpa using h2 j v (by simpa using ej)
    · rcases List.mem_cons.mp hab with rfl | hab
      · exact hok
      · exact h3 ab hab
theorem prs_of {h : Heap} {D : Addr} {l : List Value} (hl : h.IsList D l.toArray) (hlen : l.length ≤ 18) (hh : ∀ (j : Nat) (v : Value), l[j]? = some v → ∃ (t : Addr) (a b : List Nat) (u u' : Tok), v = .ref t ∧ IsTup h t #[.str (tx a) u, .str (tx b) u'] ∧ PairOk a b) :
    ∃ ps, Prs h (.ref D) ps ∧ ps.length ≤ 18 ∧ ∀ ab ∈ ps, PairOk ab.1 ab.2 := by
  obtain ⟨ps, e1, e2, e3⟩ := collect l hh
  exact ⟨ps, ⟨D, l.toArray, rfl, hl, by simpa using e1, fun i v e => e2 i v (by simpa using e)⟩, by omega, e3⟩
theorem ints_at : ∀ {vs : List Value} {ns : List Int}, IntsAre vs ns → ∀ {i : Nat} {v : Value}, vs[i]? = some v → ∃ (n : Int) (t : Tok), v = .int n t
  | _, _, .nil, i, v, e => by simp at e
  | _, _, .cons n t r, 0, v, e => by simp at e; exact ⟨n, t, e.symm⟩
  | _, _, .cons n t r, i + 1, v, e => ints_at r (by simpa using e)
theorem pairs (w : World) (S : Addr) (vs : List Value) (ns : List Int) (s : Shared) (hS : s.heap.IsList S vs.toArray) (hi : IntsAre vs ns) (hn : ns.length ≤ 1048576) :
    Gives w 2 200 291 [.ref S] s (fun v h => ∃ ps, Prs h v ps ∧ ps.length ≤ 18 ∧ ∀ ab ∈ ps, PairOk ab.1 ab.2) := by
  intro A E Q hh C hd hu hQ
  obtain ⟨q, loose, mg, mb, T⟩ := C.T
  have X := C.K
  refine enter [(Str.ofString "script", .ref S)] C (by omega) rfl (by rfl) (by rfl) (by rfl) (fun h₁ F => ?_)
  have N : News s.heap s.heap.objs.size h₁ [] := News.nil
  have C₁ := C.keeps F.keep
  have hS2 : True → s.heap.IsList S vs.toArray := fun _ => hS
  repeat ((run_tac notStmt ``PySem.Stmt.For); walk1)
  refine list_rangeD (n := 16) hh (by assumption) (by assumption) (by assumption) (by decide) (by decide) (by decide) fun h₂ tk₂ ys F₂ N₂ k₂ hnew hlD hpl hys => ?_
  have hy := CarriedAll.intsOf (f := fun x => x) hys
  dsimp only at F₂ N₂ k₂ hnew hlD hpl ⊢
  repeat ((run_tac notStmt ``PySem.Stmt.For); walk1)
  rename Fr _ _ _ _ => F₃
  rename News _ _ _ _ => N₃
  rename IntsAre _ (_ ++ _) => hI
  rename Heap => h₃
  obtain ⟨P, Tl, t5, t4, t3, t2, t1, Dn, l0, ol0, ws, c, u1, v1, u2, v2, u3, v3, u4, v4, u5, v5, hIw, F₄, N₄, q1, q2, q3, q4, q5, q6, q7, q8⟩ : ∃ (P Tl t5 t4 t3 t2 t1 Dn l0 : Addr) (ol0 : Obj) (ws : List Value) (c : Nat) (u1 v1 u2 v2 u3 v3 u4 v4 u5 v5 : Tok), IntsAre ws ([173, 847, 6150, 6155, 6156, 6157, 8203, 8204, 8205, 8288, 65279] ++ List.map (fun x => x) (rangeInts 65024 1 16)) ∧
      Fr s.heap s.heap.objs.size h₃ (pmP S P Tl Dn none none none none) ∧
      News s.heap s.heap.objs.size h₃ [(P, listOf #[] 0), (Tl, listOf #[.ref t1, .ref t2, .ref t3, .ref t4, .ref t5] 0), (t5, tup2 (tx [13262]) u5 (tx [107, 109]) v5), (t4, tup2 (tx [8482]) u4 (tx [116, 109]) v4), (t3, tup2 (tx [64259]) u3 (tx [102, 102, 105]) v3), (t2, tup2 (tx [64256]) u2 (tx [102, 102]) v2), (t1, tup2 (tx [223]) u1 (tx [115, 115]) v1), (Dn, listOf ws.toArray c), (l0, ol0)] ∧
      @LT.lt Nat _ Tl P ∧ @LT.lt Nat _ t5 P ∧ @LT.lt Nat _ t4 P ∧ @LT.lt Nat _ t3 P ∧ @LT.lt Nat _ t2 P ∧ @LT.lt Nat _ t1 P ∧ @LT.lt Nat _ Dn P ∧ @LT.lt Nat _ l0 P :=
    ⟨_, _, _, _, _, _, _, _, _, _, _, _, _, _, _, _, _, _, _, _, _, _, hI, funext (pmP_start (S := S)) ▸ F₃, N₃, by omega, by omega, by omega, by omega, by omega, by omega, by omega, by omega⟩
  clear F₃ N₃ hI
  have hS₄ := (hS2 trivial).at (h' := h₃) fun o e => F₄.keep _ _ e
  run_tac dropNameless
  refine for_list (h₀ := s.heap) hh (by rfl) (by rfl) ?_
  repeat ((run_tac isTree); walk1)
  rename Fr _ _ _ _ => F₅
  rename News _ _ _ _ => N₅
  rename IntsAre _ (List.take _ _) => hI5
  rename Heap => h₅
  rename Addr => Ds
  rename List Value => ds
  have q9 : @LT.lt Nat _ P Ds := by omega
  have hsz5 : ds.toArray.size ≤ 14 := by
    have := hI5.length
    rw [List.size_toArray, this, List.length_take]; omega
  refine ⟨Ds, ds.toArray, _, _, _, PJ S P Tl Dn [(Ds, listOf ds.toArray 0), (Tl, listOf #[.ref t1, .ref t2, .ref t3, .ref t4, .ref t5] 0), (t5, tup2 (tx [13262]) u5 (tx [107, 109]) v5), (t4, tup2 (tx [8482]) u4 (tx [116, 109]) v4), (t3, tup2 (tx [64259]) u3 (tx [102, 102, 105]) v3), (t2, tup2 (tx [64256]) u2 (tx [102, 102]) v2), (t1, tup2 (tx [223]) u1 (tx [115, 115]) v1), (Dn, listOf ws.toArray c), (l0, ol0)], rfl, News.isList N₅ (.head _), (N₅ _ (.head _)).1, ?_, F₅, (fun p hp => N₅ p ?_ : News _ _ _ ((P, listOf #[] 0) :: _)), ⟨none, none, none, none, #[], 0, [], rfl, rfl, Nat.le_refl _, (fun p h => by cases h), fun j v e => by cases e⟩, ?_, ?_⟩
  · rintro i m₁ news₁ ⟨kv, qv, sv, xv, its, n, tups, rfl, rfl, _⟩
    exact .tail _ (.head _)
  · simp only [List.append_nil, List.mem_cons] at hp ⊢
    rcases hp with hp | hp | hp
    · exact .inr (.inl hp)
    · exact .inl hp
    · exact .inr (.inr hp)
  · intro i v it oI m₁ news₁ h₆ tk₆ hv hoI hJ hni F₆ N₆
    clear F₅ N₅
    obtain ⟨kv, qv, sv, xv, its, n, tups, rfl, rfl, hn, hP, hits⟩ := hJ
    have q10 : @Ne Nat P it := hni _ (.head _)
    have hrest : ∀ p ∈ [(Ds, listOf ds.toArray 0), (Tl, listOf #[.ref t1, .ref t2, .ref t3, .ref t4, .ref t5] 0), (t5, tup2 (tx [13262]) u5 (tx [107, 109]) v5), (t4, tup2 (tx [8482]) u4 (tx [116, 109]) v4), (t3, tup2 (tx [64259]) u3 (tx [102, 102, 105]) v3), (t2, tup2 (tx [64256]) u2 (tx [102, 102]) v2), (t1, tup2 (tx [223]) u1 (tx [115, 115]) v1), (Dn, listOf ws.toArray c), (l0, ol0)] ++ tups, p.1 ≠ P := by
      intro p hp
      simp only [List.mem_append, List.mem_cons, List.not_mem_nil, or_false] at hp
      rcases hp with (rfl | rfl | rfl | rfl | rfl | rfl | rfl | rfl | rfl) | hp
      · exact Nat.ne_of_gt q9
      · exact Nat.ne_of_lt q1
      · exact Nat.ne_of_lt q2
      · exact Nat.ne_of_lt q3
      · exact Nat.ne_of_lt q4
      · exact Nat.ne_of_lt q5
      · exact Nat.ne_of_lt q6
      · exact Nat.ne_of_lt q7
      · exact Nat.ne_of_lt q8
      · exact hP p hp
    have hi14 : i < ds.toArray.size := (Array.getElem?_eq_some_iff.mp hv).1
    have hnI : its.size ≤ 1000 := by omega
    have hitP : it ≠ P := Ne.symm (hni _ (.head _))
    obtain ⟨x, tx0, rfl⟩ := ints_at hI5 (by simpa using hv)
    simp only [List.cons_append, List.nil_append] at N₆
    obtain ⟨T5, aT, bT, uT, vT, hx5, hm5, hok5⟩ : ∃ (T : Addr) (a b : List Nat) (u v : Tok), (#[.ref t1, .ref t2, .ref t3, .ref t4, .ref t5] : Array Value)[((x.fdiv 24).fmod 5).toNat]? = some (.ref T) ∧ (T, tup2 (tx a) u (tx b) v) ∈ [(Ds, listOf ds.toArray 0), (Tl, listOf #[.ref t1, .ref t2, .ref t3, .ref t4, .ref t5] 0), (t5, tup2 (tx [13262]) u5 (tx [107, 109]) v5), (t4, tup2 (tx [8482]) u4 (tx [116, 109]) v4), (t3, tup2 (tx [64259]) u3 (tx [102, 102, 105]) v3), (t2, tup2 (tx [64256]) u2 (tx [102, 102]) v2), (t1, tup2 (tx [223]) u1 (tx [115, 115]) v1), (Dn, listOf ws.toArray c), (l0, ol0)] ∧ PairOk a b := by
      have b5 := fm (x.fdiv 24) 5 (by decide)
      have e : ((x.fdiv 24).fmod 5).toNat = 0 ∨ ((x.fdiv 24).fmod 5).toNat = 1 ∨ ((x.fdiv 24).fmod 5).toNat = 2 ∨ ((x.fdiv 24).fmod 5).toNat = 3 ∨ ((x.fdiv 24).fmod 5).toNat = 4 := by omega
      rcases e with e | e | e | e | e <;> rw [e]
      · exact ⟨t1, _, _, _, _, rfl, .tail _ (.tail _ (.tail _ (.tail _ (.tail _ (.tail _ (.head _)))))), pairOk pb_ss⟩
      · exact ⟨t2, _, _, _, _, rfl, .tail _ (.tail _ (.tail _ (.tail _ (.tail _ (.head _))))), pairOk pb_ff⟩
      · exact ⟨t3, _, _, _, _, rfl, .tail _ (.tail _ (.tail _ (.tail _ (.head _)))), pairOk pb_ffi⟩
      · exact ⟨t4, _, _, _, _, rfl, .tail _ (.tail _ (.tail _ (.head _))), pairOk pb_tm⟩
      · exact ⟨t5, _, _, _, _, rfl, .tail _ (.tail _ (.head _)), pairOk pb_km⟩
    clear hv hI5
    obtain ⟨k, hk, ek, ek2⟩ := noth_at (x.fdiv 24)
    have b24 := fm x 24 (by decide)
    have b5 := fm (x.fdiv 24) 5 (by decide)
    have b6 := fm (x.fdiv 24) 6 (by decide)
    have b26 := fm (x.fdiv 24) 26 (by decide)
    have b626 := fm ((x.fdiv 24).fdiv 6) 26 (by decide)
    have b4 := fm (x.fdiv 24) 4 (by decide)
    have b33 := fm (x.fdiv 24) 33 (by decide)
    have b128 := fm ((x.fdiv 24).fmod 33 - 1) 128 (by decide)
    iterate 9 walk1
    repeat walk1
    · rename News _ _ _ _ => N₇
      refine app_tup (by assumption) N₇ hitP hrest hnI fun h₈ F₈ N₈ => ?_
      repeat walk1
      exact pj_new [34] [34] F₈ N₈ ⟨_, _, _, _, funext pmP_turn1⟩ hn hP hits hni hoI (pairOk pb_mark) rfl
    repeat walk1
    · rename News _ _ _ _ => N₇
      refine app_tup (by assumption) N₇ hitP hrest hnI fun h₈ F₈ N₈ => ?_
      repeat walk1
      exact pj_new [_] [] F₈ N₈ ⟨_, _, _, _, funext pmP_turn1⟩ hn hP hits hni hoI (by rw [ek, Int.toNat_natCast]; exact pairOk (pb_noth _ hk)) rfl
    repeat walk1
    · rename News _ _ _ _ => N₇
      refine app_tup (by assumption) N₇ hitP hrest hnI fun h₈ F₈ N₈ => ?_
      repeat walk1
      exact pj_new [92] [92] F₈ N₈ ⟨_, _, _, _, funext pmP_turn1⟩ hn hP hits hni hoI (pairOk pb_back) rfl
    repeat walk1
    · rename News _ _ _ _ => N₇
      refine item_list (News.isList N₇ (.tail _ (.tail _ (.tail _ (.head _))))) b5.1 (by omega) hx5 ?_
      repeat walk1
      refine app_old (by assumption) N₇ hitP hrest hnI fun h₈ F₈ N₈ => ?_
      repeat walk1
      exact pj_old aT bT F₈ N₈ ⟨_, _, _, _, funext pmP_turn1⟩ hn hP hits hni hm5 hok5 rfl
    repeat walk1
    · rename News _ _ _ _ => N₇
      refine app_tup (by assumption) N₇ hitP hrest hnI fun h₈ F₈ N₈ => ?_
      repeat walk1
      exact pj_new [_] [_] F₈ N₈ ⟨_, _, _, _, funext pmP_turn1⟩ hn hP hits hni hoI (pair_math _) rfl
    repeat walk1
    · rename News _ _ _ _ => N₇
      refine app_tup (by assumption) N₇ hitP hrest hnI fun h₈ F₈ N₈ => ?_
      repeat walk1
      exact pj_new [_] [_] F₈ N₈ ⟨_, _, _, _, funext pmP_turn1⟩ hn hP hits hni hoI (pair_great _) rfl
    repeat walk1
    rename News _ _ _ _ => N₇
    obtain ⟨c7, u7, hx7, hok7⟩ := sign_at (x.fmod 24) (x.fdiv 24) (by omega) (by omega) _ _ _
    refine item_list (News.isList N₇ (.head _)) (by omega) (by omega) hx7 ?_
    repeat walk1
    rename News _ _ _ _ => N₈
    refine app_tup (rest := _) (by assumption) (news_drop2 N₈) hitP hrest hnI fun h₈ F₈ N₈ => ?_
    repeat walk1
    exact pj_new [c7] [c7] F₈ N₈ ⟨_, _, _, _, funext pmP_turn2⟩ hn hP hits hni hoI hok7 rfl
  · intro h' tk' m' news' hJ F₆ N₆
    clear F₅ N₅
    obtain ⟨kv, qv, sv, xv, its, n, tups, rfl, rfl, hn, hP, hits⟩ := hJ
    have hS₆ := (hS2 trivial).at (h' := h') fun o e => F₆.keep _ _ e
    have hnI : its.size ≤ 14 := by omega
    have hIn := hi.length
    have hall : ∀ hf : Heap, (∀ p ∈ [(Ds, listOf ds.toArray 0), (Tl, listOf #[.ref t1, .ref t2, .ref t3, .ref t4, .ref t5] 0), (t5, tup2 (tx [13262]) u5 (tx [107, 109]) v5), (t4, tup2 (tx [8482]) u4 (tx [116, 109]) v4), (t3, tup2 (tx [64259]) u3 (tx [102, 102, 105]) v3), (t2, tup2 (tx [64256]) u2 (tx [102, 102]) v2), (t1, tup2 (tx [223]) u1 (tx [115, 115]) v1), (Dn, listOf ws.toArray c), (l0, ol0)] ++ tups, hf.get? p.1 = some p.2) → ∀ (j : Nat) (v : Value), its.toList[j]? = some v → ∃ (t : Addr) (a b : List Nat) (u u' : Tok), v = .ref t ∧ IsTup hf t #[.str (tx a) u, .str (tx b) u'] ∧ PairOk a b := by
      intro hf hg j v e
      obtain ⟨t, a, b, u, u', e1, hm, hok⟩ := hits j v (by simpa using e)
      exact ⟨t, a, b, u, u', e1, ⟨_, hg _ hm, rfl, _, rfl⟩, hok⟩
    simp only [List.cons_append, List.nil_append] at N₆
    repeat walk1
    · rename News _ _ _ _ => N₇
      refine add_arrays (by assumption) N₇ (News.isList N₇ (.tail _ (.tail _ (.tail _ (.tail _ (.tail _ (.head _))))))) (News.isList N₇ (.head _)) (fun h₈ F₈ N₈ => ?_) (by rw [sizeLine_eq]; simp; omega)
      repeat walk1
      rename News _ _ _ _ => N₉
      refine hQ _ _ (keeps_of (Fr.keep (by assumption))) (prs_of (News.isList N₉ (.head _)) (by simp; omega) fun j v e => ?_)
      by_cases hj : j < its.toList.length
      · rw [List.getElem?_append_left hj] at e
        exact hall _ (fun p hp => (N₉ p (.tail _ (.tail _ (.tail _ (.tail _ (.tail _ (.tail _ (.tail _ hp)))))))).1) j v e
      · rw [List.getElem?_append_right (by omega)] at e
        generalize j - its.toList.length = k at e
        match k, e with
        | 0, e => injection e with e; exact ⟨_, [34], [34], _, _, e.symm, ⟨_, (N₉ _ (.tail _ (.tail _ (.tail _ (.tail _ (.tail _ (.head _))))))).1, rfl, _, rfl⟩, pairOk pb_mark⟩
        | 1, e => injection e with e; exact ⟨_, [173], [], _, _, e.symm, ⟨_, (N₉ _ (.tail _ (.tail _ (.tail _ (.tail _ (.head _)))))).1, rfl, _, rfl⟩, pairOk pb_soft⟩
        | 2, e => injection e with e; exact ⟨_, [34], [34], _, _, e.symm, ⟨_, (N₉ _ (.tail _ (.tail _ (.tail _ (.head _))))).1, rfl, _, rfl⟩, pairOk pb_mark⟩
        | 3, e => injection e with e; exact ⟨_, [90], [122], _, _, e.symm, ⟨_, (N₉ _ (.tail _ (.tail _ (.head _)))).1, rfl, _, rfl⟩, pairOk pb_z⟩
        | k + 4, e => simp at e
    repeat walk1
    rename News _ _ _ _ => N₉
    refine hQ _ _ (keeps_of (Fr.keep (by assumption))) (prs_of (l := its.toList) (by simpa using News.isList N₉ (.head _)) (by simp; omega) (hall _ fun p hp => (N₉ p (.tail _ hp)).1))
end Mine
end

/- P5 -/
section
open PySem PySem.W PyProof.Rows
set_option Elab.async false
set_option maxRecDepth 100000
set_option maxHeartbeats 0
namespace Mine
noncomputable def foundOf (R : List Nat) : List (Option (List Nat)) :=
  [clo (rd (prep R)) (rd (prep R)), clo (prep (rd R)) (prep (rd R)), (clo (prep R) (prep R)).map rd, (clo R R).map (fun l => rd (prep l)), (clo (rd R) (rd R)).map prep, (clo R R).map (fun l => prep (rd l))]
theorem refused_sp : ∀ l, refused (sp l).flatten = refused l
  | [] => rfl
  | c :: r => by
    have ih := refused_sp r
    unfold sp
    by_cases h : c = 34
    · subst h
      rw [if_pos rfl]
      show refused ([] ++ (sp r).flatten) = _
      rw [List.nil_append, ih]
      unfold refused
      rw [List.any_cons, show ctl 34 = false from rfl, Bool.false_or]
    · rw [if_neg h]
      cases hs : sp r with
      | nil => exact absurd hs (sp_ne r)
      | cons a b =>
        rw [hs] at ih
        unfold refused at ih ⊢
        simp only [List.flatten_cons, List.any_append, List.any_cons] at ih ⊢
        rw [← ih]; simp [Bool.or_assoc]
theorem clo_rd (M : List Nat) : (clo M M).map rd = fst (sp M) (sp M) := by
  unfold clo fst
  rw [refused_sp]
  cases refused M with
  | true => rfl
  | false =>
    cases M with
    | nil => rfl
    | cons c r =>
      show some (rd (esc (c :: r) ++ [34])) = some _
      rw [rd_esc]
theorem prep_one34 : prep [34] = [34] := by rw [prep_cons, prep_nil, pr1_34]; rfl
theorem prep_one92 : prep [92] = [92] := by rw [prep_cons, prep_nil, pr1_92]; rfl
theorem prep_two : prep [92, 34] = [92, 34] := by rw [prep_cons, prep_one34, pr1_92]; rfl
theorem prep_close {l : List Nat} (h : Gs l) : prep (esc l ++ [34]) = esc (prep l) ++ [34] := by
  rw [prep_append, prep_esc pr1_34 pr1_92 h, prep_one34]
theorem prep_fstT (sh as : List (List Nat)) : prep (fstT sh as) = fstT sh as := by
  unfold fstT
  split
  · rfl
  · split
    · exact prep_two
    · exact prep_one92
theorem fstT_len {sh sh' as : List (List Nat)} (h : sh.length = sh'.length) : fstT sh as = fstT sh' as := by unfold fstT; rw [h]
theorem plain {R : List Nat} (hG : Gs R) : foundOf R = dueOf R (prep R) := by
  have hs := sp_prep pr1_34 hG
  have hr := refused_prep hG
  have hb : prep (rd R) = tld (sp (prep R)) (sp R) := by rw [rd_tld, prep_tld pr1_34, hs]
  have f1 : clo (rd (prep R)) (rd (prep R)) = clo (tld (sp (prep R)) (sp (prep R))) (tld (sp (prep R)) (sp (prep R))) := by rw [rd_tld]
  have f2 : clo (prep (rd R)) (prep (rd R)) = clo (tld (sp (prep R)) (sp R)) (tld (sp (prep R)) (sp R)) := by rw [hb]
  have f3 := clo_rd (prep R)
  have f4 : (clo R R).map (fun l => rd (prep l)) = fst (sp (prep R)) (sp (prep R)) := by
    rw [← clo_rd]
    unfold clo
    rw [hr]
    cases refused R with
    | true => rfl
    | false =>
      cases R with
      | nil => rfl
      | cons c r =>
        show some (rd (prep (esc (c :: r) ++ [34]))) = Option.map rd (if (prep (c :: r) == []) = true then some [] else some (esc (prep (c :: r)) ++ [34]))
        rw [prep_close hG]
        cases hp : prep (c :: r) with
        | nil => rfl
        | cons x y => rfl
  have f5 : (clo (rd R) (rd R)).map prep = clo (tld (sp R) (sp R)) (tld (sp (prep R)) (sp R)) := by
    rw [← rd_tld, ← hb]
    unfold clo
    cases refused (rd R) with
    | true => rfl
    | false =>
      cases hq : rd R with
      | nil => rfl
      | cons x y =>
        show some (prep (esc (x :: y) ++ [34])) = some (esc (prep (x :: y)) ++ [34])
        rw [prep_close (by rw [← hq]; exact Gs.rd G_34 hG)]
  have f6 : (clo R R).map (fun l => prep (rd l)) = fst (sp (prep R)) (sp R) := by
    unfold fst
    rw [refused_sp, hr]
    unfold clo
    cases refused R with
    | true => rfl
    | false =>
      cases hR : R with
      | nil => rfl
      | cons c r =>
        rw [← hR]
        have hne : (R == []) = false := by rw [hR]; rfl
        rw [hne]
        show some (prep (rd (esc R ++ [34]))) = some _
        rw [rd_esc, prep_append, prep_fstT]
        congr 1
        have hlen : (sp R).length = (sp (prep R)).length := by rw [hs, List.length_map]
        rw [fstT_len hlen]
        congr 1
        have hh : (sp (prep R)).headD [] = prep ((sp R).headD []) := by
          rw [hs]
          cases sp R <;> rfl
        rw [hh]
        refine prep_esc pr1_34 pr1_92 fun x hx => ?_
        cases hq : sp R with
        | nil => rw [hq] at hx; simp at hx
        | cons a b =>
          rw [hq] at hx
          have := mem_jn (sp R) x ⟨a, by rw [hq]; exact .head _, hx⟩
          rw [jn_sp] at this
          exact hG x this
  unfold foundOf dueOf
  rw [f1, f2, f3, f4, f5, f6]
theorem pairs_texts : ∀ {ps : List (List Nat × List Nat)}, (∀ ab ∈ ps, PairOk ab.1 ab.2) → Gs (ps.map (·.1)).flatten ∧ (ps.map (·.2)).flatten = prep (ps.map (·.1)).flatten ∧ ∀ ab ∈ ps, ab.1.length ≤ 1 ∧ ab.2.length ≤ 4
  | [], _ => ⟨(fun _ h => by cases h), rfl, (fun _ h => by cases h)⟩
  | p :: r, h => by
    obtain ⟨h1, h2, h3⟩ := pairs_texts (ps := r) fun ab hab => h ab (.tail _ hab)
    obtain ⟨c, e1, e2, hg⟩ := h p (.head _)
    refine ⟨fun x hx => ?_, ?_, fun ab hab => ?_⟩
    · rw [List.map_cons, List.flatten_cons, e1] at hx
      rcases List.mem_cons.mp hx with rfl | hx
      · exact hg
      · exact h1 x hx
    · rw [List.map_cons, List.flatten_cons, List.map_cons, List.flatten_cons, h2, e1, e2, prep_append, prep_cons, prep_nil, List.append_nil]
    · rcases List.mem_cons.mp hab with rfl | hab
      · refine ⟨by rw [e1]; exact Nat.le_refl _, ?_⟩
        rw [e2]; unfold pr1
        split
        · simp
        · exact len_m3 c
      · exact h3 ab hab
end Mine
end

/- P6 -/
section
open PySem PySem.W PyProof.Rows
set_option Elab.async false
set_option maxRecDepth 100000
set_option maxHeartbeats 0
namespace Mine
def Sm (l : List Nat) : Prop := ∀ c ∈ l, c < 1114112
def OSm (o : Option (List Nat)) : Prop := ∀ l, o = some l → Sm l
theorem rd_sub : ∀ (l : List Nat), ∀ x ∈ rd l, x ∈ l
  | [], x, h => by simp [rd] at h
  | [c], x, h => by
    unfold rd at h
    split at h
    · simp at h
    · exact h
  | c :: d :: r, x, h => by
    have h1 := rd_sub r x
    have h2 := rd_sub (d :: r) x
    unfold rd at h
    by_cases hc : (c == 34) = true
    · rw [if_pos hc] at h
      have ec : c = 34 := beq_iff_eq.mp hc
      by_cases hd : (d == 34) = true
      · rw [if_pos hd] at h
        rcases List.mem_cons.mp h with e | h
        · rw [e, ← ec]; exact .head _
        · exact .tail _ (.tail _ (h1 h))
      · rw [if_neg hd] at h; simp at h
    · rw [if_neg hc] at h
      rcases List.mem_cons.mp h with e | h
      · rw [e]; exact .head _
      · exact .tail _ (h2 h)
theorem Sm.rd {l : List Nat} (h : Sm l) : Sm (rd l) := fun x hx => h x (rd_sub l x hx)
theorem esc_sub (l : List Nat) : ∀ x ∈ esc l, x ∈ l ∨ x = 92 := by
  induction l with
  | nil => intro x h; simp [esc] at h
  | cons c r ih =>
    intro x h
    have e : esc (c :: r) = esc1 c ++ esc r := rfl
    rw [e, List.mem_append] at h
    rcases h with h | h
    · unfold esc1 at h
      split at h
      · simp at h; rcases h with h | h
        · exact .inr h
        · exact .inl (h ▸ .head _)
      · simp at h; exact .inl (h ▸ .head _)
    · rcases ih x h with h | h
      · exact .inl (.tail _ h)
      · exact .inr h
theorem Sm.esc {l : List Nat} (h : Sm l) : Sm (esc l ++ [34]) := fun x hx => by
  rcases List.mem_append.mp hx with hx | hx
  · rcases esc_sub l x hx with hx | rfl
    · exact h x hx
    · decide
  · simp at hx; subst hx; decide
theorem G_92 : G 92 := g_of (by decide +kernel)
theorem Gs.esc {l : List Nat} (h : Gs l) : Gs (esc l ++ [34]) := fun x hx => by
  rcases List.mem_append.mp hx with hx | hx
  · rcases esc_sub l x hx with hx | rfl
    · exact h x hx
    · exact G_92
  · simp at hx; subst hx; exact G_34
theorem Gs.sm {l : List Nat} (h : Gs l) : Sm l := fun c hc => (h c hc).small
theorem Gs.smp : ∀ {l : List Nat}, Gs l → Sm (prep l)
  | [], _ => fun x hx => by simp [prep_nil] at hx
  | c :: r, h => fun x hx => by
    rw [prep_cons, List.mem_append] at hx
    rcases hx with hx | hx
    · exact (h c (.head _)).smalls x hx
    · exact Gs.smp h.tail x hx
theorem Sm.nil : Sm [] := fun x hx => by cases hx
theorem OSm.clo {tl shn : List Nat} (h : Sm shn) : OSm (clo tl shn) := fun l e => by
  unfold Mine.clo at e
  split at e
  · cases e
  · split at e
    · injection e with e; subst e; exact Sm.nil
    · injection e with e; subst e; exact h.esc
theorem OSm.map {o : Option (List Nat)} {g : List Nat → List Nat} (h : ∀ l, o = some l → Sm (g l)) : OSm (o.map g) := fun l e => by
  cases o with
  | none => cases e
  | some x => injection e with e; subst e; exact h x rfl
/-- what written lays of a text of good signs -/
theorem clo_gs {R l : List Nat} (hG : Gs R) (e : clo R R = some l) : Gs l := by
  unfold clo at e
  split at e
  · cases e
  · split at e
    · injection e with e; subst e; exact fun x hx => by cases hx
    · injection e with e; subst e; exact hG.esc
theorem found_sm {R : List Nat} (hG : Gs R) : ∀ o ∈ foundOf R, OSm o := by
  intro o ho
  unfold foundOf at ho
  simp only [List.mem_cons, List.not_mem_nil, or_false] at ho
  rcases ho with rfl | rfl | rfl | rfl | rfl | rfl
  · exact OSm.clo hG.smp.rd
  · exact OSm.clo (Gs.rd G_34 hG).smp
  · exact OSm.map fun l e => Sm.rd (OSm.clo hG.smp l e)
  · exact OSm.map fun l e => Sm.rd (clo_gs hG e).smp
  · exact OSm.map fun l e => (clo_gs (Gs.rd G_34 hG) e).smp
  · exact OSm.map fun l e => (Gs.rd G_34 (clo_gs hG e)).smp
theorem found_len {R : List Nat} : (foundOf R).length = 6 := rfl
end Mine
end

/- W24 -/
section
open PySem PySem.W PyProof.Rows
set_option Elab.async false
set_option maxRecDepth 100000
set_option maxHeartbeats 0
namespace Mine
/-- the pairs stand as long as the base and these objects stand -/
def HeldP (h₀ : Heap) (exs : List (Addr × Obj)) (v : Value) (ps : List (List Nat × List Nat)) : Prop := ∀ h' : Heap, (∀ b o, h₀.get? b = some o → h'.get? b = some o) → (∀ p ∈ exs, h'.get? p.1 = some p.2) → Prs h' v ps
theorem HeldP.more {h₀ : Heap} {exs exs' : List (Addr × Obj)} {v : Value} {ps : List (List Nat × List Nat)} (x : HeldP h₀ exs v ps) (sub : ∀ p ∈ exs, p ∈ exs') : HeldP h₀ exs' v ps := fun h' b g => x h' b fun p hp => g p (sub p hp)
theorem tups_objs {h : Heap} : ∀ (its : List Value) (ps : List (List Nat × List Nat)), (∀ (i : Nat) (v : Value), its[i]? = some v → ∃ (t : Addr) (a b : List Nat) (u u' : Tok), v = .ref t ∧ IsTup h t #[.str (tx a) u, .str (tx b) u'] ∧ ps[i]? = some (a, b)) →
    ∃ l : List (Addr × Obj), (∀ p ∈ l, h.get? p.1 = some p.2 ∧ ∀ es n, p.2.data ≠ .dict es n) ∧ ∀ h' : Heap, (∀ p ∈ l, h'.get? p.1 = some p.2) →
      (∀ (i : Nat) (v : Value), its[i]? = some v → ∃ (t : Addr) (a b : List Nat) (u u' : Tok), v = .ref t ∧ IsTup h' t #[.str (tx a) u, .str (tx b) u'] ∧ ps[i]? = some (a, b))
  | [], _, _ => ⟨[], (fun _ hp => by cases hp), fun _ _ i v e => by simp at e⟩
  | x :: r, ps, hh => by
    obtain ⟨l, h1, h2⟩ := tups_objs r (ps.drop 1) fun i v e => by
      obtain ⟨t, a, b, u, u', e1, e2, e3⟩ := hh (i + 1) v (by simpa using e)
      exact ⟨t, a, b, u, u', e1, e2, by rw [List.getElem?_drop, Nat.add_comm]; exact e3⟩
    obtain ⟨t, a, b, u, u', e1, ⟨o, ho, hc, n, hd⟩, e3⟩ := hh 0 x rfl
    refine ⟨(t, o) :: l, fun p hp => ?_, fun h' hg i v e => ?_⟩
    · rcases List.mem_cons.mp hp with rfl | hp
      · exact ⟨ho, fun es n q => by rw [hd] at q; cases q⟩
      · exact h1 p hp
    · cases i with
      | zero => simp at e; subst e; exact ⟨t, a, b, u, u', e1, ⟨o, hg _ (.head _), hc, n, hd⟩, e3⟩
      | succ i =>
        obtain ⟨t, a, b, u, u', e1, e2, e3⟩ := h2 h' (fun p hp => hg p (.tail _ hp)) i v (by simpa using e)
        exact ⟨t, a, b, u, u', e1, e2, by rw [List.getElem?_drop, Nat.add_comm] at e3; exact e3⟩
theorem hold_all {h₀ h : Heap} {L : Addr} {m : Str → Option Value} (F : Fr h₀ L h m) : ∀ (l : List (Addr × Obj)), (∀ p ∈ l, h.get? p.1 = some p.2 ∧ ∀ es n, p.2.data ≠ .dict es n) →
    ∃ ex, News h₀ L h ex ∧ ∀ h' : Heap, (∀ b o, h₀.get? b = some o → h'.get? b = some o) → (∀ p ∈ ex, h'.get? p.1 = some p.2) → ∀ p ∈ l, h'.get? p.1 = some p.2
  | [], _ => ⟨[], News.nil, fun _ _ _ p hp => by cases hp⟩
  | q :: r, hl => by
    obtain ⟨ex, N, hk⟩ := hold_all F r fun p hp => hl p (.tail _ hp)
    obtain ⟨e1, e2⟩ := hl q (.head _)
    cases e : h₀.get? q.1 with
    | some o' =>
      refine ⟨ex, N, fun h' hb hg p hp => ?_⟩
      rcases List.mem_cons.mp hp with rfl | hp
      · have e3 := F.keep _ _ e
        rw [e1] at e3; injection e3 with e3
        rw [e3]; exact hb _ _ e
      · exact hk h' hb hg p hp
    | none =>
      refine ⟨q :: ex, News.more F N e1 e2 e, fun h' hb hg p hp => ?_⟩
      rcases List.mem_cons.mp hp with rfl | hp
      · exact hg _ (.head _)
      · exact hk h' hb (fun p hp => hg p (.tail _ hp)) p hp
theorem hold_prs {h₀ h : Heap} {L : Addr} {m : Str → Option Value} {v : Value} {ps : List (List Nat × List Nat)} (F : Fr h₀ L h m) (x : Prs h v ps) :
    ∃ ex, News h₀ L h ex ∧ HeldP h₀ ex v ps := by
  obtain ⟨D, its, e, ⟨o, ho, hc, n, hd⟩, h1, h2⟩ := x
  obtain ⟨l, hl, hk⟩ := tups_objs its.toList ps fun i v e => h2 i v (by simpa using e)
  obtain ⟨ex, N, hx⟩ := hold_all F ((D, o) :: l) fun p hp => by
    rcases List.mem_cons.mp hp with rfl | hp
    · exact ⟨ho, fun es n q => by rw [hd] at q; cases q⟩
    · exact hl p hp
  refine ⟨ex, N, fun h' hb hg => ?_⟩
  have hall := hx h' hb hg
  exact ⟨D, its, e, ⟨o, hall _ (.head _), hc, n, hd⟩, h1, fun i v e => hk h' (fun p hp => hall p (.tail _ hp)) i v (by simpa using e)⟩
theorem holdx {h₀ h : Heap} {L : Addr} {m : Str → Option Value} {v : Value} {o : Option (List Nat)} (F : Fr h₀ L h m) (x : Ov h v o) : ∃ ex, News h₀ L h ex ∧ Held h₀ ex v o ∧ ∀ p ∈ ex, ∃ n, p.2.data = .seq #[] n := by
  cases o with
  | some l => exact ⟨[], News.nil, (fun h' _ _ => x), fun p hp => by cases hp⟩
  | none =>
    obtain ⟨D, rfl, ob, ho, hc, n, hd⟩ := x
    cases e : h₀.get? D with
    | some o' =>
      have e2 := F.keep _ _ e
      refine ⟨[], News.nil, fun h' hb _ => ⟨D, rfl, ob, ?_, hc, n, hd⟩, fun p hp => by cases hp⟩
      rw [ho] at e2; injection e2 with e2; subst e2
      exact hb _ _ e
    | none =>
      refine ⟨[(D, ob)], News.more F News.nil ho (fun es n q => by rw [hd] at q; cases q) e, fun h' _ hg => ⟨D, rfl, ob, hg _ (.head _), hc, n, hd⟩, fun p hp => ?_⟩
      rw [List.mem_singleton] at hp; subst hp; exact ⟨n, hd⟩
theorem news_append {h₀ h : Heap} {L : Addr} {a b : List (Addr × Obj)} (x : News h₀ L h a) (y : News h₀ L h b) : News h₀ L h (a ++ b) := fun p hp => by
  rcases List.mem_append.mp hp with hp | hp
  · exact x p hp
  · exact y p hp
theorem hold3 {h₀ h : Heap} {L : Addr} {m : Str → Option Value} {v : Value} {o : Option (List Nat)} {exs : List (Addr × Obj)} (F : Fr h₀ L h m) (N : News h₀ L h exs) (x : Ov h v o) : ∃ exs', News h₀ L h exs' ∧ (∀ p ∈ exs, p ∈ exs') ∧ Held h₀ exs' v o := by
  obtain ⟨ex, Nx, H, _⟩ := holdx F x
  exact ⟨ex ++ exs, news_append Nx N, fun p hp => List.mem_append_right _ hp, H.more fun p hp => List.mem_append_left _ hp⟩
theorem hold4 {h₀ h : Heap} {L Fd : Addr} {m : Str → Option Value} {v : Value} {o : Option (List Nat)} {arr : Array Value} {n : Nat} {exs : List (Addr × Obj)} (F : Fr h₀ L h m) (N : News h₀ L h ((Fd, listOf arr n) :: exs)) (ha : 0 < arr.size) (off : ∀ p ∈ exs, p.1 ≠ Fd) (x : Ov h v o) :
    ∃ exs', News h₀ L h ((Fd, listOf arr n) :: exs') ∧ (∀ p ∈ exs, p ∈ exs') ∧ (∀ p ∈ exs', p.1 ≠ Fd) ∧ Held h₀ exs' v o := by
  obtain ⟨ex, Nx, H, hd⟩ := holdx F x
  refine ⟨ex ++ exs, fun p hp => ?_, fun p hp => List.mem_append_right _ hp, fun p hp e => ?_, H.more fun p hp => List.mem_append_left _ hp⟩
  · rcases List.mem_cons.mp hp with rfl | hp
    · exact N _ (.head _)
    · exact news_append Nx (fun p hp => N p (.tail _ hp)) p hp
  · rcases List.mem_append.mp hp with hp | hp
    · have e1 := (Nx p hp).1
      have e2 := (N _ (.head _)).1
      rw [e] at e1
      rw [e1] at e2; injection e2 with e2
      obtain ⟨k, hk⟩ := hd p hp
      rw [e2] at hk
      injection hk with hk
      rw [hk] at ha; exact absurd ha (by decide)
    · exact off p hp e
def dataOf : Option (List Nat) → PyData
  | none => .list []
  | some l => .str (tx l)
theorem ov_reads {h : Heap} {v : Value} {o : Option (List Nat)} (x : Ov h v o) : ∃ as, Reads h v (dataOf o) as := by
  cases o with
  | none => obtain ⟨D, rfl, hl⟩ := x; exact ⟨_, reads_newData (ys := []) hl .nil⟩
  | some l => obtain ⟨t, rfl⟩ := x; exact ⟨_, .str _ _⟩
theorem ovs_reads {h : Heap} {vs : List Value} {os : List (Option (List Nat))} (x : Ovs h vs os) : ∃ as, ReadsAll h vs (os.map dataOf) as := by
  induction x with
  | nil => exact ⟨_, .nil⟩
  | cons a _ ih =>
    obtain ⟨as, r⟩ := ov_reads a
    obtain ⟨bs, rs⟩ := ih
    exact ⟨_, .cons r rs⟩
theorem outs_reads {h : Heap} {v : Value} {os : List (Option (List Nat))} (x : Outs h v os) : ∃ as, Reads h v (.list (os.map dataOf)) as := by
  obtain ⟨D, vs, rfl, hl, hv⟩ := x
  obtain ⟨as, r⟩ := ovs_reads hv
  exact ⟨_, reads_newLists hl r⟩
theorem sm_ok {l : List Nat} (h : Sm l) : PyData.strOk (tx l) = true := by
  unfold PyData.strOk
  rw [Array.all_eq_true']
  intro c hc
  exact decide_eq_true (h c (by simpa using hc))
theorem ov_shaped {o : Option (List Nat)} (h : OSm o) : SeqAt.shaped (dataOf o) = true := by
  cases o with
  | none => simp [dataOf, SeqAt.shaped, PyData.canLay0, PyData.canLayAll0, PyData.depth, PyData.depthAll]
  | some l => simp [dataOf, SeqAt.shaped, PyData.canLay0, PyData.depth, sm_ok (h l rfl)]
theorem ovs_shaped : ∀ {os : List (Option (List Nat))}, (∀ o ∈ os, OSm o) → PyData.canLayAll0 (os.map dataOf) = true ∧ PyData.depthAll (os.map dataOf) ≤ 1
  | [], _ => ⟨rfl, Nat.zero_le _⟩
  | o :: r, h => by
    obtain ⟨h1, h2⟩ := ovs_shaped fun x hx => h x (.tail _ hx)
    have h3 : PyData.canLay0 (dataOf o) = true ∧ PyData.depth (dataOf o) ≤ 1 := by
      cases o with
      | none => exact ⟨rfl, Nat.le_refl _⟩
      | some l => exact ⟨by simp [dataOf, PyData.canLay0, sm_ok (h _ (.head _) l rfl)], Nat.zero_le _⟩
    refine ⟨by simp [PyData.canLayAll0, h1, h3.1], ?_⟩
    show max _ _ ≤ 1
    omega
theorem outs_shaped {os : List (Option (List Nat))} (h : ∀ o ∈ os, OSm o) : SeqAt.shaped (.list (os.map dataOf)) = true := by
  obtain ⟨h1, h2⟩ := ovs_shaped h
  unfold SeqAt.shaped
  rw [Bool.and_eq_true]
  exact ⟨h1, decide_eq_true (by show PyData.depthAll _ + 1 ≤ 64; omega)⟩
theorem eqv_outs : ∀ os : List (Option (List Nat)), PyData.eqvAll (os.map dataOf) (os.map dataOf) = true
  | [] => rfl
  | o :: r => by
    have ih := eqv_outs r
    have h : PyData.eqv (dataOf o) (dataOf o) = true := by
      cases o with
      | none => rfl
      | some l => simp [dataOf, PyData.eqv]
    show (PyData.eqv _ _ && _) = true
    rw [h, ih]; rfl
/-- a line that is the empty list stays, another one is taken on -/
theorem if_line {w : World} {A : Around} {E Q : Value → Shared → Prop} {s : Shared} {fa : Addr} {lcd : Value} {h₀ : Heap} {L : Addr} {m : Str → Option Value} {news exs : List (Addr × Obj)} {x : Str} {p1 p2 p3 p4 p5 : Pos} {els : Expr} {v : Value} {o : Option (List Nat)} {g : List Nat → List Nat}
    (F : Fr h₀ L s.heap m) (N : News h₀ L s.heap news) (hx : m x = some v) (H : Held h₀ exs v o) (sub : ∀ p ∈ exs, p ∈ news) (ho : OSm o) (hu : A.units + 64 < cLine)
    (hels : ∀ (l : List Nat) (t : Tok) (s₁ : Shared), o = some l → v = .str (tx l) t → Fr h₀ L s₁.heap m → News h₀ L s₁.heap news → s.toks ≤ s₁.toks → wpAny (model pg w) A (eval els (lawEnv fa lcd L)) (fun v' s' => Fr h₀ L s'.heap m ∧ News h₀ L s'.heap news ∧ (∃ t', v' = .str (tx (g l)) t') ∧ s'.gens = s₁.gens ∧ s'.os = s₁.os) E s₁)
    (hQ : ∀ v' s', Fr h₀ L s'.heap m → News h₀ L s'.heap news → Ov s'.heap v' (o.map g) → s.toks ≤ s'.toks → s'.gens = s.gens → s'.os = s.os → Q v' s')
    (hkx : (lawEnv fa lcd L).kindOf x = some .local) (hdx : (x == ("__debug__" : Str)) = false) :
    wpAny (model pg w) A (eval (.IfExp (.Compare (.Name x p1) [.Eq] [.List [] p2] p3) (.Name x p4) els p5) (lawEnv fa lcd L)) Q E s := by
  refine wpAny_with_toks (n := s.toks) (Nat.le_refl _) ?_
  refine IfExp_ (wpAny_isTrue_Compare1 (ld F hx ?_ (by rfl) hkx hdx))
  refine List_ ?_
  show wpAny _ _ (spliced _) _ _ _
  have hsp : ∀ {Q : List Value → Shared → Prop} {E : Value → Shared → Prop} {s : Shared}, Q [] s → wpAny (model pg w) A (spliced (backTo p2 (starEach [] (lawEnv fa lcd L)))) Q E s := fun h => wpAny_pure h
  refine hsp ?_
  refine newList_N F N fun h₁ F₁ N₁ => ?_
  have hOv : Ov h₁ v o := H h₁ F₁.keep fun p hp => (N₁ p (.tail _ (sub p hp))).1
  obtain ⟨as, hr⟩ := ov_reads hOv
  have hnil : Reads h₁ (.ref s.heap.objs.size) (.list []) [s.heap.objs.size] := reads_newData (ys := []) (News.isList N₁ (.head _)) .nil
  refine eq_dataH hr hnil (ov_shaped ho) (by rfl) hu ?_
  have N₂ : News h₀ L h₁ news := fun p hp => N₁ p (.tail _ hp)
  cases o with
  | none =>
    show wpAny _ _ (truthy (.bool true)) _ _ _
    refine wpAny_pure ?_
    show wpAny _ _ (eval (.Name x p4) _) _ _ _
    exact ld F₁ hx (fun htk => hQ _ _ F₁ N₂ hOv htk rfl rfl) (by rfl) hkx hdx
  | some l =>
    obtain ⟨t, rfl⟩ := hOv
    show wpAny _ _ (truthy (.bool false)) _ _ _
    refine wpAny_pure ?_
    show wpAny _ _ (eval els _) _ _ _
    refine wpAny_mono (hels l t _ rfl rfl F₁ N₂ (Nat.le_refl _)) (fun v' s' hp => ?_) fun _ _ e _ => e
    obtain ⟨F', N', ⟨t', rfl⟩, e1, e2⟩ := hp
    exact fun htk => hQ _ _ F' N' ⟨t', rfl⟩ htk e1 e2
end Mine
end

/- W30 -/
section
open PySem PySem.W PyProof.Rows
set_option Elab.async false
set_option maxRecDepth 100000
set_option maxHeartbeats 0
namespace Mine
theorem clo_bound {x l : List Nat} (e : clo x x = some l) : l.length ≤ 2 * x.length + 1 := by
  have h := esc_len x
  unfold clo at e
  split at e
  · cases e
  · split at e
    · injection e with e; subst e; simp
    · injection e with e; subst e; simp; omega
theorem prep_len (l : List Nat) : (prep l).length ≤ 4 * l.length := by
  induction l with
  | nil => exact Nat.le_refl _
  | cons c r ih =>
    rw [prep_cons, List.length_append, List.length_cons]
    have : (pr1 c).length ≤ 4 := by
      unfold pr1; split
      · simp
      · exact len_m3 c
    omega
local macro_rules | `(tactic| walk_at "execs cons") => `(tactic| (run_tac Mine.keepTok))
local macro_rules | `(tactic| walk_at "execs nil") => `(tactic| (run_tac Mine.keepTok))
theorem walked : PySem.Challenge.rw_wf0097_01.Holds := Mine.hdK (by
  k_go0
  (all_goals try k_fold)
  rename IntsAre _ _ => hI
  rename Fr _ _ _ _ => F
  rename News _ _ _ _ => N
  rename Below _ _ _ _ => B
  rename Frag.In _ _ => X
  rename Top _ _ _ _ _ _ => T
  rename Heap.IsList _ _ _ => hS
  rename ¬ ((63 : Nat) : Int) < _ => hlen
  have hIl := hI.length
  repeat ((run_tac notCall [291]); walk1)
  refine wpAny_with_toks (n := 1) (by show 1 ≤ (_ : Nat); first | omega | (dsimp only; omega) | exact Nat.le_add_left 1 _) ?_
  refine pairs _ _ _ _ _ (hS.at fun o e => F.keep _ _ e) hI (by omega) _ _ _ (by rfl) ⟨by k_in, _, _, _, _, (topRead_of T).keeps (Fr.keep (by assumption))⟩ (by k_room) (by units_room) fun v s' k e htk => ?_
  obtain ⟨ps, hP, hp18, hok⟩ := e
  obtain ⟨D, its, rfl, hl, hsz, hits⟩ := id hP
  obtain ⟨h₂, tk₂, rfl, k₂⟩ := k
  have F₂ := F.keeps k₂
  obtain ⟨exs, N₂, HP⟩ := hold_prs F₂ hP
  obtain ⟨hG, hM, hsm⟩ := pairs_texts hok
  clear F N hl hsz hits hP
  dsimp only at F₂ N₂ htk ⊢
  repeat ((run_tac notExpr ``PySem.Expr.ListComp); walk1)
  rename Fr _ _ _ _ => F₃
  rename News _ _ _ _ => N₃
  obtain ⟨Da, its, hDa, hl, hsz, hits⟩ := HP _ F₃.keep fun p hp => (N₃ p hp).1
  injection hDa with hDa
  subst hDa
  obtain ⟨LL, L1, L2, e1, e2, e3, e4, e5, e6⟩ := vals_of its.toList ps (by simpa using hsz) fun i v e => hits i v (by simpa using e)
  refine wpAny_with_toks (n := 1) (by show 1 ≤ (_ : Nat); first | omega | (dsimp only; omega)) ?_
  refine comp_pairs (fun x => x.1) (by rfl) ?_
  repeat ((run_tac isTree); walk1)
  refine ⟨D, its, LL, rfl, hl, by simpa using e1, Nat.le_trans (by omega : its.size ≤ 18) (by decide), fun i v e => e2 i v (by simpa using e), fun C' v₁ v₂ s₃ m₃ E' hn m1 m2 hk => ?_, fun D' h₄ tk₄ hD' hpl k₄ htk4 => ?_⟩
  · exact wpAny_Name (wpAny_loadName_local (by rfl) (by rfl) hn m1 ⟨rfl, _, _, rfl, fun _ _ e => e⟩) (by decide)
  rw [e3] at hpl
  have F₄ := F₃.keeps k₄
  have N₄ := N₃.grown k₄
  clear F₃ N₃ hl hits
  dsimp only at F₄ N₄ htk4 ⊢
  repeat ((run_tac notB "str.join"); walk1)
  refine wpAny_with_toks (n := 1) (by show 1 ≤ (_ : Nat); first | omega | (dsimp only; omega)) ?_
  refine SC.join hpl.isList e5 (join_ok (B := 4) (fun a ha => by obtain ⟨x, hx, rfl⟩ := List.mem_map.mp ha; have := hsm x hx; omega) (by rw [List.length_map]; omega)) fun t5 tk₅ htk5 => ?_
  dsimp only at htk5
  rw [join_tx]
  have hR : (ps.map (·.1)).flatten.length ≤ 18 := flat_le (B := 1) (fun x hx => (hsm x hx).1) hp18
  have hMl : (prep (ps.map (·.1)).flatten).length ≤ 72 := by rw [← hM]; exact flat_le (B := 4) (fun x hx => (hsm x hx).2) hp18
  have hsl : (sp (ps.map (·.1)).flatten).length = (sp (ps.map (·.2)).flatten).length := by rw [hM, sp_prep pr1_34 hG, List.length_map]
  have hdue := fun (w : World) (s : Shared) (hp : Prs s.heap (.ref D) ps) => due w D ps s hp hp18 hsm hsl
  rw [hM] at hdue
  generalize hRe : (ps.map (·.1)).flatten = R at *
  have hrl := rd_len R
  have hrm := rd_len (prep R)
  clear hpl
  repeat ((run_tac notCall [298, 303, 310, 346]); walk1)
  refine wpAny_with_toks (n := 1) (by show 1 ≤ (_ : Nat); first | omega | (dsimp only; omega) | exact Nat.le_add_left 1 _) ?_
  refine prepared _ R _ _ (by omega) _ _ _ (by rfl) ⟨by k_in, _, _, _, _, (topRead_of T).keeps (Fr.keep (by assumption))⟩ (by k_room) (by units_room) fun v s' k e htk1 => ?_
  obtain ⟨ta1, rfl⟩ := e
  obtain ⟨ha1, tka1, rfl, ka1⟩ := k
  have Fa1 := Fr.keeps (by assumption) ka1
  have Na1 := News.grown (by assumption) ka1
  dsimp only at Fa1 Na1 htk1 ⊢
  repeat ((run_tac notCall [298, 303, 310, 346]); walk1)
  refine wpAny_with_toks (n := 1) (by show 1 ≤ (_ : Nat); first | omega | (dsimp only; omega) | exact Nat.le_add_left 1 _) ?_
  refine read _ R _ _ (by omega) _ _ _ (by rfl) ⟨by k_in, _, _, _, _, (topRead_of T).keeps (Fr.keep (by assumption))⟩ (by k_room) (by units_room) fun v s' k e htk2 => ?_
  obtain ⟨ta2, rfl⟩ := e
  obtain ⟨ha2, tka2, rfl, ka2⟩ := k
  have Fa2 := Fr.keeps (by assumption) ka2
  have Na2 := News.grown (by assumption) ka2
  dsimp only at Fa2 Na2 htk2 ⊢
  repeat ((run_tac notCall [298, 303, 310, 346]); walk1)
  refine written _ R _ _ B (by assumption) (by assumption) X T (by omega) (by show (_ : Nat) ≠ _; first | omega | (dsimp only; omega)) ?_
  intro va3 s' Fb3 Nb3 ob3 htk3 eg3 eo3
  obtain ⟨hb3, gb3, db3, tb3, osb3⟩ := s'
  dsimp only at Fb3 Nb3 ob3 htk3 eg3 eo3 ⊢
  subst eg3 eo3
  obtain ⟨exs3, Nc3, sub3, H3⟩ := hold3 Fb3 Nb3 ob3
  clear Nb3
  replace HP := HeldP.more HP sub3
  repeat ((run_tac notCall [298, 303, 310, 346]); walk1)
  refine wpAny_with_toks (n := 1) (by show 1 ≤ (_ : Nat); first | omega | (dsimp only; omega) | exact Nat.le_add_left 1 _) ?_
  refine read _ (prep R) _ _ (by omega) _ _ _ (by rfl) ⟨by k_in, _, _, _, _, (topRead_of T).keeps (Fr.keep (by assumption))⟩ (by k_room) (by units_room) fun v s' k e htk4 => ?_
  obtain ⟨ta4, rfl⟩ := e
  obtain ⟨ha4, tka4, rfl, ka4⟩ := k
  have Fa4 := Fr.keeps (by assumption) ka4
  have Na4 := News.grown (by assumption) ka4
  dsimp only at Fa4 Na4 htk4 ⊢
  repeat ((run_tac notCall [298, 303, 310, 346]); walk1)
  refine written _ (rd (prep R)) _ _ B (by assumption) (by assumption) X T (by omega) (by show (_ : Nat) ≠ _; first | omega | (dsimp only; omega)) ?_
  intro va5 s' Fb5 Nb5 ob5 htk5 eg5 eo5
  obtain ⟨hb5, gb5, db5, tb5, osb5⟩ := s'
  dsimp only at Fb5 Nb5 ob5 htk5 eg5 eo5 ⊢
  subst eg5 eo5
  obtain ⟨exs5, Nc5, sub5, H5⟩ := hold3 Fb5 Nb5 ob5
  clear Nb5
  replace HP := HeldP.more HP sub5
  replace H3 := Held.more H3 sub5
  repeat ((run_tac notCall [298, 303, 310, 346]); walk1)
  refine wpAny_with_toks (n := 1) (by show 1 ≤ (_ : Nat); first | omega | (dsimp only; omega) | exact Nat.le_add_left 1 _) ?_
  refine prepared _ (rd R) _ _ (by omega) _ _ _ (by rfl) ⟨by k_in, _, _, _, _, (topRead_of T).keeps (Fr.keep (by assumption))⟩ (by k_room) (by units_room) fun v s' k e htk6 => ?_
  obtain ⟨ta6, rfl⟩ := e
  obtain ⟨ha6, tka6, rfl, ka6⟩ := k
  have Fa6 := Fr.keeps (by assumption) ka6
  have Na6 := News.grown (by assumption) ka6
  dsimp only at Fa6 Na6 htk6 ⊢
  repeat ((run_tac notCall [298, 303, 310, 346]); walk1)
  refine written _ (prep (rd R)) _ _ B (by assumption) (by assumption) X T (by have := rd_len R; have h9 := prep_len (rd R); omega) (by show (_ : Nat) ≠ _; first | omega | (dsimp only; omega)) ?_
  intro va7 s' Fb7 Nb7 ob7 htk7 eg7 eo7
  obtain ⟨hb7, gb7, db7, tb7, osb7⟩ := s'
  dsimp only at Fb7 Nb7 ob7 htk7 eg7 eo7 ⊢
  subst eg7 eo7
  obtain ⟨exs7, Nc7, sub7, H7⟩ := hold3 Fb7 Nb7 ob7
  clear Nb7
  replace HP := HeldP.more HP sub7
  replace H3 := Held.more H3 sub7
  replace H5 := Held.more H5 sub7
  repeat ((run_tac notCall [298, 303, 310, 346]); walk1)
  rename ∀ (p : Addr × Obj), p ∈ _ → p.1 < _ => lF
  have off0 : ∀ p ∈ exs7, p.1 ≠ _ := fun p hp => Nat.ne_of_lt (lF p hp)
  repeat ((run_tac notCall [298, 303, 310, 346]); walk1)
  refine written _ (prep R) _ _ B (by assumption) (by assumption) X T (by omega) (by show (_ : Nat) ≠ _; first | omega | (dsimp only; omega)) ?_
  intro va8 s' Fb8 Nb8 ob8 htk8 eg8 eo8
  obtain ⟨hb8, gb8, db8, tb8, osb8⟩ := s'
  dsimp only at Fb8 Nb8 ob8 htk8 eg8 eo8 ⊢
  subst eg8 eo8
  obtain ⟨exs8, Nc8, sub8, off8, H8⟩ := hold4 Fb8 Nb8 (by simp) off0 ob8
  clear Nb8
  replace HP := HeldP.more HP sub8
  replace H3 := Held.more H3 sub8
  replace H5 := Held.more H5 sub8
  replace H7 := Held.more H7 sub8
  repeat ((run_tac notExpr ``PySem.Expr.IfExp); walk1)
  rename Fr _ _ _ _ => Fd9
  rename News _ _ _ _ => Nd9
  refine wpAny_with_toks (n := 1) (by show 1 ≤ (_ : Nat); first | omega | (dsimp only; omega) | exact Nat.le_add_left 1 _) ?_
  refine if_line (g := rd) Fd9 Nd9 (by rfl) H8 (fun p hp => .tail _ hp) (OSm.clo hG.smp) (by units_room) ?hels ?hQ (by rfl) (by decide)
  case hels =>
    intro l tl s₁ hol hv F' N' htk'
    obtain ⟨h1, g1, d1, t1, os1⟩ := s₁
    dsimp only at F' N' htk' ⊢
    have hlb := clo_bound hol
    subst hv
    clear Fd9 Nd9
    repeat ((run_tac notCall [298, 303, 310, 346]); walk1)
    refine read _ l _ _ (by omega) _ _ _ (by rfl) ⟨by k_in, _, _, _, _, (topRead_of T).keeps (Fr.keep (by assumption))⟩ (by k_room) (by units_room) fun v s' k e => ?_
    obtain ⟨te, rfl⟩ := e
    obtain ⟨h2, tk2, rfl, k2⟩ := k
    have Fe := Fr.keeps (by assumption) k2
    have Ne := News.grown (by assumption) k2
    dsimp only at Fe Ne ⊢
    exact ⟨Fe, Ne, ⟨_, rfl⟩, rfl, rfl⟩
  case hQ =>
  intro vd9 s' Fe9 Ne9 od9 _ eg9 eo9 htk9
  obtain ⟨he9, ge9, de9, te9, ose9⟩ := s'
  dsimp only at Fe9 Ne9 od9 htk9 eg9 eo9 ⊢
  subst eg9 eo9
  clear Fd9 Nd9
  obtain ⟨exs9, Nf9, sub9, off9, H9⟩ := hold4 Fe9 Ne9 (by simp) off8 od9
  clear Ne9
  replace HP := HeldP.more HP sub9
  replace H3 := Held.more H3 sub9
  replace H5 := Held.more H5 sub9
  replace H7 := Held.more H7 sub9
  replace H8 := Held.more H8 sub9
  repeat ((run_tac notB "list.append"); walk1)
  refine append_K (by assumption) Nf9 (.head off9) (fun hg9 Fg9 Ng9 => ?_) (by rw [sizeLine_eq]; simp)
  clear Fe9 Nf9
  dsimp only at Fg9 Ng9 ⊢
  repeat ((run_tac notExpr ``PySem.Expr.IfExp); walk1)
  rename Fr _ _ _ _ => Fd10
  rename News _ _ _ _ => Nd10
  refine wpAny_with_toks (n := 1) (by show 1 ≤ (_ : Nat); first | omega | (dsimp only; omega) | exact Nat.le_add_left 1 _) ?_
  refine if_line (g := (fun l => rd (prep l))) Fd10 Nd10 (by rfl) H3 (fun p hp => .tail _ hp) (OSm.clo hG.sm) (by units_room) ?hels ?hQ (by rfl) (by decide)
  case hels =>
    intro l tl s₁ hol hv F' N' htk'
    obtain ⟨h1, g1, d1, t1, os1⟩ := s₁
    dsimp only at F' N' htk' ⊢
    have hlb := clo_bound hol
    subst hv
    clear Fd10 Nd10
    repeat ((run_tac notCall [298, 303, 310, 346]); walk1)
    refine prepared _ l _ _ (by omega) _ _ _ (by rfl) ⟨by k_in, _, _, _, _, (topRead_of T).keeps (Fr.keep (by assumption))⟩ (by k_room) (by units_room) fun v s' k e => ?_
    obtain ⟨te, rfl⟩ := e
    obtain ⟨h2, tk2, rfl, k2⟩ := k
    have Fe := Fr.keeps (by assumption) k2
    have Ne := News.grown (by assumption) k2
    dsimp only at Fe Ne ⊢
    clear F' N'
    repeat ((run_tac notCall [298, 303, 310, 346]); walk1)
    refine read _ (prep l) _ _ (by have := prep_len l; omega) _ _ _ (by rfl) ⟨by k_in, _, _, _, _, (topRead_of T).keeps (Fr.keep (by assumption))⟩ (by k_room) (by units_room) fun v s' k e => ?_
    obtain ⟨te2, rfl⟩ := e
    obtain ⟨h3, tk3, rfl, k3⟩ := k
    have Fe2 := Fr.keeps Fe k3
    have Ne2 := News.grown Ne k3
    dsimp only at Fe2 Ne2 ⊢
    exact ⟨Fe2, Ne2, ⟨_, rfl⟩, rfl, rfl⟩
  case hQ =>
  intro vd10 s' Fe10 Ne10 od10 _ eg10 eo10 htk10
  obtain ⟨he10, ge10, de10, te10, ose10⟩ := s'
  dsimp only at Fe10 Ne10 od10 htk10 eg10 eo10 ⊢
  subst eg10 eo10
  clear Fd10 Nd10
  obtain ⟨exs10, Nf10, sub10, off10, H10⟩ := hold4 Fe10 Ne10 (by simp) off9 od10
  clear Ne10
  replace HP := HeldP.more HP sub10
  replace H3 := Held.more H3 sub10
  replace H5 := Held.more H5 sub10
  replace H7 := Held.more H7 sub10
  replace H8 := Held.more H8 sub10
  replace H9 := Held.more H9 sub10
  repeat ((run_tac notB "list.append"); walk1)
  refine append_K (by assumption) Nf10 (.head off10) (fun hg10 Fg10 Ng10 => ?_) (by rw [sizeLine_eq]; simp)
  clear Fe10 Nf10
  dsimp only at Fg10 Ng10 ⊢
  repeat ((run_tac notCall [298, 303, 310, 346]); walk1)
  refine written _ (rd R) _ _ B (by assumption) (by assumption) X T (by omega) (by show (_ : Nat) ≠ _; first | omega | (dsimp only; omega)) ?_
  intro va11 s' Fb11 Nb11 ob11 htk11 eg11 eo11
  obtain ⟨hb11, gb11, db11, tb11, osb11⟩ := s'
  dsimp only at Fb11 Nb11 ob11 htk11 eg11 eo11 ⊢
  subst eg11 eo11
  obtain ⟨exs11, Nc11, sub11, off11, H11⟩ := hold4 Fb11 Nb11 (by simp) off10 ob11
  clear Nb11
  replace HP := HeldP.more HP sub11
  replace H3 := Held.more H3 sub11
  replace H5 := Held.more H5 sub11
  replace H7 := Held.more H7 sub11
  replace H8 := Held.more H8 sub11
  replace H9 := Held.more H9 sub11
  replace H10 := Held.more H10 sub11
  repeat ((run_tac notExpr ``PySem.Expr.IfExp); walk1)
  rename Fr _ _ _ _ => Fd12
  rename News _ _ _ _ => Nd12
  refine wpAny_with_toks (n := 1) (by show 1 ≤ (_ : Nat); first | omega | (dsimp only; omega) | exact Nat.le_add_left 1 _) ?_
  refine if_line (g := prep) Fd12 Nd12 (by rfl) H11 (fun p hp => .tail _ hp) (OSm.clo (Gs.rd G_34 hG).sm) (by units_room) ?hels ?hQ (by rfl) (by decide)
  case hels =>
    intro l tl s₁ hol hv F' N' htk'
    obtain ⟨h1, g1, d1, t1, os1⟩ := s₁
    dsimp only at F' N' htk' ⊢
    have hlb := clo_bound hol
    subst hv
    clear Fd12 Nd12
    repeat ((run_tac notCall [298, 303, 310, 346]); walk1)
    refine prepared _ l _ _ (by omega) _ _ _ (by rfl) ⟨by k_in, _, _, _, _, (topRead_of T).keeps (Fr.keep (by assumption))⟩ (by k_room) (by units_room) fun v s' k e => ?_
    obtain ⟨te, rfl⟩ := e
    obtain ⟨h2, tk2, rfl, k2⟩ := k
    have Fe := Fr.keeps (by assumption) k2
    have Ne := News.grown (by assumption) k2
    dsimp only at Fe Ne ⊢
    exact ⟨Fe, Ne, ⟨_, rfl⟩, rfl, rfl⟩
  case hQ =>
  intro vd12 s' Fe12 Ne12 od12 _ eg12 eo12 htk12
  obtain ⟨he12, ge12, de12, te12, ose12⟩ := s'
  dsimp only at Fe12 Ne12 od12 htk12 eg12 eo12 ⊢
  subst eg12 eo12
  clear Fd12 Nd12
  obtain ⟨exs12, Nf12, sub12, off12, H12⟩ := hold4 Fe12 Ne12 (by simp) off11 od12
  clear Ne12
  replace HP := HeldP.more HP sub12
  replace H3 := Held.more H3 sub12
  replace H5 := Held.more H5 sub12
  replace H7 := Held.more H7 sub12
  replace H8 := Held.more H8 sub12
  replace H9 := Held.more H9 sub12
  replace H10 := Held.more H10 sub12
  replace H11 := Held.more H11 sub12
  repeat ((run_tac notB "list.append"); walk1)
  refine append_K (by assumption) Nf12 (.head off12) (fun hg12 Fg12 Ng12 => ?_) (by rw [sizeLine_eq]; simp)
  clear Fe12 Nf12
  dsimp only at Fg12 Ng12 ⊢
  repeat ((run_tac notExpr ``PySem.Expr.IfExp); walk1)
  rename Fr _ _ _ _ => Fd13
  rename News _ _ _ _ => Nd13
  refine wpAny_with_toks (n := 1) (by show 1 ≤ (_ : Nat); first | omega | (dsimp only; omega) | exact Nat.le_add_left 1 _) ?_
  refine if_line (g := (fun l => prep (rd l))) Fd13 Nd13 (by rfl) H3 (fun p hp => .tail _ hp) (OSm.clo hG.sm) (by units_room) ?hels ?hQ (by rfl) (by decide)
  case hels =>
    intro l tl s₁ hol hv F' N' htk'
    obtain ⟨h1, g1, d1, t1, os1⟩ := s₁
    dsimp only at F' N' htk' ⊢
    have hlb := clo_bound hol
    subst hv
    clear Fd13 Nd13
    repeat ((run_tac notCall [298, 303, 310, 346]); walk1)
    refine read _ l _ _ (by omega) _ _ _ (by rfl) ⟨by k_in, _, _, _, _, (topRead_of T).keeps (Fr.keep (by assumption))⟩ (by k_room) (by units_room) fun v s' k e => ?_
    obtain ⟨te, rfl⟩ := e
    obtain ⟨h2, tk2, rfl, k2⟩ := k
    have Fe := Fr.keeps (by assumption) k2
    have Ne := News.grown (by assumption) k2
    dsimp only at Fe Ne ⊢
    clear F' N'
    repeat ((run_tac notCall [298, 303, 310, 346]); walk1)
    refine prepared _ (rd l) _ _ (by have := rd_len l; omega) _ _ _ (by rfl) ⟨by k_in, _, _, _, _, (topRead_of T).keeps (Fr.keep (by assumption))⟩ (by k_room) (by units_room) fun v s' k e => ?_
    obtain ⟨te2, rfl⟩ := e
    obtain ⟨h3, tk3, rfl, k3⟩ := k
    have Fe2 := Fr.keeps Fe k3
    have Ne2 := News.grown Ne k3
    dsimp only at Fe2 Ne2 ⊢
    exact ⟨Fe2, Ne2, ⟨_, rfl⟩, rfl, rfl⟩
  case hQ =>
  intro vd13 s' Fe13 Ne13 od13 _ eg13 eo13 htk13
  obtain ⟨he13, ge13, de13, te13, ose13⟩ := s'
  dsimp only at Fe13 Ne13 od13 htk13 eg13 eo13 ⊢
  subst eg13 eo13
  clear Fd13 Nd13
  obtain ⟨exs13, Nf13, sub13, off13, H13⟩ := hold4 Fe13 Ne13 (by simp) off12 od13
  clear Ne13
  replace HP := HeldP.more HP sub13
  replace H3 := Held.more H3 sub13
  replace H5 := Held.more H5 sub13
  replace H7 := Held.more H7 sub13
  replace H8 := Held.more H8 sub13
  replace H9 := Held.more H9 sub13
  replace H10 := Held.more H10 sub13
  replace H11 := Held.more H11 sub13
  replace H12 := Held.more H12 sub13
  repeat ((run_tac notB "list.append"); walk1)
  refine append_K (by assumption) Nf13 (.head off13) (fun hg13 Fg13 Ng13 => ?_) (by rw [sizeLine_eq]; simp)
  clear Fe13 Nf13
  dsimp only at Fg13 Ng13 ⊢
  repeat ((run_tac notCall [298, 303, 310, 346]); walk1)
  refine wpAny_with_toks (n := 1) (by show 1 ≤ (_ : Nat); first | omega | (dsimp only; omega) | exact Nat.le_add_left 1 _) ?_
  refine hdue _ _ (HP _ (Fr.keep (by assumption)) fun p hp => ((by assumption : News _ _ _ ((_, _) :: exs13)) p (.tail _ hp)).1) _ _ _ (by rfl) ⟨by k_in, _, _, _, _, (topRead_of T).keeps (Fr.keep (by assumption))⟩ (by k_room) (by units_room) fun v s' k ho htkz => ?_
  obtain ⟨hz, tkz, rfl, kz⟩ := k
  have Fz := Fr.keeps (by assumption) kz
  have Nz := News.grown (by assumption) kz
  dsimp only at Fz Nz htkz ho ⊢
  clear Fg13 Ng13
  have gz : ∀ p ∈ exs13, hz.get? p.1 = some p.2 := fun p hp => (Nz p (.tail _ hp)).1
  have ho2 : Outs hz (.ref _) (foundOf R) := ⟨_, [va5, va7, vd9, vd10, vd12, vd13], rfl, News.isList Nz (.head _), .cons (H5 _ Fz.keep gz) (.cons (H7 _ Fz.keep gz) (.cons (H9 _ Fz.keep gz) (.cons (H10 _ Fz.keep gz) (.cons (H12 _ Fz.keep gz) (.cons (H13 _ Fz.keep gz) .nil)))))⟩
  rw [← plain hG] at ho
  obtain ⟨as1, r1⟩ := outs_reads ho2
  obtain ⟨as2, r2⟩ := outs_reads ho
  refine eq_dataH r1 r2 (outs_shaped (found_sm hG)) (outs_shaped (found_sm hG)) (by units_room) ?_
  have hE : PyData.eqv (.list ((foundOf R).map dataOf)) (.list ((foundOf R).map dataOf)) = true := eqv_outs _
  rw [hE]
  repeat walk1
  refine goodW_bool Fz (by with_reducible assumption) (raisesW_false ?_) ?_
  · wrow_none_raised
  · kc_post)
end Mine
end

set_option maxRecDepth 100000 in
set_option maxHeartbeats 8000000 in
theorem PySem.Challenge.cw_wf0097_01_holds : PySem.Challenge.rw_wf0097_01.Holds := by
  exact Mine.walked
