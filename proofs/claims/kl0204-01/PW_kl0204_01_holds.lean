import PyProof.Rows.All
import Wide.All
import OpenK.AllK
import Wide.FinOn
import PyProof.Rows.SortStr
import KE.KxDecode
import Lean
import PySem.Challenge.RW_kl0204_01
set_option Elab.async false
/- part LX -/
section
open PySem PySem.W
set_option maxRecDepth 100000
namespace Mine
theorem goT_step {tb : String → Option Builtin} {p : Program} {w : World} {n₀ : Nat} {ann : Option Value} {n : Nat} {s s' : SharedT} {t t' : Thread} {r : Option (SharedT × Thread)}
    (h1 : endAt 1 t = none) (h2 : stepOk n₀ ann t = true) (h3 : stepT (denote tb) p w s t = some (s', t')) (h : segGoT tb p w n₀ ann 1 n s' t' = r) : segGoT tb p w n₀ ann 1 (n + 1) s t = r := by
  subst h
  show (match endAt 1 t with | some _ => none | none => match stepOk n₀ ann t with | false => none | true => match stepT (denote tb) p w s t with | some (s', t') => segGoT tb p w n₀ ann 1 n s' t' | none => none) = _
  rw [h1, h2, h3]
theorem endAt_cur {cur : Sem Fin} {c : Code} {pos : Pos} {st : List Frame} (h : ∀ f, cur ≠ .pure (.done f)) : endAt 1 ⟨cur, c, pos, st⟩ = none := by
  unfold endAt
  dsimp only
  split
  · rename_i f e; exact absurd rfl (h _)
  · rfl
theorem stepOk_load {n₀ : Nat} {ann : Option Value} {a : Addr} {q : Option Value} {k : Obj → Sem Fin} {c : Code} {pos : Pos} {st : List Frame} : stepOk n₀ ann ⟨.load a q k, c, pos, st⟩ = true := rfl
theorem goT_load {tb : String → Option Builtin} {p : Program} {w : World} {n₀ : Nat} {ann : Option Value} {n : Nat} {T : BT} {N : Nat} {life : Life} {gens : Array GenState} {drawn : Drawn} {toks : Nat} {os : OsState}
    {a : Addr} {q : Option Value} {k : Obj → Sem Fin} {c : Code} {pos : Pos} {st : List Frame} {r : Option (SharedT × Thread)} {o : Obj} (hlt : Nat.blt a N = true) (hg : T.get a = some o) (ha : alive o = some o)
    (h : segGoT tb p w n₀ ann 1 n ⟨T, N, life, gens, drawn, toks, os⟩ ⟨k o, c, pos, st⟩ = r) : segGoT tb p w n₀ ann 1 (n + 1) ⟨T, N, life, gens, drawn, toks, os⟩ ⟨.load a q k, c, pos, st⟩ = r :=
  goT_step (endAt_cur fun f e => by cases e) rfl (by simp only [stepT, hlt, hg, ha]) h
theorem goT_rule {tb : String → Option Builtin} {p : Program} {w : World} {n₀ : Nat} {ann : Option Value} {n : Nat} {s : SharedT}
    {tag : String} {k : Unit → Sem Fin} {c : Code} {pos : Pos} {st : List Frame} {r : Option (SharedT × Thread)}
    (h : segGoT tb p w n₀ ann 1 n s ⟨k (), c, pos, st⟩ = r) : segGoT tb p w n₀ ann 1 (n + 1) s ⟨.rule tag k, c, pos, st⟩ = r :=
  goT_step (endAt_cur fun f e => by cases e) rfl (by cases s; simp only [stepT, step]) h
theorem goT_update {tb : String → Option Builtin} {p : Program} {w : World} {n₀ : Nat} {ann : Option Value} {n : Nat} {T : BT} {N : Nat} {life : Life} {gens : Array GenState} {drawn : Drawn} {toks : Nat} {os : OsState}
    {a : Addr} {q : Option Value} {f : Obj → Obj} {k : Unit → Sem Fin} {c : Code} {pos : Pos} {st : List Frame} {r : Option (SharedT × Thread)} {o : Obj} (hlt : Nat.blt a N = true) (hg : T.get a = some o) (ha : alive o = some o) (hn : Nat.ble n₀ a = true)
    (h : segGoT tb p w n₀ ann 1 n ⟨T.set a f, N, life, gens, drawn, toks, os⟩ ⟨k (), c, pos, st⟩ = r) : segGoT tb p w n₀ ann 1 (n + 1) ⟨T, N, life, gens, drawn, toks, os⟩ ⟨.update a q f k, c, pos, st⟩ = r :=
  goT_step (endAt_cur fun f e => by cases e) (by show (true && (Nat.ble n₀ a || _ || _ || _)) = true; rw [hn]; rfl) (by simp only [stepT, hlt, hg, ha]) h
theorem addX {tb : String → Option Builtin} {p : Program} {w : World} {n₀ : Nat} {ann : Option Value} {n : Nat} {T : BT} {N : Nat} {life : Life} {gens : Array GenState} {drawn : Drawn} {toks : Nat} {os : OsState}
    {a : Addr} {c : Code} {pos : Pos} {st : List Frame} {r : Option (SharedT × Thread)} {dd : Option Addr} {es es' : Array (Int × Value)} {ep : Nat} {t t' : SetTable} {sl : Array (Option Value)} {i h : Int} {tk : Tok} {K : Bool → Sem Fin}
    (hlt : Nat.blt a N = true) (hg : T.get a = some ⟨.type "set", dd, .set es ep t, sl⟩) (hn : Nat.ble n₀ a = true)
    (h1 : (t.place.size != es.size || decide (t.fill > t.mask)) = false) (h2 : byScan (.int i tk) es = true) (h3 : setScanFrom a (.int i tk) h true es.toList 0 = pure .absent)
    (h4 : layNew t es h (.int i tk) = (es', t', false, false)) (h5 : t'.plain = true) (h6 : t'.tooFull = false) (h7 : ¬ es'.size > sizeLine)
    (hr : segGoT tb p w n₀ ann 1 n ⟨T.set a (Obj.putSet es' t'), N, life, gens, drawn, toks, os⟩ ⟨K true, c, pos, st⟩ = r) :
    segGoT tb p w n₀ ann 1 (n + 4) ⟨T, N, life, gens, drawn, toks, os⟩ ⟨Sem.bind (setAddHashed a (.int i tk) h) K, c, pos, st⟩ = r := by
  refine goT_load hlt hg rfl ?_
  simp only [h1, Bool.false_eq_true, if_false]
  simp only [Sem.bind]
  rw [if_neg (by rw [h1]; exact Bool.false_ne_true)]
  simp only [Sem.bind, pure]
  rw [if_pos h2]
  refine goT_rule ?_
  simp only [setScan, h3, pure, Sem.bind]
  simp only [h4, Sem.bind]
  show segGoT _ _ _ _ _ _ _ _ ⟨Sem.bind (Sem.bind (ite (t'.plain = true) _ _) _) K, _, _, _⟩ = r
  rw [if_pos h5]
  refine goT_load hlt hg rfl ?_
  simp only [Sem.bind, if_true]
  rw [if_neg h7]
  refine goT_update hlt hg rfl hn ?_
  simp only [Sem.bind, h6, Bool.and_false, Bool.false_eq_true, if_false]
  exact hr
end Mine
end
/- part LY -/
section
open PySem PySem.W
set_option maxRecDepth 100000
namespace Mine
noncomputable def entL : Nat → Nat → List (Int × Value)
  | 0, _ => []
  | n + 1, k => (Int.ofNat (Nat.add 917536 k), .int (Int.ofNat (Nat.add 917536 k)) (Nat.add 807 k)) :: entL n (k + 1)
noncomputable def plL : Nat → Nat → List Nat
  | 0, _ => []
  | n + 1, k => (Nat.add 32 k) :: plL n (k + 1)
noncomputable def esN (m : Nat) : Array (Int × Value) := List.toArray ((917505, .int 917505 801) :: entL m 0)
noncomputable def tN (m mask moves : Nat) (b : Bool) : SetTable := ⟨mask, List.toArray (1 :: plL m 0), #[], 0, b, moves, true⟩
theorem entL_len : ∀ m k, (entL m k).length = m
  | 0, _ => rfl
  | m + 1, k => congrArg Nat.succ (entL_len m (k + 1))
theorem plL_len : ∀ m k, (plL m k).length = m
  | 0, _ => rfl
  | m + 1, k => congrArg Nat.succ (plL_len m (k + 1))
theorem entL_snoc : ∀ m k, entL (m + 1) k = entL m k ++ [(Int.ofNat (Nat.add 917536 (k + m)), .int (Int.ofNat (Nat.add 917536 (k + m))) (Nat.add 807 (k + m)))]
  | 0, k => rfl
  | m + 1, k => by
    show _ :: entL (m + 1) (k + 1) = _ :: (entL m (k + 1) ++ _)
    rw [entL_snoc m (k + 1), show k + 1 + m = k + (m + 1) by omega]
theorem plL_snoc : ∀ m k, plL (m + 1) k = plL m k ++ [Nat.add 32 (k + m)]
  | 0, k => rfl
  | m + 1, k => by
    show _ :: plL (m + 1) (k + 1) = _ :: (plL m (k + 1) ++ _)
    rw [plL_snoc m (k + 1), show k + 1 + m = k + (m + 1) by omega]
theorem entL_mem : ∀ {m k : Nat} {e : Int × Value}, e ∈ entL m k → ∃ j, k ≤ j ∧ j < k + m ∧ e = (Int.ofNat (Nat.add 917536 j), .int (Int.ofNat (Nat.add 917536 j)) (Nat.add 807 j))
  | 0, _, _, h => nomatch h
  | m + 1, k, e, h => by
    rcases List.mem_cons.mp h with h | h
    · exact ⟨k, Nat.le_refl _, by omega, h⟩
    · obtain ⟨j, h1, h2, h3⟩ := entL_mem h
      exact ⟨j, by omega, by omega, h3⟩
theorem plL_mem : ∀ {m k : Nat} {e : Nat}, e ∈ plL m k → ∃ j, k ≤ j ∧ j < k + m ∧ e = 32 + j
  | 0, _, _, h => nomatch h
  | m + 1, k, e, h => by
    rcases List.mem_cons.mp h with h | h
    · exact ⟨k, Nat.le_refl _, by omega, h⟩
    · obtain ⟨j, h1, h2, h3⟩ := plL_mem h
      exact ⟨j, by omega, by omega, h3⟩
theorem esN_size (m : Nat) : (esN m).size = m + 1 := by
  show ((917505, Value.int 917505 801) :: entL m 0).length = _
  rw [List.length_cons, entL_len]
theorem scan_absent {a : Addr} {x : Value} {h : Int} {b : Bool} : ∀ (l : List (Int × Value)) (i : Nat), (∀ e ∈ l, (e.1 == h) = false) → setScanFrom a x h b l i = pure .absent
  | [], _, _ => rfl
  | (h', y) :: rest, i, H => by
    have e : (h' == h) = false := H _ (.head _)
    unfold setScanFrom
    rw [e]
    exact scan_absent rest (i + 1) fun e' he' => H e' (.tail _ he')
theorem hash_ne {m : Nat} : ∀ e ∈ (esN m).toList, (e.1 == (Int.ofNat (Nat.add 917536 m))) = false := by
  intro e he
  have he' : e ∈ (917505, Value.int 917505 801) :: entL m 0 := he
  rcases List.mem_cons.mp he' with h | h
  · subst h
    apply beq_false_of_ne
    intro q
    have : (917505 : Int) = ((917536 + m : Nat) : Int) := q
    omega
  · obtain ⟨j, _, h2, h3⟩ := entL_mem h
    subst h3
    apply beq_false_of_ne
    intro q
    have : ((917536 + j : Nat) : Int) = ((917536 + m : Nat) : Int) := q
    omega
theorem below_end {xs : Array Nat} {j : Nat} (H : ∀ x ∈ xs.toList, x < j) : ∀ (fuel lo : Nat), lo ≤ xs.size → xs.size - lo ≤ fuel → SetTable.below.go xs j fuel lo xs.size = xs.size
  | 0, lo, h1, h2 => by
    have : lo = xs.size := by omega
    subst this
    rfl
  | fuel + 1, lo, h1, h2 => by
    unfold SetTable.below.go
    by_cases q : lo < xs.size
    · rw [if_pos q]
      have hm : (lo + xs.size) / 2 < xs.size := by omega
      have : xs.getD ((lo + xs.size) / 2) j < j := by
        rw [Array.getD_eq_getD_getElem?, Array.getElem?_eq_getElem hm]
        exact H _ (Array.getElem_mem_toList hm)
      dsimp only
      rw [if_pos this]
      exact below_end H fuel _ (by omega) (by omega)
    · rw [if_neg q]; omega
theorem below_all {xs : Array Nat} {j : Nat} (H : ∀ x ∈ xs.toList, x < j) : SetTable.below xs j = xs.size := below_end H xs.size 0 (Nat.zero_le _) (by omega)
theorem insert_end {α : Type} {xs : Array α} {x : α} : SetTable.insertAt xs xs.size x = xs.push x := by
  unfold SetTable.insertAt
  rw [Array.extract_size, Array.extract_empty_of_size_le_start (Nat.le_refl _), Array.append_empty]
theorem pl_lt (m : Nat) : ∀ x ∈ (tN m mask moves b).place.toList, x < 32 + m := by
  intro x hx
  have hx' : x ∈ 1 :: plL m 0 := hx
  rcases List.mem_cons.mp hx' with h | h
  · subst h; omega
  · obtain ⟨j, _, h2, h3⟩ := plL_mem h; omega
theorem tN_size (m mask moves : Nat) (b : Bool) : (tN m mask moves b).place.size = m + 1 := by
  show (1 :: plL m 0).length = _
  rw [List.length_cons, plL_len]
theorem esN_push (m : Nat) : (esN m).push (Int.ofNat (Nat.add 917536 m), .int (Int.ofNat (Nat.add 917536 m)) (Nat.add 807 m)) = esN (m + 1) := by
  unfold esN
  rw [entL_snoc, Nat.zero_add, List.push_toArray]
  rfl
theorem lay_new {m mask moves : Nat} {b : Bool} (hb : Int.ofNat (Nat.add 917536 m) % (2 ^ 64 : Int) = Int.ofNat (Nat.add 917536 m)) (hm : (917536 + m) % (mask + 1) = 32 + m) (hf : m + 2 ≤ mask) :
    layNew (tN m mask moves b) (esN m) (Int.ofNat (Nat.add 917536 m)) (.int (Int.ofNat (Nat.add 917536 m)) (Nat.add 807 m)) = (esN (m + 1), tN (m + 1) mask moves b, false, false) := by
  have hbel : SetTable.below (tN m mask moves b).place (32 + m) = m + 1 := by rw [below_all (pl_lt m), tN_size]
  have hslot : (tN m mask moves b).slot (32 + m) = .empty := by
    unfold SetTable.slot
    dsimp only
    rw [hbel, Array.getElem?_eq_none (by rw [tN_size]; exact Nat.le_refl _)]
    rfl
  have hbits : SetTable.bits (Int.ofNat (Nat.add 917536 m)) = 917536 + m := by
    unfold SetTable.bits
    rw [hb]; rfl
  have hfree : (tN m mask moves b).freeSlot (Int.ofNat (Nat.add 917536 m)) = some (32 + m, false) := by
    have hp : (tN m mask moves b).probe (fun _ => Int.ofNat (Nat.add 917536 m) + 1) (Int.ofNat (Nat.add 917536 m)) ((tN m mask moves b).probeStart (Int.ofNat (Nat.add 917536 m))) = some (.empty (32 + m) none) := by
      unfold SetTable.probe SetTable.turns
      rw [show 10 * ((tN m mask moves b).mask + 15) = (10 * ((tN m mask moves b).mask + 15) - 1) + 1 by omega]
      unfold SetTable.probe.go
      have e1 : ((tN m mask moves b).probeStart (Int.ofNat (Nat.add 917536 m))).j = 32 + m := by
        unfold SetTable.probeStart
        dsimp only
        rw [hbits]; exact hm
      have e2 : ((tN m mask moves b).probeStart (Int.ofNat (Nat.add 917536 m))).dummy = none := rfl
      rw [e1, hslot, e2]
    unfold SetTable.freeSlot
    rw [hp]
    rfl
  have hput : (tN m mask moves b).put (32 + m) = (tN (m + 1) mask moves b, m + 1) := by
    unfold SetTable.put
    dsimp only
    rw [hbel]
    have h1 : SetTable.insertAt (tN m mask moves b).place (m + 1) (32 + m) = (tN (m + 1) mask moves b).place := by
      have := @insert_end _ (tN m mask moves b).place (32 + m)
      rw [tN_size] at this
      rw [this]
      show (List.toArray (1 :: plL m 0)).push (32 + m) = List.toArray (1 :: plL (m + 1) 0)
      rw [plL_snoc, Nat.zero_add, List.push_toArray]
      rfl
    rw [h1]
    rfl
  have hins : SetTable.insertAt (esN m) (m + 1) (Int.ofNat (Nat.add 917536 m), .int (Int.ofNat (Nat.add 917536 m)) (Nat.add 807 m)) = esN (m + 1) := by
    have := @insert_end _ (esN m) (Int.ofNat (Nat.add 917536 m), Value.int (Int.ofNat (Nat.add 917536 m)) (Nat.add 807 m))
    rw [esN_size] at this
    rw [this, esN_push]
  have hfit : (tN (m + 1) mask moves b).fits (esN (m + 1)).size = true := by
    unfold SetTable.fits SetTable.fill
    rw [esN_size, tN_size]
    show ((m + 1 + 1 == m + 1 + 1) && decide (m + 1 + 1 + 0 ≤ mask)) = true
    rw [beq_self_eq_true, decide_eq_true (by omega)]; rfl
  unfold layNew
  rw [hfree]
  dsimp only
  rw [hput]
  dsimp only
  rw [hins]
  unfold SetTable.orStandIn
  rw [hfit]
  rfl
theorem scan_ok (m : Nat) (hm : m + 1 < 4096) : byScan (.int (Int.ofNat (Nat.add 917536 m)) (Nat.add 807 m)) (esN m) = true := by
  have : (esN m).all (fun e => e.2.scannable) = true := by
    rw [Array.all_eq_true]
    intro i hi
    have := Array.getElem_mem_toList hi
    have he' : (esN m)[i] ∈ (917505, Value.int 917505 801) :: entL m 0 := this
    rcases List.mem_cons.mp he' with h | h
    · rw [h]; rfl
    · obtain ⟨j, _, _, h3⟩ := entL_mem h
      rw [h3]; rfl
  unfold byScan
  rw [this, esN_size]
  show (true && decide (m + 1 < scanBound) && true) = true
  rw [decide_eq_true (show m + 1 < scanBound from hm)]; rfl
end Mine
end
/- part HeadA -/
section
open PySem PySem.W PyProof.Rows
set_option maxRecDepth 100000
set_option maxHeartbeats 0
set_option linter.unusedVariables false
namespace Mine
noncomputable abbrev pw : Program := PySem.Challenge.pw_kl0204_01
noncomputable def stAt (i : Nat) : Stmt := match (behindTheImports pw)[i]? with
  | some s => s
  | none => .Pass ⟨0, 0, 0, 0⟩
noncomputable def fnAt (i g : Nat) (pm cd : Value) : FuncData := match stAt i with
  | .FunctionDef n a b _ _ _ sc _ _ _ => { name := n, qualname := n, params := a, body := .stmts b, scope := sc, globals := g, closure := [], defaults := .none, kwdefaults := .none, doc := .none, pyModule := pm, annotations := none, code := cd }
  | _ => default
noncomputable def dl0 (P : Params) : List DictEntry := [⟨PyData.keyHash P (.ofString "__name__"), (.str (.ofString "__name__") 1), (.str (.ofString "builtins") 160)⟩, ⟨PyData.keyHash P (.ofString "__doc__"), (.str (.ofString "__doc__") 2), (.builtin "builtins.__doc__:str#opaque")⟩, ⟨PyData.keyHash P (.ofString "__package__"), (.str (.ofString "__package__") 3), (.builtin "builtins.__package__:str#opaque")⟩, ⟨PyData.keyHash P (.ofString "__loader__"), (.str (.ofString "__loader__") 4), (.builtin "builtins.__loader__:shared#opaque")⟩, ⟨PyData.keyHash P (.ofString "__spec__"), (.str (.ofString "__spec__") 5), (.builtin "builtins.__spec__#opaque")⟩, ⟨PyData.keyHash P (.ofString "__build_class__"), (.str (.ofString "__build_class__") 6), (.builtin "__build_class__")⟩, ⟨PyData.keyHash P (.ofString "__import__"), (.str (.ofString "__import__") 7), (.builtin "__import__")⟩, ⟨PyData.keyHash P (.ofString "abs"), (.str (.ofString "abs") 8), (.builtin "abs")⟩]
noncomputable def dl1 (P : Params) : List DictEntry := [⟨PyData.keyHash P (.ofString "all"), (.str (.ofString "all") 9), (.builtin "all")⟩, ⟨PyData.keyHash P (.ofString "any"), (.str (.ofString "any") 10), (.builtin "any")⟩, ⟨PyData.keyHash P (.ofString "ascii"), (.str (.ofString "ascii") 11), (.builtin "ascii")⟩, ⟨PyData.keyHash P (.ofString "bin"), (.str (.ofString "bin") 12), (.builtin "bin")⟩, ⟨PyData.keyHash P (.ofString "breakpoint"), (.str (.ofString "breakpoint") 13), (.builtin "breakpoint")⟩, ⟨PyData.keyHash P (.ofString "callable"), (.str (.ofString "callable") 14), (.builtin "callable")⟩, ⟨PyData.keyHash P (.ofString "chr"), (.str (.ofString "chr") 15), (.builtin "chr")⟩, ⟨PyData.keyHash P (.ofString "compile"), (.str (.ofString "compile") 16), (.builtin "compile")⟩]
noncomputable def dl2 (P : Params) : List DictEntry := [⟨PyData.keyHash P (.ofString "delattr"), (.str (.ofString "delattr") 17), (.builtin "delattr")⟩, ⟨PyData.keyHash P (.ofString "dir"), (.str (.ofString "dir") 18), (.builtin "dir")⟩, ⟨PyData.keyHash P (.ofString "divmod"), (.str (.ofString "divmod") 19), (.builtin "divmod")⟩, ⟨PyData.keyHash P (.ofString "eval"), (.str (.ofString "eval") 20), (.builtin "eval")⟩, ⟨PyData.keyHash P (.ofString "exec"), (.str (.ofString "exec") 21), (.builtin "exec")⟩, ⟨PyData.keyHash P (.ofString "format"), (.str (.ofString "format") 22), (.builtin "format")⟩, ⟨PyData.keyHash P (.ofString "getattr"), (.str (.ofString "getattr") 23), (.builtin "getattr")⟩, ⟨PyData.keyHash P (.ofString "globals"), (.str (.ofString "globals") 24), (.builtin "globals")⟩]
noncomputable def dl3 (P : Params) : List DictEntry := [⟨PyData.keyHash P (.ofString "hasattr"), (.str (.ofString "hasattr") 25), (.builtin "hasattr")⟩, ⟨PyData.keyHash P (.ofString "hash"), (.str (.ofString "hash") 26), (.builtin "hash")⟩, ⟨PyData.keyHash P (.ofString "hex"), (.str (.ofString "hex") 27), (.builtin "hex")⟩, ⟨PyData.keyHash P (.ofString "id"), (.str (.ofString "id") 28), (.builtin "id")⟩, ⟨PyData.keyHash P (.ofString "input"), (.str (.ofString "input") 29), (.builtin "input")⟩, ⟨PyData.keyHash P (.ofString "isinstance"), (.str (.ofString "isinstance") 30), (.builtin "isinstance")⟩, ⟨PyData.keyHash P (.ofString "issubclass"), (.str (.ofString "issubclass") 31), (.builtin "issubclass")⟩, ⟨PyData.keyHash P (.ofString "iter"), (.str (.ofString "iter") 32), (.builtin "iter")⟩]
noncomputable def dl4 (P : Params) : List DictEntry := [⟨PyData.keyHash P (.ofString "aiter"), (.str (.ofString "aiter") 33), (.builtin "aiter")⟩, ⟨PyData.keyHash P (.ofString "len"), (.str (.ofString "len") 34), (.builtin "len")⟩, ⟨PyData.keyHash P (.ofString "locals"), (.str (.ofString "locals") 35), (.builtin "locals")⟩, ⟨PyData.keyHash P (.ofString "max"), (.str (.ofString "max") 36), (.builtin "max")⟩, ⟨PyData.keyHash P (.ofString "min"), (.str (.ofString "min") 37), (.builtin "min")⟩, ⟨PyData.keyHash P (.ofString "next"), (.str (.ofString "next") 38), (.builtin "next")⟩, ⟨PyData.keyHash P (.ofString "anext"), (.str (.ofString "anext") 39), (.builtin "anext")⟩, ⟨PyData.keyHash P (.ofString "oct"), (.str (.ofString "oct") 40), (.builtin "oct")⟩]
noncomputable def dl5 (P : Params) : List DictEntry := [⟨PyData.keyHash P (.ofString "ord"), (.str (.ofString "ord") 41), (.builtin "ord")⟩, ⟨PyData.keyHash P (.ofString "pow"), (.str (.ofString "pow") 42), (.builtin "pow")⟩, ⟨PyData.keyHash P (.ofString "print"), (.str (.ofString "print") 43), (.builtin "print")⟩, ⟨PyData.keyHash P (.ofString "repr"), (.str (.ofString "repr") 44), (.builtin "repr")⟩, ⟨PyData.keyHash P (.ofString "round"), (.str (.ofString "round") 45), (.builtin "round")⟩, ⟨PyData.keyHash P (.ofString "setattr"), (.str (.ofString "setattr") 46), (.builtin "setattr")⟩, ⟨PyData.keyHash P (.ofString "sorted"), (.str (.ofString "sorted") 47), (.builtin "sorted")⟩, ⟨PyData.keyHash P (.ofString "sum"), (.str (.ofString "sum") 48), (.builtin "sum")⟩]
noncomputable def dl6 (P : Params) : List DictEntry := [⟨PyData.keyHash P (.ofString "vars"), (.str (.ofString "vars") 49), (.builtin "vars")⟩, ⟨PyData.keyHash P (.ofString "None"), (.str (.ofString "None") 50), .none⟩, ⟨PyData.keyHash P (.ofString "Ellipsis"), (.str (.ofString "Ellipsis") 51), .ellipsis⟩, ⟨PyData.keyHash P (.ofString "NotImplemented"), (.str (.ofString "NotImplemented") 52), .notImplemented⟩, ⟨PyData.keyHash P (.ofString "False"), (.str (.ofString "False") 53), (.bool false)⟩, ⟨PyData.keyHash P (.ofString "True"), (.str (.ofString "True") 54), (.bool true)⟩, ⟨PyData.keyHash P (.ofString "bool"), (.str (.ofString "bool") 55), (.type "bool")⟩, ⟨PyData.keyHash P (.ofString "memoryview"), (.str (.ofString "memoryview") 56), (.type "memoryview")⟩]
noncomputable def dl7 (P : Params) : List DictEntry := [⟨PyData.keyHash P (.ofString "bytearray"), (.str (.ofString "bytearray") 57), (.type "bytearray")⟩, ⟨PyData.keyHash P (.ofString "bytes"), (.str (.ofString "bytes") 58), (.type "bytes")⟩, ⟨PyData.keyHash P (.ofString "classmethod"), (.str (.ofString "classmethod") 59), (.type "classmethod")⟩, ⟨PyData.keyHash P (.ofString "complex"), (.str (.ofString "complex") 60), (.type "complex")⟩, ⟨PyData.keyHash P (.ofString "dict"), (.str (.ofString "dict") 61), (.type "dict")⟩, ⟨PyData.keyHash P (.ofString "enumerate"), (.str (.ofString "enumerate") 62), (.type "enumerate")⟩, ⟨PyData.keyHash P (.ofString "filter"), (.str (.ofString "filter") 63), (.type "filter")⟩, ⟨PyData.keyHash P (.ofString "float"), (.str (.ofString "float") 64), (.type "float")⟩]
noncomputable def dl8 (P : Params) : List DictEntry := [⟨PyData.keyHash P (.ofString "frozenset"), (.str (.ofString "frozenset") 65), (.type "frozenset")⟩, ⟨PyData.keyHash P (.ofString "property"), (.str (.ofString "property") 66), (.type "property")⟩, ⟨PyData.keyHash P (.ofString "int"), (.str (.ofString "int") 67), (.type "int")⟩, ⟨PyData.keyHash P (.ofString "list"), (.str (.ofString "list") 68), (.type "list")⟩, ⟨PyData.keyHash P (.ofString "map"), (.str (.ofString "map") 69), (.type "map")⟩, ⟨PyData.keyHash P (.ofString "object"), (.str (.ofString "object") 70), (.type "object")⟩, ⟨PyData.keyHash P (.ofString "range"), (.str (.ofString "range") 71), (.type "range")⟩, ⟨PyData.keyHash P (.ofString "reversed"), (.str (.ofString "reversed") 72), (.type "reversed")⟩]
noncomputable def dl9 (P : Params) : List DictEntry := [⟨PyData.keyHash P (.ofString "set"), (.str (.ofString "set") 73), (.type "set")⟩, ⟨PyData.keyHash P (.ofString "slice"), (.str (.ofString "slice") 74), (.type "slice")⟩, ⟨PyData.keyHash P (.ofString "staticmethod"), (.str (.ofString "staticmethod") 75), (.type "staticmethod")⟩, ⟨PyData.keyHash P (.ofString "str"), (.str (.ofString "str") 76), (.type "str")⟩, ⟨PyData.keyHash P (.ofString "super"), (.str (.ofString "super") 77), (.type "super")⟩, ⟨PyData.keyHash P (.ofString "tuple"), (.str (.ofString "tuple") 78), (.type "tuple")⟩, ⟨PyData.keyHash P (.ofString "type"), (.str (.ofString "type") 79), (.type "type")⟩, ⟨PyData.keyHash P (.ofString "zip"), (.str (.ofString "zip") 80), (.type "zip")⟩]
noncomputable def dl10 (P : Params) : List DictEntry := [⟨PyData.keyHash P (.ofString "__debug__"), (.str (.ofString "__debug__") 81), (.bool true)⟩, ⟨PyData.keyHash P (.ofString "BaseException"), (.str (.ofString "BaseException") 82), (.type "BaseException")⟩, ⟨PyData.keyHash P (.ofString "BaseExceptionGroup"), (.str (.ofString "BaseExceptionGroup") 83), (.type "BaseExceptionGroup")⟩, ⟨PyData.keyHash P (.ofString "Exception"), (.str (.ofString "Exception") 84), (.type "Exception")⟩, ⟨PyData.keyHash P (.ofString "GeneratorExit"), (.str (.ofString "GeneratorExit") 85), (.type "GeneratorExit")⟩, ⟨PyData.keyHash P (.ofString "KeyboardInterrupt"), (.str (.ofString "KeyboardInterrupt") 86), (.type "KeyboardInterrupt")⟩, ⟨PyData.keyHash P (.ofString "SystemExit"), (.str (.ofString "SystemExit") 87), (.type "SystemExit")⟩, ⟨PyData.keyHash P (.ofString "ArithmeticError"), (.str (.ofString "ArithmeticError") 88), (.type "ArithmeticError")⟩]
noncomputable def dl11 (P : Params) : List DictEntry := [⟨PyData.keyHash P (.ofString "AssertionError"), (.str (.ofString "AssertionError") 89), (.type "AssertionError")⟩, ⟨PyData.keyHash P (.ofString "AttributeError"), (.str (.ofString "AttributeError") 90), (.type "AttributeError")⟩, ⟨PyData.keyHash P (.ofString "BufferError"), (.str (.ofString "BufferError") 91), (.type "BufferError")⟩, ⟨PyData.keyHash P (.ofString "EOFError"), (.str (.ofString "EOFError") 92), (.type "EOFError")⟩, ⟨PyData.keyHash P (.ofString "ImportError"), (.str (.ofString "ImportError") 93), (.type "ImportError")⟩, ⟨PyData.keyHash P (.ofString "LookupError"), (.str (.ofString "LookupError") 94), (.type "LookupError")⟩, ⟨PyData.keyHash P (.ofString "MemoryError"), (.str (.ofString "MemoryError") 95), (.type "MemoryError")⟩, ⟨PyData.keyHash P (.ofString "NameError"), (.str (.ofString "NameError") 96), (.type "NameError")⟩]
noncomputable def dl12 (P : Params) : List DictEntry := [⟨PyData.keyHash P (.ofString "OSError"), (.str (.ofString "OSError") 97), (.type "OSError")⟩, ⟨PyData.keyHash P (.ofString "ReferenceError"), (.str (.ofString "ReferenceError") 98), (.type "ReferenceError")⟩, ⟨PyData.keyHash P (.ofString "RuntimeError"), (.str (.ofString "RuntimeError") 99), (.type "RuntimeError")⟩, ⟨PyData.keyHash P (.ofString "StopAsyncIteration"), (.str (.ofString "StopAsyncIteration") 100), (.type "StopAsyncIteration")⟩, ⟨PyData.keyHash P (.ofString "StopIteration"), (.str (.ofString "StopIteration") 101), (.type "StopIteration")⟩, ⟨PyData.keyHash P (.ofString "SyntaxError"), (.str (.ofString "SyntaxError") 102), (.type "SyntaxError")⟩, ⟨PyData.keyHash P (.ofString "SystemError"), (.str (.ofString "SystemError") 103), (.type "SystemError")⟩, ⟨PyData.keyHash P (.ofString "TypeError"), (.str (.ofString "TypeError") 104), (.type "TypeError")⟩]
noncomputable def dl13 (P : Params) : List DictEntry := [⟨PyData.keyHash P (.ofString "ValueError"), (.str (.ofString "ValueError") 105), (.type "ValueError")⟩, ⟨PyData.keyHash P (.ofString "Warning"), (.str (.ofString "Warning") 106), (.type "Warning")⟩, ⟨PyData.keyHash P (.ofString "FloatingPointError"), (.str (.ofString "FloatingPointError") 107), (.type "FloatingPointError")⟩, ⟨PyData.keyHash P (.ofString "OverflowError"), (.str (.ofString "OverflowError") 108), (.type "OverflowError")⟩, ⟨PyData.keyHash P (.ofString "ZeroDivisionError"), (.str (.ofString "ZeroDivisionError") 109), (.type "ZeroDivisionError")⟩, ⟨PyData.keyHash P (.ofString "BytesWarning"), (.str (.ofString "BytesWarning") 110), (.type "BytesWarning")⟩, ⟨PyData.keyHash P (.ofString "DeprecationWarning"), (.str (.ofString "DeprecationWarning") 111), (.type "DeprecationWarning")⟩, ⟨PyData.keyHash P (.ofString "EncodingWarning"), (.str (.ofString "EncodingWarning") 112), (.type "EncodingWarning")⟩]
noncomputable def dl14 (P : Params) : List DictEntry := [⟨PyData.keyHash P (.ofString "FutureWarning"), (.str (.ofString "FutureWarning") 113), (.type "FutureWarning")⟩, ⟨PyData.keyHash P (.ofString "ImportWarning"), (.str (.ofString "ImportWarning") 114), (.type "ImportWarning")⟩, ⟨PyData.keyHash P (.ofString "PendingDeprecationWarning"), (.str (.ofString "PendingDeprecationWarning") 115), (.type "PendingDeprecationWarning")⟩, ⟨PyData.keyHash P (.ofString "ResourceWarning"), (.str (.ofString "ResourceWarning") 116), (.type "ResourceWarning")⟩, ⟨PyData.keyHash P (.ofString "RuntimeWarning"), (.str (.ofString "RuntimeWarning") 117), (.type "RuntimeWarning")⟩, ⟨PyData.keyHash P (.ofString "SyntaxWarning"), (.str (.ofString "SyntaxWarning") 118), (.type "SyntaxWarning")⟩, ⟨PyData.keyHash P (.ofString "UnicodeWarning"), (.str (.ofString "UnicodeWarning") 119), (.type "UnicodeWarning")⟩, ⟨PyData.keyHash P (.ofString "UserWarning"), (.str (.ofString "UserWarning") 120), (.type "UserWarning")⟩]
noncomputable def dl15 (P : Params) : List DictEntry := [⟨PyData.keyHash P (.ofString "BlockingIOError"), (.str (.ofString "BlockingIOError") 121), (.type "BlockingIOError")⟩, ⟨PyData.keyHash P (.ofString "ChildProcessError"), (.str (.ofString "ChildProcessError") 122), (.type "ChildProcessError")⟩, ⟨PyData.keyHash P (.ofString "ConnectionError"), (.str (.ofString "ConnectionError") 123), (.type "ConnectionError")⟩, ⟨PyData.keyHash P (.ofString "FileExistsError"), (.str (.ofString "FileExistsError") 124), (.type "FileExistsError")⟩, ⟨PyData.keyHash P (.ofString "FileNotFoundError"), (.str (.ofString "FileNotFoundError") 125), (.type "FileNotFoundError")⟩, ⟨PyData.keyHash P (.ofString "InterruptedError"), (.str (.ofString "InterruptedError") 126), (.type "InterruptedError")⟩, ⟨PyData.keyHash P (.ofString "IsADirectoryError"), (.str (.ofString "IsADirectoryError") 127), (.type "IsADirectoryError")⟩, ⟨PyData.keyHash P (.ofString "NotADirectoryError"), (.str (.ofString "NotADirectoryError") 128), (.type "NotADirectoryError")⟩]
noncomputable def dl16 (P : Params) : List DictEntry := [⟨PyData.keyHash P (.ofString "PermissionError"), (.str (.ofString "PermissionError") 129), (.type "PermissionError")⟩, ⟨PyData.keyHash P (.ofString "ProcessLookupError"), (.str (.ofString "ProcessLookupError") 130), (.type "ProcessLookupError")⟩, ⟨PyData.keyHash P (.ofString "TimeoutError"), (.str (.ofString "TimeoutError") 131), (.type "TimeoutError")⟩, ⟨PyData.keyHash P (.ofString "IndentationError"), (.str (.ofString "IndentationError") 132), (.type "IndentationError")⟩, ⟨PyData.keyHash P (.ofString "_IncompleteInputError"), (.str (.ofString "_IncompleteInputError") 133), (.type "_IncompleteInputError")⟩, ⟨PyData.keyHash P (.ofString "IndexError"), (.str (.ofString "IndexError") 134), (.type "IndexError")⟩, ⟨PyData.keyHash P (.ofString "KeyError"), (.str (.ofString "KeyError") 135), (.type "KeyError")⟩, ⟨PyData.keyHash P (.ofString "ModuleNotFoundError"), (.str (.ofString "ModuleNotFoundError") 136), (.type "ModuleNotFoundError")⟩]
noncomputable def dl17 (P : Params) : List DictEntry := [⟨PyData.keyHash P (.ofString "NotImplementedError"), (.str (.ofString "NotImplementedError") 137), (.type "NotImplementedError")⟩, ⟨PyData.keyHash P (.ofString "PythonFinalizationError"), (.str (.ofString "PythonFinalizationError") 138), (.type "PythonFinalizationError")⟩, ⟨PyData.keyHash P (.ofString "RecursionError"), (.str (.ofString "RecursionError") 139), (.type "RecursionError")⟩, ⟨PyData.keyHash P (.ofString "UnboundLocalError"), (.str (.ofString "UnboundLocalError") 140), (.type "UnboundLocalError")⟩, ⟨PyData.keyHash P (.ofString "UnicodeError"), (.str (.ofString "UnicodeError") 141), (.type "UnicodeError")⟩, ⟨PyData.keyHash P (.ofString "BrokenPipeError"), (.str (.ofString "BrokenPipeError") 142), (.type "BrokenPipeError")⟩, ⟨PyData.keyHash P (.ofString "ConnectionAbortedError"), (.str (.ofString "ConnectionAbortedError") 143), (.type "ConnectionAbortedError")⟩, ⟨PyData.keyHash P (.ofString "ConnectionRefusedError"), (.str (.ofString "ConnectionRefusedError") 144), (.type "ConnectionRefusedError")⟩]
noncomputable def dl18 (P : Params) : List DictEntry := [⟨PyData.keyHash P (.ofString "ConnectionResetError"), (.str (.ofString "ConnectionResetError") 145), (.type "ConnectionResetError")⟩, ⟨PyData.keyHash P (.ofString "TabError"), (.str (.ofString "TabError") 146), (.type "TabError")⟩, ⟨PyData.keyHash P (.ofString "UnicodeDecodeError"), (.str (.ofString "UnicodeDecodeError") 147), (.type "UnicodeDecodeError")⟩, ⟨PyData.keyHash P (.ofString "UnicodeEncodeError"), (.str (.ofString "UnicodeEncodeError") 148), (.type "UnicodeEncodeError")⟩, ⟨PyData.keyHash P (.ofString "UnicodeTranslateError"), (.str (.ofString "UnicodeTranslateError") 149), (.type "UnicodeTranslateError")⟩, ⟨PyData.keyHash P (.ofString "ExceptionGroup"), (.str (.ofString "ExceptionGroup") 150), (.type "ExceptionGroup")⟩, ⟨PyData.keyHash P (.ofString "EnvironmentError"), (.str (.ofString "EnvironmentError") 151), (.type "OSError")⟩, ⟨PyData.keyHash P (.ofString "IOError"), (.str (.ofString "IOError") 152), (.type "OSError")⟩]
noncomputable def dl19 (P : Params) : List DictEntry := [⟨PyData.keyHash P (.ofString "open"), (.str (.ofString "open") 153), (.builtin "open")⟩, ⟨PyData.keyHash P (.ofString "quit"), (.str (.ofString "quit") 154), (.builtin "builtins.quit#opaque")⟩, ⟨PyData.keyHash P (.ofString "exit"), (.str (.ofString "exit") 155), (.builtin "builtins.exit#opaque")⟩, ⟨PyData.keyHash P (.ofString "copyright"), (.str (.ofString "copyright") 156), (.builtin "builtins.copyright#opaque")⟩, ⟨PyData.keyHash P (.ofString "credits"), (.str (.ofString "credits") 157), (.builtin "builtins.credits#opaque")⟩, ⟨PyData.keyHash P (.ofString "license"), (.str (.ofString "license") 158), (.builtin "builtins.license#opaque")⟩, ⟨PyData.keyHash P (.ofString "help"), (.str (.ofString "help") 159), (.builtin "builtins.help#opaque")⟩]
noncomputable def ob_ox0 (P : Params) : Obj := ⟨(.type "dict"), none, .dict (List.toArray (dl0 P ++ (dl1 P ++ (dl2 P ++ (dl3 P ++ (dl4 P ++ (dl5 P ++ (dl6 P ++ (dl7 P ++ (dl8 P ++ (dl9 P ++ (dl10 P ++ (dl11 P ++ (dl12 P ++ (dl13 P ++ (dl14 P ++ (dl15 P ++ (dl16 P ++ (dl17 P ++ (dl18 P ++ (dl19 P))))))))))))))))))))) 159, #[]⟩
noncomputable def ob_ox1 (P : Params) : Obj := ⟨(.type "dict"), none, .dict (List.toArray [⟨PyData.keyHash P (.ofString "builtins"), (.str (.ofString "builtins") 162), (.ref 4)⟩, ⟨PyData.keyHash P (.ofString "__main__"), (.str (.ofString "__main__") 163), (.ref 5)⟩, ⟨PyData.keyHash P (.ofString "_sre"), (.str (.ofString "_sre") 244), (.ref 12)⟩]) 3, #[]⟩
noncomputable def ob_ox2 (P : Params) : Obj := ⟨.none, none, .dict (List.toArray [⟨PyData.keyHash P (.ofString "\x69mport.loaded._sre"), (.str (.ofString "\x69mport.loaded._sre") 183), (.bool true)⟩, ⟨PyData.keyHash P (.ofString "class._frozen_importlib.BuiltinImporter"), (.str (.ofString "class._frozen_importlib.BuiltinImporter") 185), (.ref 14)⟩, ⟨PyData.keyHash P (.ofString "watched.\x69mport"), (.str (.ofString "watched.\x69mport") 206), (.ref 18)⟩, ⟨PyData.keyHash P (.ofString "class._frozen_importlib.ModuleSpec"), (.str (.ofString "class._frozen_importlib.ModuleSpec") 216), (.ref 22)⟩, ⟨PyData.keyHash P (.ofString "sys.modules.booked-epoch"), (.str (.ofString "sys.modules.booked-epoch") 245), (.int 3 0)⟩, ⟨PyData.keyHash P (.ofString "\x69mport.later-laid._sre"), (.str (.ofString "\x69mport.later-laid._sre") 270), (.bool true)⟩, ⟨PyData.keyHash P (.ofString "watched.library"), (.str (.ofString "watched.library") 272), (.ref 27)⟩, ⟨PyData.keyHash P (.ofString "watched.library-objects"), (.str (.ofString "watched.library-objects") 0), (.str (.mk #[12]) 0)⟩, ⟨PyData.keyHash P (.ofString "watched.library-deep._sre"), (.str (.ofString "watched.library-deep._sre") 273), (.str (.mk #[4, 0, 0, 11, 4, 0, 0, 11, 4, 0, 0, 3, 4, 0, 0, 11, 8, 4, 100, 105, 99, 116, 2]) 0)⟩]) 9, #[]⟩
noncomputable def ob_ox3 (P : Params) : Obj := ⟨(.type "dict"), none, .dict (List.toArray [⟨PyData.keyHash P (.ofString "__name__"), (.str (.ofString "__name__") 165), (.str (.ofString "__main__") 164)⟩, ⟨PyData.keyHash P (.ofString "__doc__"), (.str (.ofString "__doc__") 166), .none⟩, ⟨PyData.keyHash P (.ofString "__package__"), (.str (.ofString "__package__") 167), .none⟩, ⟨PyData.keyHash P (.ofString "__loader__"), (.str (.ofString "__loader__") 168), (.builtin "__main__.__loader__#opaque")⟩, ⟨PyData.keyHash P (.ofString "__spec__"), (.str (.ofString "__spec__") 169), .none⟩, ⟨PyData.keyHash P (.ofString "__annotations__"), (.str (.ofString "__annotations__") 170), (.ref 6)⟩, ⟨PyData.keyHash P (.ofString "__builtins__"), (.str (.ofString "__builtins__") 171), (.ref 4)⟩, ⟨PyData.keyHash P (.ofString "__file__"), (.str (.ofString "__file__") 173), (.str (.ofString "/claim/cut.py") 172)⟩, ⟨PyData.keyHash P (.ofString "__cached__"), (.str (.ofString "__cached__") 174), .none⟩, ⟨PyData.keyHash P (.ofString "_sre"), (.str (.ofString "_sre") 275), (.ref 12)⟩]) 10, #[]⟩
noncomputable def dl20 (P : Params) : List DictEntry := [⟨PyData.keyHash P (.ofString "__name__"), (.str (.ofString "__name__") 247), (.str (.ofString "_sre") 246)⟩, ⟨PyData.keyHash P (.ofString "__doc__"), (.str (.ofString "__doc__") 248), .none⟩, ⟨PyData.keyHash P (.ofString "__package__"), (.str (.ofString "__package__") 250), (.str (.ofString "") 249)⟩, ⟨PyData.keyHash P (.ofString "__loader__"), (.str (.ofString "__loader__") 251), (.builtin "off-the-table:_sre.__loader__:shared#opaque")⟩, ⟨PyData.keyHash P (.ofString "__spec__"), (.str (.ofString "__spec__") 252), (.builtin "off-the-table:_sre.__spec__:shared#opaque")⟩, ⟨PyData.keyHash P (.ofString "compile"), (.str (.ofString "compile") 253), (.builtin "_sre.compile")⟩, ⟨PyData.keyHash P (.ofString "template"), (.str (.ofString "template") 254), (.builtin "off-the-table:_sre.template:shared#opaque")⟩, ⟨PyData.keyHash P (.ofString "getcodesize"), (.str (.ofString "getcodesize") 255), (.builtin "off-the-table:_sre.getcodesize:shared#opaque")⟩]
noncomputable def dl21 (P : Params) : List DictEntry := [⟨PyData.keyHash P (.ofString "ascii_iscased"), (.str (.ofString "ascii_iscased") 256), (.builtin "off-the-table:_sre.ascii_iscased:shared#opaque")⟩, ⟨PyData.keyHash P (.ofString "unicode_iscased"), (.str (.ofString "unicode_iscased") 257), (.builtin "off-the-table:_sre.unicode_iscased:shared#opaque")⟩, ⟨PyData.keyHash P (.ofString "ascii_tolower"), (.str (.ofString "ascii_tolower") 258), (.builtin "off-the-table:_sre.ascii_tolower:shared#opaque")⟩, ⟨PyData.keyHash P (.ofString "unicode_tolower"), (.str (.ofString "unicode_tolower") 259), (.builtin "off-the-table:_sre.unicode_tolower:shared#opaque")⟩, ⟨PyData.keyHash P (.ofString "MAGIC"), (.str (.ofString "MAGIC") 261), (.int 20230612 260)⟩, ⟨PyData.keyHash P (.ofString "CODESIZE"), (.str (.ofString "CODESIZE") 263), (.int 4 262)⟩, ⟨PyData.keyHash P (.ofString "MAXREPEAT"), (.str (.ofString "MAXREPEAT") 265), (.int 4294967295 264)⟩, ⟨PyData.keyHash P (.ofString "MAXGROUPS"), (.str (.ofString "MAXGROUPS") 267), (.int 1073741823 266)⟩]
noncomputable def dl22 (P : Params) : List DictEntry := [⟨PyData.keyHash P (.ofString "copyright"), (.str (.ofString "copyright") 269), (.str (.ofString " SRE 2.2.2 Copyright (c) 1997-2002 by Secret Labs AB ") 268)⟩]
noncomputable def ob_ox11 (P : Params) : Obj := ⟨(.type "dict"), none, .dict (List.toArray (dl20 P ++ (dl21 P ++ (dl22 P)))) 17, #[]⟩
noncomputable def ob_ox12 (P : Params) : Obj := ⟨(.type "module"), (some 11), .plain, #[]⟩
noncomputable def dl23 (P : Params) : List DictEntry := [⟨PyData.keyHash P (.ofString "__module__"), (.str (.ofString "__module__") 189), (.str (.ofString "_frozen_importlib") 186)⟩, ⟨PyData.keyHash P (.ofString "__firstlineno__"), (.str (.ofString "__firstlineno__") 190), (.int 971 187)⟩, ⟨PyData.keyHash P (.ofString "__doc__"), (.str (.ofString "__doc__") 191), (.builtin "_frozen_importlib.BuiltinImporter.__doc__:str#opaque")⟩, ⟨PyData.keyHash P (.ofString "_ORIGIN"), (.str (.ofString "_ORIGIN") 192), (.str (.ofString "built-in") 188)⟩, ⟨PyData.keyHash P (.ofString "find_spec"), (.str (.ofString "find_spec") 193), (.builtin "_frozen_importlib.BuiltinImporter.find_spec#opaque")⟩, ⟨PyData.keyHash P (.ofString "create_module"), (.str (.ofString "create_module") 194), (.builtin "_frozen_importlib.BuiltinImporter.create_module#opaque")⟩, ⟨PyData.keyHash P (.ofString "exec_module"), (.str (.ofString "exec_module") 195), (.builtin "_frozen_importlib.BuiltinImporter.exec_module#opaque")⟩, ⟨PyData.keyHash P (.ofString "get_code"), (.str (.ofString "get_code") 196), (.builtin "_frozen_importlib.BuiltinImporter.get_code#opaque")⟩]
noncomputable def dl24 (P : Params) : List DictEntry := [⟨PyData.keyHash P (.ofString "get_source"), (.str (.ofString "get_source") 197), (.builtin "_frozen_importlib.BuiltinImporter.get_source#opaque")⟩, ⟨PyData.keyHash P (.ofString "is_package"), (.str (.ofString "is_package") 198), (.builtin "_frozen_importlib.BuiltinImporter.is_package#opaque")⟩, ⟨PyData.keyHash P (.ofString "load_module"), (.str (.ofString "load_module") 199), (.builtin "_frozen_importlib.BuiltinImporter.load_module#opaque")⟩, ⟨PyData.keyHash P (.ofString "__static_attributes__"), (.str (.ofString "__static_attributes__") 200), (.ref 15)⟩, ⟨PyData.keyHash P (.ofString "__dict__"), (.str (.ofString "__dict__") 202), (.ref 16)⟩, ⟨PyData.keyHash P (.ofString "__weakref__"), (.str (.ofString "__weakref__") 204), (.ref 17)⟩]
noncomputable def ob_ox13 (P : Params) : Obj := ⟨(.type "dict"), none, .dict (List.toArray (dl23 P ++ (dl24 P))) 14, #[]⟩
noncomputable def ob_ox14 (P : Params) : Obj := ⟨(.type "type"), none, .cls { name := (.ofString "BuiltinImporter"), bases := [(.type "object")], mro := [(.ref 14), (.type "object")], ns := 13, qualname := (.ofString "BuiltinImporter"), hasDict := true, slotNames := [], subclasses := [], abstract := false, collection := none, hasDel := false }, #[]⟩
noncomputable def ob_ox15 (P : Params) : Obj := ⟨(.type "tuple"), none, .seq (List.toArray []) 0, #[]⟩
noncomputable def ob_ox16 (P : Params) : Obj := ⟨(.type "getset_descriptor"), none, .fields (List.toArray [(.str (.ofString "__dict__") 201), (.ref 14), (.builtin "function.__dict__"), (.builtin "function.__dict__#set")]), #[]⟩
noncomputable def ob_ox17 (P : Params) : Obj := ⟨(.type "getset_descriptor"), none, .fields (List.toArray [(.str (.ofString "__weakref__") 203), (.ref 14), (.builtin "ExceptionGroup.__weakref__"), .none]), #[]⟩
noncomputable def ob_ox18 (P : Params) : Obj := ⟨.none, none, .seq (List.toArray [(.int 13 0), (.str (.mk #[6, 189, 10, 95, 95, 109, 111, 100, 117, 108, 101, 95, 95, 6, 186, 17, 95, 102, 114, 111, 122, 101, 110, 95, 105, 109, 112, 111, 114, 116, 108, 105, 98, 6, 190, 15, 95, 95, 102, 105, 114, 115, 116, 108, 105, 110, 101, 110, 111, 95, 95, 4, 187, 0, 971, 6, 191, 7, 95, 95, 100, 111, 99, 95, 95, 9, 52, 95, 102, 114, 111, 122, 101, 110, 95, 105, 109, 112, 111, 114, 116, 108, 105, 98, 46, 66, 117, 105, 108, 116, 105, 110, 73, 109, 112, 111, 114, 116, 101, 114, 46, 95, 95, 100, 111, 99, 95, 95, 58, 115, 116, 114, 35, 111, 112, 97, 113, 117, 101, 6, 192, 7, 95, 79, 82, 73, 71, 73, 78, 6, 188, 8, 98, 117, 105, 108, 116, 45, 105, 110, 6, 193, 9, 102, 105, 110, 100, 95, 115, 112, 101, 99, 9, 50, 95, 102, 114, 111, 122, 101, 110, 95, 105, 109, 112, 111, 114, 116, 108, 105, 98, 46, 66, 117, 105, 108, 116, 105, 110, 73, 109, 112, 111, 114, 116, 101, 114, 46, 102, 105, 110, 100, 95, 115, 112, 101, 99, 35, 111, 112, 97, 113, 117, 101, 6, 194, 13, 99, 114, 101, 97, 116, 101, 95, 109, 111, 100, 117, 108, 101, 9, 54, 95, 102, 114, 111, 122, 101, 110, 95, 105, 109, 112, 111, 114, 116, 108, 105, 98, 46, 66, 117, 105, 108, 116, 105, 110, 73, 109, 112, 111, 114, 116, 101, 114, 46, 99, 114, 101, 97, 116, 101, 95, 109, 111, 100, 117, 108, 101, 35, 111, 112, 97, 113, 117, 101, 6, 195, 11, 101, 120, 101, 99, 95, 109, 111, 100, 117, 108, 101, 9, 52, 95, 102, 114, 111, 122, 101, 110, 95, 105, 109, 112, 111, 114, 116, 108, 105, 98, 46, 66, 117, 105, 108, 116, 105, 110, 73, 109, 112, 111, 114, 116, 101, 114, 46, 101, 120, 101, 99, 95, 109, 111, 100, 117, 108, 101, 35, 111, 112, 97, 113, 117, 101, 6, 196, 8, 103, 101, 116, 95, 99, 111, 100, 101, 9, 49, 95, 102, 114, 111, 122, 101, 110, 95, 105, 109, 112, 111, 114, 116, 108, 105, 98, 46, 66, 117, 105, 108, 116, 105, 110, 73, 109, 112, 111, 114, 116, 101, 114, 46, 103, 101, 116, 95, 99, 111, 100, 101, 35, 111, 112, 97, 113, 117, 101, 6, 197, 10, 103, 101, 116, 95, 115, 111, 117, 114, 99, 101, 9, 51, 95, 102, 114, 111, 122, 101, 110, 95, 105, 109, 112, 111, 114, 116, 108, 105, 98, 46, 66, 117, 105, 108, 116, 105, 110, 73, 109, 112, 111, 114, 116, 101, 114, 46, 103, 101, 116, 95, 115, 111, 117, 114, 99, 101, 35, 111, 112, 97, 113, 117, 101, 6, 198, 10, 105, 115, 95, 112, 97, 99, 107, 97, 103, 101, 9, 51, 95, 102, 114, 111, 122, 101, 110, 95, 105, 109, 112, 111, 114, 116, 108, 105, 98, 46, 66, 117, 105, 108, 116, 105, 110, 73, 109, 112, 111, 114, 116, 101, 114, 46, 105, 115, 95, 112, 97, 99, 107, 97, 103, 101, 35, 111, 112, 97, 113, 117, 101, 6, 199, 11, 108, 111, 97, 100, 95, 109, 111, 100, 117, 108, 101, 9, 52, 95, 102, 114, 111, 122, 101, 110, 95, 105, 109, 112, 111, 114, 116, 108, 105, 98, 46, 66, 117, 105, 108, 116, 105, 110, 73, 109, 112, 111, 114, 116, 101, 114, 46, 108, 111, 97, 100, 95, 109, 111, 100, 117, 108, 101, 35, 111, 112, 97, 113, 117, 101, 6, 200, 21, 95, 95, 115, 116, 97, 116, 105, 99, 95, 97, 116, 116, 114, 105, 98, 117, 116, 101, 115, 95, 95, 4, 0, 0, 15, 6, 202, 8, 95, 95, 100, 105, 99, 116, 95, 95, 4, 0, 0, 16, 6, 204, 11, 95, 95, 119, 101, 97, 107, 114, 101, 102, 95, 95, 4, 0, 0, 17]) 0), (.bool true), (.bool true), (.str (.ofString "") 205), (.int 21 0), (.str (.mk #[6, 227, 10, 95, 95, 109, 111, 100, 117, 108, 101, 95, 95, 6, 217, 17, 95, 102, 114, 111, 122, 101, 110, 95, 105, 109, 112, 111, 114, 116, 108, 105, 98, 6, 228, 15, 95, 95, 102, 105, 114, 115, 116, 108, 105, 110, 101, 110, 111, 95, 95, 4, 218, 0, 562, 6, 229, 7, 95, 95, 100, 111, 99, 95, 95, 9, 47, 95, 102, 114, 111, 122, 101, 110, 95, 105, 109, 112, 111, 114, 116, 108, 105, 98, 46, 77, 111, 100, 117, 108, 101, 83, 112, 101, 99, 46, 95, 95, 100, 111, 99, 95, 95, 58, 115, 116, 114, 35, 111, 112, 97, 113, 117, 101, 6, 230, 8, 95, 95, 105, 110, 105, 116, 95, 95, 9, 44, 95, 102, 114, 111, 122, 101, 110, 95, 105, 109, 112, 111, 114, 116, 108, 105, 98, 46, 77, 111, 100, 117, 108, 101, 83, 112, 101, 99, 46, 95, 95, 105, 110, 105, 116, 95, 95, 35, 111, 112, 97, 113, 117, 101, 6, 231, 8, 95, 95, 114, 101, 112, 114, 95, 95, 9, 44, 95, 102, 114, 111, 122, 101, 110, 95, 105, 109, 112, 111, 114, 116, 108, 105, 98, 46, 77, 111, 100, 117, 108, 101, 83, 112, 101, 99, 46, 95, 95, 114, 101, 112, 114, 95, 95, 35, 111, 112, 97, 113, 117, 101, 6, 232, 6, 95, 95, 101, 113, 95, 95, 9, 42, 95, 102, 114, 111, 122, 101, 110, 95, 105, 109, 112, 111, 114, 116, 108, 105, 98, 46, 77, 111, 100, 117, 108, 101, 83, 112, 101, 99, 46, 95, 95, 101, 113, 95, 95, 35, 111, 112, 97, 113, 117, 101, 6, 233, 6, 99, 97, 99, 104, 101, 100, 9, 42, 95, 102, 114, 111, 122, 101, 110, 95, 105, 109, 112, 111, 114, 116, 108, 105, 98, 46, 77, 111, 100, 117, 108, 101, 83, 112, 101, 99, 46, 99, 97, 99, 104, 101, 100, 35, 111, 112, 97, 113, 117, 101, 6, 234, 6, 112, 97, 114, 101, 110, 116, 9, 42, 95, 102, 114, 111, 122, 101, 110, 95, 105, 109, 112, 111, 114, 116, 108, 105, 98, 46, 77, 111, 100, 117, 108, 101, 83, 112, 101, 99, 46, 112, 97, 114, 101, 110, 116, 35, 111, 112, 97, 113, 117, 101, 6, 235, 12, 104, 97, 115, 95, 108, 111, 99, 97, 116, 105, 111, 110, 9, 48, 95, 102, 114, 111, 122, 101, 110, 95, 105, 109, 112, 111, 114, 116, 108, 105, 98, 46, 77, 111, 100, 117, 108, 101, 83, 112, 101, 99, 46, 104, 97, 115, 95, 108, 111, 99, 97, 116, 105, 111, 110, 35, 111, 112, 97, 113, 117, 101, 6, 236, 21, 95, 95, 115, 116, 97, 116, 105, 99, 95, 97, 116, 116, 114, 105, 98, 117, 116, 101, 115, 95, 95, 4, 0, 0, 23, 6, 238, 8, 95, 95, 100, 105, 99, 116, 95, 95, 4, 0, 0, 24, 6, 240, 11, 95, 95, 119, 101, 97, 107, 114, 101, 102, 95, 95, 4, 0, 0, 25, 6, 241, 8, 95, 95, 104, 97, 115, 104, 95, 95, 0]) 0), (.bool true), (.bool true), (.str (.ofString "") 242)]) 1, #[]⟩
noncomputable def ob_ox19 (P : Params) : Obj := ⟨(.type "list"), none, .seq (List.toArray []) 0, #[]⟩
noncomputable def ob_ox20 (P : Params) : Obj := ⟨(.type "dict"), none, .dict (List.toArray [⟨PyData.keyHash P (.ofString "name"), (.str (.ofString "name") 208), (.str (.ofString "_sre") 207)⟩, ⟨PyData.keyHash P (.ofString "loader"), (.str (.ofString "loader") 209), (.ref 14)⟩, ⟨PyData.keyHash P (.ofString "origin"), (.str (.ofString "origin") 210), (.str (.ofString "built-in") 184)⟩, ⟨PyData.keyHash P (.ofString "loader_state"), (.str (.ofString "loader_state") 211), .none⟩, ⟨PyData.keyHash P (.ofString "submodule_search_locations"), (.str (.ofString "submodule_search_locations") 212), .none⟩, ⟨PyData.keyHash P (.ofString "_uninitialized_submodules"), (.str (.ofString "_uninitialized_submodules") 213), (.ref 19)⟩, ⟨PyData.keyHash P (.ofString "_set_fileattr"), (.str (.ofString "_set_fileattr") 214), (.bool false)⟩, ⟨PyData.keyHash P (.ofString "_cached"), (.str (.ofString "_cached") 215), .none⟩, ⟨PyData.keyHash P (.ofString "_initializing"), (.str (.ofString "_initializing") 243), (.bool false)⟩]) 9, #[]⟩
noncomputable def dl25 (P : Params) : List DictEntry := [⟨PyData.keyHash P (.ofString "__module__"), (.str (.ofString "__module__") 227), (.str (.ofString "_frozen_importlib") 217)⟩, ⟨PyData.keyHash P (.ofString "__firstlineno__"), (.str (.ofString "__firstlineno__") 228), (.int 562 218)⟩, ⟨PyData.keyHash P (.ofString "__doc__"), (.str (.ofString "__doc__") 229), (.builtin "_frozen_importlib.ModuleSpec.__doc__:str#opaque")⟩, ⟨PyData.keyHash P (.ofString "__init__"), (.str (.ofString "__init__") 230), (.builtin "_frozen_importlib.ModuleSpec.__init__#opaque")⟩, ⟨PyData.keyHash P (.ofString "__repr__"), (.str (.ofString "__repr__") 231), (.builtin "_frozen_importlib.ModuleSpec.__repr__#opaque")⟩, ⟨PyData.keyHash P (.ofString "__eq__"), (.str (.ofString "__eq__") 232), (.builtin "_frozen_importlib.ModuleSpec.__eq__#opaque")⟩, ⟨PyData.keyHash P (.ofString "cached"), (.str (.ofString "cached") 233), (.builtin "_frozen_importlib.ModuleSpec.cached#opaque")⟩, ⟨PyData.keyHash P (.ofString "parent"), (.str (.ofString "parent") 234), (.builtin "_frozen_importlib.ModuleSpec.parent#opaque")⟩]
noncomputable def dl26 (P : Params) : List DictEntry := [⟨PyData.keyHash P (.ofString "has_location"), (.str (.ofString "has_location") 235), (.builtin "_frozen_importlib.ModuleSpec.has_location#opaque")⟩, ⟨PyData.keyHash P (.ofString "__static_attributes__"), (.str (.ofString "__static_attributes__") 236), (.ref 23)⟩, ⟨PyData.keyHash P (.ofString "__dict__"), (.str (.ofString "__dict__") 238), (.ref 24)⟩, ⟨PyData.keyHash P (.ofString "__weakref__"), (.str (.ofString "__weakref__") 240), (.ref 25)⟩, ⟨PyData.keyHash P (.ofString "__hash__"), (.str (.ofString "__hash__") 241), .none⟩]
noncomputable def ob_ox21 (P : Params) : Obj := ⟨(.type "dict"), none, .dict (List.toArray (dl25 P ++ (dl26 P))) 13, #[]⟩
noncomputable def ob_ox22 (P : Params) : Obj := ⟨(.type "type"), none, .cls { name := (.ofString "ModuleSpec"), bases := [(.type "object")], mro := [(.ref 22), (.type "object")], ns := 21, qualname := (.ofString "ModuleSpec"), hasDict := true, slotNames := [], subclasses := [], abstract := false, collection := none, hasDel := false }, #[]⟩
noncomputable def ob_ox23 (P : Params) : Obj := ⟨(.type "tuple"), none, .seq (List.toArray [(.str (.ofString "_cached") 219), (.str (.ofString "_set_fileattr") 220), (.str (.ofString "_uninitialized_submodules") 221), (.str (.ofString "loader") 222), (.str (.ofString "loader_state") 223), (.str (.ofString "name") 224), (.str (.ofString "origin") 225), (.str (.ofString "submodule_search_locations") 226)]) 0, #[]⟩
noncomputable def ob_ox24 (P : Params) : Obj := ⟨(.type "getset_descriptor"), none, .fields (List.toArray [(.str (.ofString "__dict__") 237), (.ref 22), (.builtin "function.__dict__"), (.builtin "function.__dict__#set")]), #[]⟩
noncomputable def ob_ox25 (P : Params) : Obj := ⟨(.type "getset_descriptor"), none, .fields (List.toArray [(.str (.ofString "__weakref__") 239), (.ref 22), (.builtin "ExceptionGroup.__weakref__"), .none]), #[]⟩
noncomputable def ob_ox26 (P : Params) : Obj := ⟨(.ref 22), (some 20), .plain, #[]⟩
noncomputable def ob_ox27 (P : Params) : Obj := ⟨.none, none, .seq (List.toArray [(.int 11 0), (.str (.mk #[6, 247, 8, 95, 95, 110, 97, 109, 101, 95, 95, 6, 246, 4, 95, 115, 114, 101, 6, 248, 7, 95, 95, 100, 111, 99, 95, 95, 0, 6, 250, 11, 95, 95, 112, 97, 99, 107, 97, 103, 101, 95, 95, 6, 249, 0, 6, 251, 10, 95, 95, 108, 111, 97, 100, 101, 114, 95, 95, 4, 0, 0, 14, 6, 252, 8, 95, 95, 115, 112, 101, 99, 95, 95, 4, 0, 0, 26, 6, 253, 7, 99, 111, 109, 112, 105, 108, 101, 9, 12, 95, 115, 114, 101, 46, 99, 111, 109, 112, 105, 108, 101, 6, 254, 8, 116, 101, 109, 112, 108, 97, 116, 101, 9, 13, 95, 115, 114, 101, 46, 116, 101, 109, 112, 108, 97, 116, 101, 6, 255, 11, 103, 101, 116, 99, 111, 100, 101, 115, 105, 122, 101, 9, 16, 95, 115, 114, 101, 46, 103, 101, 116, 99, 111, 100, 101, 115, 105, 122, 101, 6, 256, 13, 97, 115, 99, 105, 105, 95, 105, 115, 99, 97, 115, 101, 100, 9, 18, 95, 115, 114, 101, 46, 97, 115, 99, 105, 105, 95, 105, 115, 99, 97, 115, 101, 100, 6, 257, 15, 117, 110, 105, 99, 111, 100, 101, 95, 105, 115, 99, 97, 115, 101, 100, 9, 20, 95, 115, 114, 101, 46, 117, 110, 105, 99, 111, 100, 101, 95, 105, 115, 99, 97, 115, 101, 100, 6, 258, 13, 97, 115, 99, 105, 105, 95, 116, 111, 108, 111, 119, 101, 114, 9, 18, 95, 115, 114, 101, 46, 97, 115, 99, 105, 105, 95, 116, 111, 108, 111, 119, 101, 114, 6, 259, 15, 117, 110, 105, 99, 111, 100, 101, 95, 116, 111, 108, 111, 119, 101, 114, 9, 20, 95, 115, 114, 101, 46, 117, 110, 105, 99, 111, 100, 101, 95, 116, 111, 108, 111, 119, 101, 114, 6, 261, 5, 77, 65, 71, 73, 67, 4, 260, 0, 20230612, 6, 263, 8, 67, 79, 68, 69, 83, 73, 90, 69, 4, 262, 0, 4, 6, 265, 9, 77, 65, 88, 82, 69, 80, 69, 65, 84, 4, 264, 0, 4294967295, 6, 267, 9, 77, 65, 88, 71, 82, 79, 85, 80, 83, 4, 266, 0, 1073741823, 6, 269, 9, 99, 111, 112, 121, 114, 105, 103, 104, 116, 6, 268, 53, 32, 83, 82, 69, 32, 50, 46, 50, 46, 50, 32, 67, 111, 112, 121, 114, 105, 103, 104, 116, 32, 40, 99, 41, 32, 49, 57, 57, 55, 45, 50, 48, 48, 50, 32, 98, 121, 32, 83, 101, 99, 114, 101, 116, 32, 76, 97, 98, 115, 32, 65, 66, 32]) 0), (.bool true), (.bool false), (.str (.ofString "_sre") 271)]) 0, #[]⟩
noncomputable def bt27 (P : Params) : BT := (.node (ob_ox3 P) (.node (PySem.W.boot_o_7 P) (.node (ob_ox15 P) .nil .nil) (.node (ob_ox23 P) .nil .nil)) (.node (ob_ox11 P) (.node (ob_ox19 P) .nil .nil) (.node (ob_ox27 P) .nil .nil)))
noncomputable def bt28 (P : Params) : BT := (.node (PySem.W.boot_o_5 P) (.node (PySem.W.boot_o_9 P) (.node (ob_ox17 P) .nil .nil) (.node (ob_ox25 P) .nil .nil)) (.node (ob_ox13 P) (.node (ob_ox21 P) .nil .nil) .nil))
noncomputable def bt29 (P : Params) : BT := (.node (PySem.W.boot_o_4 P) (.node (PySem.W.boot_o_8 P) (.node (ob_ox16 P) .nil .nil) (.node (ob_ox24 P) .nil .nil)) (.node (ob_ox12 P) (.node (ob_ox20 P) .nil .nil) .nil))
noncomputable def bt30 (P : Params) : BT := (.node (PySem.W.boot_o_6 P) (.node (PySem.W.boot_o_10 P) (.node (ob_ox18 P) .nil .nil) (.node (ob_ox26 P) .nil .nil)) (.node (ob_ox14 P) (.node (ob_ox22 P) .nil .nil) .nil))
noncomputable def bt31 (P : Params) : BT := (.node (ob_ox0 P) (.node (ob_ox1 P) (bt27 P) (bt28 P)) (.node (ob_ox2 P) (bt29 P) (bt30 P)))
noncomputable def tree_o (P : Params) : BT := (bt31 P)
noncomputable def H_o (P : Params) : Heap := ⟨List.toArray [(ob_ox0 P), (ob_ox1 P), (ob_ox2 P), (ob_ox3 P), (PySem.W.boot_o_4 P), (PySem.W.boot_o_5 P), (PySem.W.boot_o_6 P), (PySem.W.boot_o_7 P), (PySem.W.boot_o_8 P), (PySem.W.boot_o_9 P), (PySem.W.boot_o_10 P), (ob_ox11 P), (ob_ox12 P), (ob_ox13 P), (ob_ox14 P), (ob_ox15 P), (ob_ox16 P), (ob_ox17 P), (ob_ox18 P), (ob_ox19 P), (ob_ox20 P), (ob_ox21 P), (ob_ox22 P), (ob_ox23 P), (ob_ox24 P), (ob_ox25 P), (ob_ox26 P), (ob_ox27 P)], {}⟩
noncomputable def S_o (w : World) (os : OsState) : SharedT := ⟨tree_o w.params, 28, {}, #[], {}, 276, os⟩
noncomputable def ob_bx28 (P : Params) : Obj := ⟨(.type "tuple"), none, .seq (List.toArray []) 0, #[]⟩
noncomputable def ob_bx29 (P : Params) : Obj := ⟨.none, none, .fields (List.toArray []), #[]⟩
noncomputable def ob_bx30 (P : Params) : Obj := ⟨(.type "code"), none, .fields (List.toArray [(.str (.ofString "<module>") 277), (.str (.ofString "<module>") 278), (.str (.ofString "/claim/cut.py") 279), (.int 1 0), (.int 0 0), (.int 0 0), (.int 0 0), (.int 0 0), (.ref 28), (.bool false), (.int 276 0), (.ref 29), .none, .none, .none, .none, (.int 280 0), (.int 1 0), (.str (.ofString "/claim/cut.py") 281)]), #[]⟩
noncomputable def ob_bx31 (P : Params) : Obj := ⟨(.type "frame"), none, .plain, List.toArray [(some (.ref 30)), (some (.ref 3)), (some (.ref 3)), none, (some (.str (.ofString "__main__") 164)), none, (some (.ref 0))]⟩
noncomputable def bt32 (P : Params) : BT := (.node (ob_ox15 P) (.node (ob_bx31 P) .nil .nil) .nil)
noncomputable def bt33 (P : Params) : BT := (.node (ob_ox3 P) (.node (PySem.W.boot_o_7 P) (bt32 P) (.node (ob_ox23 P) .nil .nil)) (.node (ob_ox11 P) (.node (ob_ox19 P) .nil .nil) (.node (ob_ox27 P) .nil .nil)))
noncomputable def bt34 (P : Params) : BT := (.node (PySem.W.boot_o_5 P) (.node (PySem.W.boot_o_9 P) (.node (ob_ox17 P) .nil .nil) (.node (ob_ox25 P) .nil .nil)) (.node (ob_ox13 P) (.node (ob_ox21 P) .nil .nil) (.node (ob_bx29 P) .nil .nil)))
noncomputable def bt35 (P : Params) : BT := (.node (PySem.W.boot_o_4 P) (.node (PySem.W.boot_o_8 P) (.node (ob_ox16 P) .nil .nil) (.node (ob_ox24 P) .nil .nil)) (.node (ob_ox12 P) (.node (ob_ox20 P) .nil .nil) (.node (ob_bx28 P) .nil .nil)))
noncomputable def bt36 (P : Params) : BT := (.node (PySem.W.boot_o_6 P) (.node (PySem.W.boot_o_10 P) (.node (ob_ox18 P) .nil .nil) (.node (ob_ox26 P) .nil .nil)) (.node (ob_ox14 P) (.node (ob_ox22 P) .nil .nil) (.node (ob_bx30 P) .nil .nil)))
noncomputable def bt37 (P : Params) : BT := (.node (ob_ox0 P) (.node (ob_ox1 P) (bt33 P) (bt34 P)) (.node (ob_ox2 P) (bt35 P) (bt36 P)))
noncomputable def tree_b (P : Params) : BT := (bt37 P)
noncomputable def S_b (w : World) (os : OsState) : SharedT := ⟨tree_b w.params, 32, {}, #[], {}, 282, os⟩
noncomputable def dl38 (P : Params) : List DictEntry := [⟨PyData.keyHash P (.ofString "__name__"), (.str (.ofString "__name__") 165), (.str (.ofString "cpy313.locale") 289)⟩, ⟨PyData.keyHash P (.ofString "__doc__"), (.str (.ofString "__doc__") 166), .none⟩, ⟨PyData.keyHash P (.ofString "__package__"), (.str (.ofString "__package__") 167), .none⟩, ⟨PyData.keyHash P (.ofString "__loader__"), (.str (.ofString "__loader__") 168), (.builtin "__main__.__loader__#opaque")⟩, ⟨PyData.keyHash P (.ofString "__spec__"), (.str (.ofString "__spec__") 169), .none⟩, ⟨PyData.keyHash P (.ofString "__annotations__"), (.str (.ofString "__annotations__") 170), (.ref 6)⟩, ⟨PyData.keyHash P (.ofString "__builtins__"), (.str (.ofString "__builtins__") 171), (.ref 4)⟩, ⟨PyData.keyHash P (.ofString "__file__"), (.str (.ofString "__file__") 173), (.str (.ofString "/claim/cut.py") 172)⟩]
noncomputable def dl39 (P : Params) : List DictEntry := [⟨PyData.keyHash P (.ofString "__cached__"), (.str (.ofString "__cached__") 174), .none⟩, ⟨PyData.keyHash P (.ofString "_sre"), (.str (.ofString "_sre") 275), (.ref 12)⟩, ⟨PyData.keyHash P (.ofString "_wall"), (.str (.ofString "_wall") 288), (.ref 38)⟩, ⟨PyData.keyHash P (.ofString "_strcoll"), (.str (.ofString "_strcoll") 298), (.ref 45)⟩, ⟨PyData.keyHash P (.ofString "_replace_encoding"), (.str (.ofString "_replace_encoding") 308), (.ref 52)⟩, ⟨PyData.keyHash P (.ofString "_append_modifier"), (.str (.ofString "_append_modifier") 318), (.ref 59)⟩]
noncomputable def ob_p4x3 (P : Params) : Obj := ⟨(.type "dict"), none, .dict (List.toArray (dl38 P ++ (dl39 P))) 14, #[]⟩
noncomputable def ob_p4x29 (P : Params) : Obj := ⟨.none, none, .fields (List.toArray [(.int 2 0), (.int 0 0), (.ref 37), (.int 6 0), (.int 0 0), (.ref 44), (.int 8 0), (.int 0 0), (.ref 51), (.int 25 0), (.int 0 0), (.ref 58)]), #[]⟩
noncomputable def ob_p4x32 (P : Params) : Obj := ⟨(.type "tuple"), none, .seq (List.toArray []) 0, #[]⟩
noncomputable def ob_p4x33 (P : Params) : Obj := ⟨.none, none, .fields (List.toArray []), #[]⟩
noncomputable def ob_p4x34 (P : Params) : Obj := ⟨(.type "tuple"), none, .seq (List.toArray [(.str (.ofString "k") 285)]) 0, #[]⟩
noncomputable def ob_p4x35 (P : Params) : Obj := ⟨(.type "tuple"), none, .seq (List.toArray []) 0, #[]⟩
noncomputable def ob_p4x36 (P : Params) : Obj := ⟨.none, none, .func (fnAt 0 0 .none .none), #[]⟩
noncomputable def ob_p4x37 (P : Params) : Obj := ⟨(.type "code"), none, .fields (List.toArray [(.str (.ofString "_wall") 282), (.str (.ofString "_wall") 283), (.str (.ofString "/claim/cut.py") 284), (.int 2 0), (.int 1 0), (.int 0 0), (.int 0 0), (.int 3 0), (.ref 32), (.bool true), (.int 276 0), (.ref 33), .none, (.ref 34), (.ref 35), (.ref 36), (.int 286 0), (.int 2 0), (.str (.ofString "/claim/cut.py") 287)]), #[]⟩
noncomputable def ob_p4x38 (P : Params) : Obj := ⟨(.type "function"), none, .func (fnAt 0 3 (.str (.ofString "__main__") 164) (.ref 37)), #[]⟩
noncomputable def ob_p4x39 (P : Params) : Obj := ⟨(.type "tuple"), none, .seq (List.toArray []) 0, #[]⟩
noncomputable def ob_p4x40 (P : Params) : Obj := ⟨.none, none, .fields (List.toArray []), #[]⟩
noncomputable def ob_p4x41 (P : Params) : Obj := ⟨(.type "tuple"), none, .seq (List.toArray [(.str (.ofString "a") 294), (.str (.ofString "b") 295)]) 0, #[]⟩
noncomputable def ob_p4x42 (P : Params) : Obj := ⟨(.type "tuple"), none, .seq (List.toArray []) 0, #[]⟩
noncomputable def ob_p4x43 (P : Params) : Obj := ⟨.none, none, .func (fnAt 2 0 .none .none), #[]⟩
noncomputable def ob_p4x44 (P : Params) : Obj := ⟨(.type "code"), none, .fields (List.toArray [(.str (.ofString "_strcoll") 291), (.str (.ofString "_strcoll") 292), (.str (.ofString "/claim/cut.py") 293), (.int 6 0), (.int 2 0), (.int 0 0), (.int 0 0), (.int 3 0), (.ref 39), (.bool true), (.int 276 0), (.ref 40), .none, (.ref 41), (.ref 42), (.ref 43), (.int 296 0), (.int 6 0), (.str (.ofString "/claim/cut.py") 297)]), #[]⟩
noncomputable def ob_p4x45 (P : Params) : Obj := ⟨(.type "function"), none, .func (fnAt 2 3 (.str (.ofString "cpy313.locale") 289) (.ref 44)), #[]⟩
noncomputable def ob_p4x46 (P : Params) : Obj := ⟨(.type "tuple"), none, .seq (List.toArray []) 0, #[]⟩
noncomputable def ob_p4x47 (P : Params) : Obj := ⟨.none, none, .fields (List.toArray []), #[]⟩
noncomputable def ob_p4x48 (P : Params) : Obj := ⟨(.type "tuple"), none, .seq (List.toArray [(.str (.ofString "code") 302), (.str (.ofString "encoding") 303), (.str (.ofString "langname") 304), (.str (.ofString "norm_encoding") 305)]) 0, #[]⟩
noncomputable def ob_p4x49 (P : Params) : Obj := ⟨(.type "tuple"), none, .seq (List.toArray []) 0, #[]⟩
noncomputable def ob_p4x50 (P : Params) : Obj := ⟨.none, none, .func (fnAt 3 0 .none .none), #[]⟩
noncomputable def ob_p4x51 (P : Params) : Obj := ⟨(.type "code"), none, .fields (List.toArray [(.str (.ofString "_replace_encoding") 299), (.str (.ofString "_replace_encoding") 300), (.str (.ofString "/claim/cut.py") 301), (.int 8 0), (.int 2 0), (.int 0 0), (.int 0 0), (.int 3 0), (.ref 46), (.bool true), (.int 276 0), (.ref 47), .none, (.ref 48), (.ref 49), (.ref 50), (.int 306 0), (.int 8 0), (.str (.ofString "/claim/cut.py") 307)]), #[]⟩
noncomputable def ob_p4x52 (P : Params) : Obj := ⟨(.type "function"), none, .func (fnAt 3 3 (.str (.ofString "cpy313.locale") 289) (.ref 51)), #[]⟩
noncomputable def ob_p4x53 (P : Params) : Obj := ⟨(.type "tuple"), none, .seq (List.toArray []) 0, #[]⟩
noncomputable def ob_p4x54 (P : Params) : Obj := ⟨.none, none, .fields (List.toArray []), #[]⟩
noncomputable def ob_p4x55 (P : Params) : Obj := ⟨(.type "tuple"), none, .seq (List.toArray [(.str (.ofString "code") 312), (.str (.ofString "modifier") 313), (.str (.ofString "_") 314), (.str (.ofString "encoding") 315)]) 0, #[]⟩
noncomputable def ob_p4x56 (P : Params) : Obj := ⟨(.type "tuple"), none, .seq (List.toArray []) 0, #[]⟩
noncomputable def ob_p4x57 (P : Params) : Obj := ⟨.none, none, .func (fnAt 4 0 .none .none), #[]⟩
noncomputable def ob_p4x58 (P : Params) : Obj := ⟨(.type "code"), none, .fields (List.toArray [(.str (.ofString "_append_modifier") 309), (.str (.ofString "_append_modifier") 310), (.str (.ofString "/claim/cut.py") 311), (.int 25 0), (.int 2 0), (.int 0 0), (.int 0 0), (.int 3 0), (.ref 53), (.bool true), (.int 276 0), (.ref 54), .none, (.ref 55), (.ref 56), (.ref 57), (.int 316 0), (.int 25 0), (.str (.ofString "/claim/cut.py") 317)]), #[]⟩
noncomputable def ob_p4x59 (P : Params) : Obj := ⟨(.type "function"), none, .func (fnAt 4 3 (.str (.ofString "cpy313.locale") 289) (.ref 58)), #[]⟩
noncomputable def bt40 (P : Params) : BT := (.node (ob_ox15 P) (.node (ob_bx31 P) .nil .nil) (.node (ob_p4x47 P) .nil .nil))
noncomputable def bt41 (P : Params) : BT := (.node (ob_ox23 P) (.node (ob_p4x39 P) .nil .nil) (.node (ob_p4x55 P) .nil .nil))
noncomputable def bt42 (P : Params) : BT := (.node (ob_ox19 P) (.node (ob_p4x35 P) .nil .nil) (.node (ob_p4x51 P) .nil .nil))
noncomputable def bt43 (P : Params) : BT := (.node (ob_ox27 P) (.node (ob_p4x43 P) .nil .nil) (.node (ob_p4x59 P) .nil .nil))
noncomputable def bt44 (P : Params) : BT := (.node (ob_p4x3 P) (.node (PySem.W.boot_o_7 P) (bt40 P) (bt41 P)) (.node (ob_ox11 P) (bt42 P) (bt43 P)))
noncomputable def bt45 (P : Params) : BT := (.node (ob_ox17 P) (.node (ob_p4x33 P) .nil .nil) (.node (ob_p4x49 P) .nil .nil))
noncomputable def bt46 (P : Params) : BT := (.node (ob_ox25 P) (.node (ob_p4x41 P) .nil .nil) (.node (ob_p4x57 P) .nil .nil))
noncomputable def bt47 (P : Params) : BT := (.node (ob_ox21 P) (.node (ob_p4x37 P) .nil .nil) (.node (ob_p4x53 P) .nil .nil))
noncomputable def bt48 (P : Params) : BT := (.node (ob_p4x29 P) (.node (ob_p4x45 P) .nil .nil) .nil)
noncomputable def bt49 (P : Params) : BT := (.node (PySem.W.boot_o_5 P) (.node (PySem.W.boot_o_9 P) (bt45 P) (bt46 P)) (.node (ob_ox13 P) (bt47 P) (bt48 P)))
noncomputable def bt50 (P : Params) : BT := (.node (ob_ox16 P) (.node (ob_p4x32 P) .nil .nil) (.node (ob_p4x48 P) .nil .nil))
noncomputable def bt51 (P : Params) : BT := (.node (ob_ox24 P) (.node (ob_p4x40 P) .nil .nil) (.node (ob_p4x56 P) .nil .nil))
noncomputable def bt52 (P : Params) : BT := (.node (ob_ox20 P) (.node (ob_p4x36 P) .nil .nil) (.node (ob_p4x52 P) .nil .nil))
noncomputable def bt53 (P : Params) : BT := (.node (ob_bx28 P) (.node (ob_p4x44 P) .nil .nil) .nil)
noncomputable def bt54 (P : Params) : BT := (.node (PySem.W.boot_o_4 P) (.node (PySem.W.boot_o_8 P) (bt50 P) (bt51 P)) (.node (ob_ox12 P) (bt52 P) (bt53 P)))
noncomputable def bt55 (P : Params) : BT := (.node (ob_ox18 P) (.node (ob_p4x34 P) .nil .nil) (.node (ob_p4x50 P) .nil .nil))
noncomputable def bt56 (P : Params) : BT := (.node (ob_ox26 P) (.node (ob_p4x42 P) .nil .nil) (.node (ob_p4x58 P) .nil .nil))
noncomputable def bt57 (P : Params) : BT := (.node (ob_ox22 P) (.node (ob_p4x38 P) .nil .nil) (.node (ob_p4x54 P) .nil .nil))
noncomputable def bt58 (P : Params) : BT := (.node (ob_bx30 P) (.node (ob_p4x46 P) .nil .nil) .nil)
noncomputable def bt59 (P : Params) : BT := (.node (PySem.W.boot_o_6 P) (.node (PySem.W.boot_o_10 P) (bt55 P) (bt56 P)) (.node (ob_ox14 P) (bt57 P) (bt58 P)))
noncomputable def bt60 (P : Params) : BT := (.node (ob_ox0 P) (.node (ob_ox1 P) (bt44 P) (bt49 P)) (.node (ob_ox2 P) (bt54 P) (bt59 P)))
noncomputable def tree_p4 (P : Params) : BT := (bt60 P)
noncomputable def S_p4 (w : World) (os : OsState) : SharedT := ⟨tree_p4 w.params, 60, {}, #[], {}, 319, os⟩
noncomputable def dl61 (P : Params) : List DictEntry := [⟨PyData.keyHash P (.ofString "__cached__"), (.str (.ofString "__cached__") 174), .none⟩, ⟨PyData.keyHash P (.ofString "_sre"), (.str (.ofString "_sre") 275), (.ref 12)⟩, ⟨PyData.keyHash P (.ofString "_wall"), (.str (.ofString "_wall") 288), (.ref 38)⟩, ⟨PyData.keyHash P (.ofString "_strcoll"), (.str (.ofString "_strcoll") 298), (.ref 45)⟩, ⟨PyData.keyHash P (.ofString "_replace_encoding"), (.str (.ofString "_replace_encoding") 308), (.ref 52)⟩, ⟨PyData.keyHash P (.ofString "_append_modifier"), (.str (.ofString "_append_modifier") 318), (.ref 59)⟩, ⟨PyData.keyHash P (.ofString "locale_encoding_alias"), (.str (.ofString "locale_encoding_alias") 451), (.ref 60)⟩]
noncomputable def ob_p5x3 (P : Params) : Obj := ⟨(.type "dict"), none, .dict (List.toArray (dl38 P ++ (dl61 P))) 15, #[]⟩
noncomputable def dl62 (P : Params) : List DictEntry := [⟨PyData.keyHash P (.ofString "437"), (.str (.ofString "437") 319), (.str (.ofString "C") 320)⟩, ⟨PyData.keyHash P (.ofString "c"), (.str (.ofString "c") 322), (.str (.ofString "C") 323)⟩, ⟨PyData.keyHash P (.ofString "en"), (.str (.ofString "en") 325), (.str (.ofString "ISO8859-1") 326)⟩, ⟨PyData.keyHash P (.ofString "jis"), (.str (.ofString "jis") 328), (.str (.ofString "JIS7") 329)⟩, ⟨PyData.keyHash P (.ofString "jis7"), (.str (.ofString "jis7") 331), (.str (.ofString "JIS7") 332)⟩, ⟨PyData.keyHash P (.ofString "ajec"), (.str (.ofString "ajec") 334), (.str (.ofString "eucJP") 335)⟩, ⟨PyData.keyHash P (.ofString "koi8c"), (.str (.ofString "koi8c") 337), (.str (.ofString "KOI8-C") 338)⟩, ⟨PyData.keyHash P (.ofString "microsoftcp1251"), (.str (.ofString "microsoftcp1251") 340), (.str (.ofString "CP1251") 341)⟩]
noncomputable def dl63 (P : Params) : List DictEntry := [⟨PyData.keyHash P (.ofString "microsoftcp1255"), (.str (.ofString "microsoftcp1255") 343), (.str (.ofString "CP1255") 344)⟩, ⟨PyData.keyHash P (.ofString "microsoftcp1256"), (.str (.ofString "microsoftcp1256") 346), (.str (.ofString "CP1256") 347)⟩, ⟨PyData.keyHash P (.ofString "88591"), (.str (.ofString "88591") 349), (.str (.ofString "ISO8859-1") 350)⟩, ⟨PyData.keyHash P (.ofString "88592"), (.str (.ofString "88592") 352), (.str (.ofString "ISO8859-2") 353)⟩, ⟨PyData.keyHash P (.ofString "88595"), (.str (.ofString "88595") 355), (.str (.ofString "ISO8859-5") 356)⟩, ⟨PyData.keyHash P (.ofString "885915"), (.str (.ofString "885915") 358), (.str (.ofString "ISO8859-15") 359)⟩, ⟨PyData.keyHash P (.ofString "ascii"), (.str (.ofString "ascii") 361), (.str (.ofString "ISO8859-1") 362)⟩, ⟨PyData.keyHash P (.ofString "latin_1"), (.str (.ofString "latin_1") 364), (.str (.ofString "ISO8859-1") 365)⟩]
noncomputable def dl64 (P : Params) : List DictEntry := [⟨PyData.keyHash P (.ofString "iso8859_1"), (.str (.ofString "iso8859_1") 367), (.str (.ofString "ISO8859-1") 368)⟩, ⟨PyData.keyHash P (.ofString "iso8859_10"), (.str (.ofString "iso8859_10") 370), (.str (.ofString "ISO8859-10") 371)⟩, ⟨PyData.keyHash P (.ofString "iso8859_11"), (.str (.ofString "iso8859_11") 373), (.str (.ofString "ISO8859-11") 374)⟩, ⟨PyData.keyHash P (.ofString "iso8859_13"), (.str (.ofString "iso8859_13") 376), (.str (.ofString "ISO8859-13") 377)⟩, ⟨PyData.keyHash P (.ofString "iso8859_14"), (.str (.ofString "iso8859_14") 379), (.str (.ofString "ISO8859-14") 380)⟩, ⟨PyData.keyHash P (.ofString "iso8859_15"), (.str (.ofString "iso8859_15") 382), (.str (.ofString "ISO8859-15") 383)⟩, ⟨PyData.keyHash P (.ofString "iso8859_16"), (.str (.ofString "iso8859_16") 385), (.str (.ofString "ISO8859-16") 386)⟩, ⟨PyData.keyHash P (.ofString "iso8859_2"), (.str (.ofString "iso8859_2") 388), (.str (.ofString "ISO8859-2") 389)⟩]
noncomputable def dl65 (P : Params) : List DictEntry := [⟨PyData.keyHash P (.ofString "iso8859_3"), (.str (.ofString "iso8859_3") 391), (.str (.ofString "ISO8859-3") 392)⟩, ⟨PyData.keyHash P (.ofString "iso8859_4"), (.str (.ofString "iso8859_4") 394), (.str (.ofString "ISO8859-4") 395)⟩, ⟨PyData.keyHash P (.ofString "iso8859_5"), (.str (.ofString "iso8859_5") 397), (.str (.ofString "ISO8859-5") 398)⟩, ⟨PyData.keyHash P (.ofString "iso8859_6"), (.str (.ofString "iso8859_6") 400), (.str (.ofString "ISO8859-6") 401)⟩, ⟨PyData.keyHash P (.ofString "iso8859_7"), (.str (.ofString "iso8859_7") 403), (.str (.ofString "ISO8859-7") 404)⟩, ⟨PyData.keyHash P (.ofString "iso8859_8"), (.str (.ofString "iso8859_8") 406), (.str (.ofString "ISO8859-8") 407)⟩, ⟨PyData.keyHash P (.ofString "iso8859_9"), (.str (.ofString "iso8859_9") 409), (.str (.ofString "ISO8859-9") 410)⟩, ⟨PyData.keyHash P (.ofString "iso2022_jp"), (.str (.ofString "iso2022_jp") 412), (.str (.ofString "JIS7") 413)⟩]
noncomputable def dl66 (P : Params) : List DictEntry := [⟨PyData.keyHash P (.ofString "shift_jis"), (.str (.ofString "shift_jis") 415), (.str (.ofString "SJIS") 416)⟩, ⟨PyData.keyHash P (.ofString "tactis"), (.str (.ofString "tactis") 418), (.str (.ofString "TACTIS") 419)⟩, ⟨PyData.keyHash P (.ofString "euc_jp"), (.str (.ofString "euc_jp") 421), (.str (.ofString "eucJP") 422)⟩, ⟨PyData.keyHash P (.ofString "euc_kr"), (.str (.ofString "euc_kr") 423), (.str (.ofString "eucKR") 424)⟩, ⟨PyData.keyHash P (.ofString "utf_8"), (.str (.ofString "utf_8") 425), (.str (.ofString "UTF-8") 426)⟩, ⟨PyData.keyHash P (.ofString "koi8_r"), (.str (.ofString "koi8_r") 427), (.str (.ofString "KOI8-R") 428)⟩, ⟨PyData.keyHash P (.ofString "koi8_t"), (.str (.ofString "koi8_t") 429), (.str (.ofString "KOI8-T") 430)⟩, ⟨PyData.keyHash P (.ofString "koi8_u"), (.str (.ofString "koi8_u") 431), (.str (.ofString "KOI8-U") 432)⟩]
noncomputable def dl67 (P : Params) : List DictEntry := [⟨PyData.keyHash P (.ofString "kz1048"), (.str (.ofString "kz1048") 433), (.str (.ofString "RK1048") 434)⟩, ⟨PyData.keyHash P (.ofString "cp1251"), (.str (.ofString "cp1251") 435), (.str (.ofString "CP1251") 436)⟩, ⟨PyData.keyHash P (.ofString "cp1255"), (.str (.ofString "cp1255") 437), (.str (.ofString "CP1255") 438)⟩, ⟨PyData.keyHash P (.ofString "cp1256"), (.str (.ofString "cp1256") 439), (.str (.ofString "CP1256") 440)⟩]
noncomputable def ob_p5x60 (P : Params) : Obj := ⟨(.type "dict"), none, .dict (List.toArray (dl62 P ++ (dl63 P ++ (dl64 P ++ (dl65 P ++ (dl66 P ++ (dl67 P))))))) 44, #[]⟩
noncomputable def dl68 (P : Params) : List DictEntry := [⟨PyData.keyHash P (.ofString "iso8859_10"), (.str (.ofString "iso8859_10") 370), (.str (.ofString "ISO8859-10") 371)⟩, ⟨PyData.keyHash P (.ofString "iso8859_11"), (.str (.ofString "iso8859_11") 373), (.str (.ofString "ISO8859-11") 374)⟩, ⟨PyData.keyHash P (.ofString "iso8859_13"), (.str (.ofString "iso8859_13") 376), (.str (.ofString "ISO8859-13") 377)⟩, ⟨PyData.keyHash P (.ofString "iso8859_14"), (.str (.ofString "iso8859_14") 379), (.str (.ofString "ISO8859-14") 380)⟩, ⟨PyData.keyHash P (.ofString "iso8859_15"), (.str (.ofString "iso8859_15") 382), (.str (.ofString "ISO8859-15") 383)⟩, ⟨PyData.keyHash P (.ofString "iso8859_16"), (.str (.ofString "iso8859_16") 385), (.str (.ofString "ISO8859-16") 386)⟩, ⟨PyData.keyHash P (.ofString "iso8859_2"), (.str (.ofString "iso8859_2") 388), (.str (.ofString "ISO8859-2") 389)⟩, ⟨PyData.keyHash P (.ofString "iso8859_3"), (.str (.ofString "iso8859_3") 391), (.str (.ofString "ISO8859-3") 392)⟩]
noncomputable def dl69 (P : Params) : List DictEntry := [⟨PyData.keyHash P (.ofString "iso8859_4"), (.str (.ofString "iso8859_4") 394), (.str (.ofString "ISO8859-4") 395)⟩, ⟨PyData.keyHash P (.ofString "iso8859_5"), (.str (.ofString "iso8859_5") 397), (.str (.ofString "ISO8859-5") 398)⟩, ⟨PyData.keyHash P (.ofString "iso8859_6"), (.str (.ofString "iso8859_6") 400), (.str (.ofString "ISO8859-6") 401)⟩, ⟨PyData.keyHash P (.ofString "iso8859_7"), (.str (.ofString "iso8859_7") 403), (.str (.ofString "ISO8859-7") 404)⟩, ⟨PyData.keyHash P (.ofString "iso8859_8"), (.str (.ofString "iso8859_8") 406), (.str (.ofString "ISO8859-8") 407)⟩, ⟨PyData.keyHash P (.ofString "iso8859_9"), (.str (.ofString "iso8859_9") 409), (.str (.ofString "ISO8859-9") 410)⟩, ⟨PyData.keyHash P (.ofString "iso2022_jp"), (.str (.ofString "iso2022_jp") 412), (.str (.ofString "JIS7") 413)⟩, ⟨PyData.keyHash P (.ofString "shift_jis"), (.str (.ofString "shift_jis") 415), (.str (.ofString "SJIS") 416)⟩]
noncomputable def dl70 (P : Params) : List DictEntry := [⟨PyData.keyHash P (.ofString "tactis"), (.str (.ofString "tactis") 418), (.str (.ofString "TACTIS") 419)⟩]
noncomputable def ob_p5x61 (P : Params) : Obj := ⟨(.type "dict"), none, .dict (List.toArray (dl68 P ++ (dl69 P ++ (dl70 P)))) 17, #[]⟩
noncomputable def ob_p5x62 (P : Params) : Obj := ⟨(.type "dict"), none, .dict (List.toArray [⟨PyData.keyHash P (.ofString "euc_jp"), (.str (.ofString "euc_jp") 421), (.str (.ofString "eucJP") 422)⟩, ⟨PyData.keyHash P (.ofString "euc_kr"), (.str (.ofString "euc_kr") 423), (.str (.ofString "eucKR") 424)⟩, ⟨PyData.keyHash P (.ofString "utf_8"), (.str (.ofString "utf_8") 425), (.str (.ofString "UTF-8") 426)⟩, ⟨PyData.keyHash P (.ofString "koi8_r"), (.str (.ofString "koi8_r") 427), (.str (.ofString "KOI8-R") 428)⟩, ⟨PyData.keyHash P (.ofString "koi8_t"), (.str (.ofString "koi8_t") 429), (.str (.ofString "KOI8-T") 430)⟩, ⟨PyData.keyHash P (.ofString "koi8_u"), (.str (.ofString "koi8_u") 431), (.str (.ofString "KOI8-U") 432)⟩, ⟨PyData.keyHash P (.ofString "kz1048"), (.str (.ofString "kz1048") 433), (.str (.ofString "RK1048") 434)⟩, ⟨PyData.keyHash P (.ofString "cp1251"), (.str (.ofString "cp1251") 435), (.str (.ofString "CP1251") 436)⟩, ⟨PyData.keyHash P (.ofString "cp1255"), (.str (.ofString "cp1255") 437), (.str (.ofString "CP1255") 438)⟩, ⟨PyData.keyHash P (.ofString "cp1256"), (.str (.ofString "cp1256") 439), (.str (.ofString "CP1256") 440)⟩]) 10, #[]⟩
noncomputable def bt71 (P : Params) : BT := (.node (ob_p5x3 P) (.node (PySem.W.boot_o_7 P) (bt40 P) (bt41 P)) (.node (ob_ox11 P) (bt42 P) (bt43 P)))
noncomputable def bt72 (P : Params) : BT := (.node (ob_p4x29 P) (.node (ob_p4x45 P) .nil .nil) (.node (ob_p5x61 P) .nil .nil))
noncomputable def bt73 (P : Params) : BT := (.node (PySem.W.boot_o_5 P) (.node (PySem.W.boot_o_9 P) (bt45 P) (bt46 P)) (.node (ob_ox13 P) (bt47 P) (bt72 P)))
noncomputable def bt74 (P : Params) : BT := (.node (ob_bx28 P) (.node (ob_p4x44 P) .nil .nil) (.node (ob_p5x60 P) .nil .nil))
noncomputable def bt75 (P : Params) : BT := (.node (PySem.W.boot_o_4 P) (.node (PySem.W.boot_o_8 P) (bt50 P) (bt51 P)) (.node (ob_ox12 P) (bt52 P) (bt74 P)))
noncomputable def bt76 (P : Params) : BT := (.node (ob_bx30 P) (.node (ob_p4x46 P) .nil .nil) (.node (ob_p5x62 P) .nil .nil))
noncomputable def bt77 (P : Params) : BT := (.node (PySem.W.boot_o_6 P) (.node (PySem.W.boot_o_10 P) (bt55 P) (bt56 P)) (.node (ob_ox14 P) (bt57 P) (bt76 P)))
noncomputable def bt78 (P : Params) : BT := (.node (ob_ox0 P) (.node (ob_ox1 P) (bt71 P) (bt73 P)) (.node (ob_ox2 P) (bt75 P) (bt77 P)))
noncomputable def tree_p5 (P : Params) : BT := (bt78 P)
noncomputable def S_p5 (w : World) (os : OsState) : SharedT := ⟨tree_p5 w.params, 63, {}, #[], {}, 452, os⟩
noncomputable def ob_f50x63 (P : Params) : Obj := ⟨(.type "dict_items"), none, .fields (List.toArray [(.ref 60)]), #[]⟩
noncomputable def ob_f50x64 (P : Params) : Obj := ⟨(.type "list"), none, .seq (List.toArray []) 2, #[]⟩
noncomputable def ob_f50x65 (P : Params) : Obj := ⟨(.type "dict_itemiterator"), none, .fields (List.toArray [.none, (.bool false), (.ref 60), (.int 0 0), (.int 44 0), (.int 44 0), .none, .none]), #[]⟩
noncomputable def bt79 (P : Params) : BT := (.node (ob_ox15 P) (.node (ob_bx31 P) (.node (ob_f50x63 P) .nil .nil) .nil) (.node (ob_p4x47 P) .nil .nil))
noncomputable def bt80 (P : Params) : BT := (.node (ob_p5x3 P) (.node (PySem.W.boot_o_7 P) (bt79 P) (bt41 P)) (.node (ob_ox11 P) (bt42 P) (bt43 P)))
noncomputable def bt81 (P : Params) : BT := (.node (ob_ox17 P) (.node (ob_p4x33 P) (.node (ob_f50x65 P) .nil .nil) .nil) (.node (ob_p4x49 P) .nil .nil))
noncomputable def bt82 (P : Params) : BT := (.node (PySem.W.boot_o_5 P) (.node (PySem.W.boot_o_9 P) (bt81 P) (bt46 P)) (.node (ob_ox13 P) (bt47 P) (bt72 P)))
noncomputable def bt83 (P : Params) : BT := (.node (ob_ox16 P) (.node (ob_p4x32 P) (.node (ob_f50x64 P) .nil .nil) .nil) (.node (ob_p4x48 P) .nil .nil))
noncomputable def bt84 (P : Params) : BT := (.node (PySem.W.boot_o_4 P) (.node (PySem.W.boot_o_8 P) (bt83 P) (bt51 P)) (.node (ob_ox12 P) (bt52 P) (bt74 P)))
noncomputable def bt85 (P : Params) : BT := (.node (ob_ox0 P) (.node (ob_ox1 P) (bt80 P) (bt82 P)) (.node (ob_ox2 P) (bt84 P) (bt77 P)))
noncomputable def tree_f50 (P : Params) : BT := (bt85 P)
noncomputable def S_f50 (w : World) (os : OsState) : SharedT := ⟨tree_f50 w.params, 66, {}, #[], {}, 452, os⟩
noncomputable def ob_f1074x64 (P : Params) : Obj := ⟨(.type "list"), none, .seq (List.toArray [(.ref 66), (.ref 67), (.ref 68), (.ref 69), (.ref 70), (.ref 71), (.ref 72), (.ref 73), (.ref 74), (.ref 75), (.ref 76), (.ref 77), (.ref 78), (.ref 79), (.ref 80), (.ref 81), (.ref 82), (.ref 83), (.ref 84), (.ref 85), (.ref 86), (.ref 87), (.ref 88), (.ref 89), (.ref 90), (.ref 91), (.ref 92), (.ref 93), (.ref 94), (.ref 95), (.ref 96), (.ref 97), (.ref 98), (.ref 99), (.ref 100), (.ref 101), (.ref 102), (.ref 103), (.ref 104), (.ref 105), (.ref 106), (.ref 107), (.ref 108), (.ref 109)]) 46, #[]⟩
noncomputable def ob_f1074x65 (P : Params) : Obj := ⟨(.type "dict_itemiterator"), none, .fields (List.toArray [(.int 66 0), (.bool true), (.ref 60), (.int 44 0), (.int 44 0), (.int 44 0), (.str (.ofString "437") 319), (.str (.ofString "C") 320)]), #[]⟩
noncomputable def ob_f1074x66 (P : Params) : Obj := ⟨(.type "tuple"), none, .seq (List.toArray [(.str (.ofString "437") 319), (.str (.ofString "C") 320)]) 0, #[]⟩
noncomputable def ob_f1074x67 (P : Params) : Obj := ⟨(.type "tuple"), none, .seq (List.toArray [(.str (.ofString "c") 322), (.str (.ofString "C") 323)]) 0, #[]⟩
noncomputable def ob_f1074x68 (P : Params) : Obj := ⟨(.type "tuple"), none, .seq (List.toArray [(.str (.ofString "en") 325), (.str (.ofString "ISO8859-1") 326)]) 0, #[]⟩
noncomputable def ob_f1074x69 (P : Params) : Obj := ⟨(.type "tuple"), none, .seq (List.toArray [(.str (.ofString "jis") 328), (.str (.ofString "JIS7") 329)]) 0, #[]⟩
noncomputable def ob_f1074x70 (P : Params) : Obj := ⟨(.type "tuple"), none, .seq (List.toArray [(.str (.ofString "jis7") 331), (.str (.ofString "JIS7") 332)]) 0, #[]⟩
noncomputable def ob_f1074x71 (P : Params) : Obj := ⟨(.type "tuple"), none, .seq (List.toArray [(.str (.ofString "ajec") 334), (.str (.ofString "eucJP") 335)]) 0, #[]⟩
noncomputable def ob_f1074x72 (P : Params) : Obj := ⟨(.type "tuple"), none, .seq (List.toArray [(.str (.ofString "koi8c") 337), (.str (.ofString "KOI8-C") 338)]) 0, #[]⟩
noncomputable def ob_f1074x73 (P : Params) : Obj := ⟨(.type "tuple"), none, .seq (List.toArray [(.str (.ofString "microsoftcp1251") 340), (.str (.ofString "CP1251") 341)]) 0, #[]⟩
noncomputable def ob_f1074x74 (P : Params) : Obj := ⟨(.type "tuple"), none, .seq (List.toArray [(.str (.ofString "microsoftcp1255") 343), (.str (.ofString "CP1255") 344)]) 0, #[]⟩
noncomputable def ob_f1074x75 (P : Params) : Obj := ⟨(.type "tuple"), none, .seq (List.toArray [(.str (.ofString "microsoftcp1256") 346), (.str (.ofString "CP1256") 347)]) 0, #[]⟩
noncomputable def ob_f1074x76 (P : Params) : Obj := ⟨(.type "tuple"), none, .seq (List.toArray [(.str (.ofString "88591") 349), (.str (.ofString "ISO8859-1") 350)]) 0, #[]⟩
noncomputable def ob_f1074x77 (P : Params) : Obj := ⟨(.type "tuple"), none, .seq (List.toArray [(.str (.ofString "88592") 352), (.str (.ofString "ISO8859-2") 353)]) 0, #[]⟩
noncomputable def ob_f1074x78 (P : Params) : Obj := ⟨(.type "tuple"), none, .seq (List.toArray [(.str (.ofString "88595") 355), (.str (.ofString "ISO8859-5") 356)]) 0, #[]⟩
noncomputable def ob_f1074x79 (P : Params) : Obj := ⟨(.type "tuple"), none, .seq (List.toArray [(.str (.ofString "885915") 358), (.str (.ofString "ISO8859-15") 359)]) 0, #[]⟩
noncomputable def ob_f1074x80 (P : Params) : Obj := ⟨(.type "tuple"), none, .seq (List.toArray [(.str (.ofString "ascii") 361), (.str (.ofString "ISO8859-1") 362)]) 0, #[]⟩
noncomputable def ob_f1074x81 (P : Params) : Obj := ⟨(.type "tuple"), none, .seq (List.toArray [(.str (.ofString "latin_1") 364), (.str (.ofString "ISO8859-1") 365)]) 0, #[]⟩
noncomputable def ob_f1074x82 (P : Params) : Obj := ⟨(.type "tuple"), none, .seq (List.toArray [(.str (.ofString "iso8859_1") 367), (.str (.ofString "ISO8859-1") 368)]) 0, #[]⟩
noncomputable def ob_f1074x83 (P : Params) : Obj := ⟨(.type "tuple"), none, .seq (List.toArray [(.str (.ofString "iso8859_10") 370), (.str (.ofString "ISO8859-10") 371)]) 0, #[]⟩
noncomputable def ob_f1074x84 (P : Params) : Obj := ⟨(.type "tuple"), none, .seq (List.toArray [(.str (.ofString "iso8859_11") 373), (.str (.ofString "ISO8859-11") 374)]) 0, #[]⟩
noncomputable def ob_f1074x85 (P : Params) : Obj := ⟨(.type "tuple"), none, .seq (List.toArray [(.str (.ofString "iso8859_13") 376), (.str (.ofString "ISO8859-13") 377)]) 0, #[]⟩
noncomputable def ob_f1074x86 (P : Params) : Obj := ⟨(.type "tuple"), none, .seq (List.toArray [(.str (.ofString "iso8859_14") 379), (.str (.ofString "ISO8859-14") 380)]) 0, #[]⟩
noncomputable def ob_f1074x87 (P : Params) : Obj := ⟨(.type "tuple"), none, .seq (List.toArray [(.str (.ofString "iso8859_15") 382), (.str (.ofString "ISO8859-15") 383)]) 0, #[]⟩
noncomputable def ob_f1074x88 (P : Params) : Obj := ⟨(.type "tuple"), none, .seq (List.toArray [(.str (.ofString "iso8859_16") 385), (.str (.ofString "ISO8859-16") 386)]) 0, #[]⟩
noncomputable def ob_f1074x89 (P : Params) : Obj := ⟨(.type "tuple"), none, .seq (List.toArray [(.str (.ofString "iso8859_2") 388), (.str (.ofString "ISO8859-2") 389)]) 0, #[]⟩
noncomputable def ob_f1074x90 (P : Params) : Obj := ⟨(.type "tuple"), none, .seq (List.toArray [(.str (.ofString "iso8859_3") 391), (.str (.ofString "ISO8859-3") 392)]) 0, #[]⟩
noncomputable def ob_f1074x91 (P : Params) : Obj := ⟨(.type "tuple"), none, .seq (List.toArray [(.str (.ofString "iso8859_4") 394), (.str (.ofString "ISO8859-4") 395)]) 0, #[]⟩
noncomputable def ob_f1074x92 (P : Params) : Obj := ⟨(.type "tuple"), none, .seq (List.toArray [(.str (.ofString "iso8859_5") 397), (.str (.ofString "ISO8859-5") 398)]) 0, #[]⟩
noncomputable def ob_f1074x93 (P : Params) : Obj := ⟨(.type "tuple"), none, .seq (List.toArray [(.str (.ofString "iso8859_6") 400), (.str (.ofString "ISO8859-6") 401)]) 0, #[]⟩
noncomputable def ob_f1074x94 (P : Params) : Obj := ⟨(.type "tuple"), none, .seq (List.toArray [(.str (.ofString "iso8859_7") 403), (.str (.ofString "ISO8859-7") 404)]) 0, #[]⟩
noncomputable def ob_f1074x95 (P : Params) : Obj := ⟨(.type "tuple"), none, .seq (List.toArray [(.str (.ofString "iso8859_8") 406), (.str (.ofString "ISO8859-8") 407)]) 0, #[]⟩
noncomputable def ob_f1074x96 (P : Params) : Obj := ⟨(.type "tuple"), none, .seq (List.toArray [(.str (.ofString "iso8859_9") 409), (.str (.ofString "ISO8859-9") 410)]) 0, #[]⟩
noncomputable def ob_f1074x97 (P : Params) : Obj := ⟨(.type "tuple"), none, .seq (List.toArray [(.str (.ofString "iso2022_jp") 412), (.str (.ofString "JIS7") 413)]) 0, #[]⟩
noncomputable def ob_f1074x98 (P : Params) : Obj := ⟨(.type "tuple"), none, .seq (List.toArray [(.str (.ofString "shift_jis") 415), (.str (.ofString "SJIS") 416)]) 0, #[]⟩
noncomputable def ob_f1074x99 (P : Params) : Obj := ⟨(.type "tuple"), none, .seq (List.toArray [(.str (.ofString "tactis") 418), (.str (.ofString "TACTIS") 419)]) 0, #[]⟩
noncomputable def ob_f1074x100 (P : Params) : Obj := ⟨(.type "tuple"), none, .seq (List.toArray [(.str (.ofString "euc_jp") 421), (.str (.ofString "eucJP") 422)]) 0, #[]⟩
noncomputable def ob_f1074x101 (P : Params) : Obj := ⟨(.type "tuple"), none, .seq (List.toArray [(.str (.ofString "euc_kr") 423), (.str (.ofString "eucKR") 424)]) 0, #[]⟩
noncomputable def ob_f1074x102 (P : Params) : Obj := ⟨(.type "tuple"), none, .seq (List.toArray [(.str (.ofString "utf_8") 425), (.str (.ofString "UTF-8") 426)]) 0, #[]⟩
noncomputable def ob_f1074x103 (P : Params) : Obj := ⟨(.type "tuple"), none, .seq (List.toArray [(.str (.ofString "koi8_r") 427), (.str (.ofString "KOI8-R") 428)]) 0, #[]⟩
noncomputable def ob_f1074x104 (P : Params) : Obj := ⟨(.type "tuple"), none, .seq (List.toArray [(.str (.ofString "koi8_t") 429), (.str (.ofString "KOI8-T") 430)]) 0, #[]⟩
noncomputable def ob_f1074x105 (P : Params) : Obj := ⟨(.type "tuple"), none, .seq (List.toArray [(.str (.ofString "koi8_u") 431), (.str (.ofString "KOI8-U") 432)]) 0, #[]⟩
noncomputable def ob_f1074x106 (P : Params) : Obj := ⟨(.type "tuple"), none, .seq (List.toArray [(.str (.ofString "kz1048") 433), (.str (.ofString "RK1048") 434)]) 0, #[]⟩
noncomputable def ob_f1074x107 (P : Params) : Obj := ⟨(.type "tuple"), none, .seq (List.toArray [(.str (.ofString "cp1251") 435), (.str (.ofString "CP1251") 436)]) 0, #[]⟩
noncomputable def ob_f1074x108 (P : Params) : Obj := ⟨(.type "tuple"), none, .seq (List.toArray [(.str (.ofString "cp1255") 437), (.str (.ofString "CP1255") 438)]) 0, #[]⟩
noncomputable def ob_f1074x109 (P : Params) : Obj := ⟨(.type "tuple"), none, .seq (List.toArray [(.str (.ofString "cp1256") 439), (.str (.ofString "CP1256") 440)]) 0, #[]⟩
noncomputable def bt86 (P : Params) : BT := (.node (ob_ox15 P) (.node (ob_bx31 P) (.node (ob_f50x63 P) .nil .nil) (.node (ob_f1074x95 P) .nil .nil)) (.node (ob_p4x47 P) (.node (ob_f1074x79 P) .nil .nil) .nil))
noncomputable def bt87 (P : Params) : BT := (.node (ob_ox23 P) (.node (ob_p4x39 P) (.node (ob_f1074x71 P) .nil .nil) (.node (ob_f1074x103 P) .nil .nil)) (.node (ob_p4x55 P) (.node (ob_f1074x87 P) .nil .nil) .nil))
noncomputable def bt88 (P : Params) : BT := (.node (ob_ox19 P) (.node (ob_p4x35 P) (.node (ob_f1074x67 P) .nil .nil) (.node (ob_f1074x99 P) .nil .nil)) (.node (ob_p4x51 P) (.node (ob_f1074x83 P) .nil .nil) .nil))
noncomputable def bt89 (P : Params) : BT := (.node (ob_ox27 P) (.node (ob_p4x43 P) (.node (ob_f1074x75 P) .nil .nil) (.node (ob_f1074x107 P) .nil .nil)) (.node (ob_p4x59 P) (.node (ob_f1074x91 P) .nil .nil) .nil))
noncomputable def bt90 (P : Params) : BT := (.node (ob_p5x3 P) (.node (PySem.W.boot_o_7 P) (bt86 P) (bt87 P)) (.node (ob_ox11 P) (bt88 P) (bt89 P)))
noncomputable def bt91 (P : Params) : BT := (.node (ob_ox17 P) (.node (ob_p4x33 P) (.node (ob_f1074x65 P) .nil .nil) (.node (ob_f1074x97 P) .nil .nil)) (.node (ob_p4x49 P) (.node (ob_f1074x81 P) .nil .nil) .nil))
noncomputable def bt92 (P : Params) : BT := (.node (ob_ox25 P) (.node (ob_p4x41 P) (.node (ob_f1074x73 P) .nil .nil) (.node (ob_f1074x105 P) .nil .nil)) (.node (ob_p4x57 P) (.node (ob_f1074x89 P) .nil .nil) .nil))
noncomputable def bt93 (P : Params) : BT := (.node (ob_ox21 P) (.node (ob_p4x37 P) (.node (ob_f1074x69 P) .nil .nil) (.node (ob_f1074x101 P) .nil .nil)) (.node (ob_p4x53 P) (.node (ob_f1074x85 P) .nil .nil) .nil))
noncomputable def bt94 (P : Params) : BT := (.node (ob_p4x29 P) (.node (ob_p4x45 P) (.node (ob_f1074x77 P) .nil .nil) (.node (ob_f1074x109 P) .nil .nil)) (.node (ob_p5x61 P) (.node (ob_f1074x93 P) .nil .nil) .nil))
noncomputable def bt95 (P : Params) : BT := (.node (PySem.W.boot_o_5 P) (.node (PySem.W.boot_o_9 P) (bt91 P) (bt92 P)) (.node (ob_ox13 P) (bt93 P) (bt94 P)))
noncomputable def bt96 (P : Params) : BT := (.node (ob_ox16 P) (.node (ob_p4x32 P) (.node (ob_f1074x64 P) .nil .nil) (.node (ob_f1074x96 P) .nil .nil)) (.node (ob_p4x48 P) (.node (ob_f1074x80 P) .nil .nil) .nil))
noncomputable def bt97 (P : Params) : BT := (.node (ob_ox24 P) (.node (ob_p4x40 P) (.node (ob_f1074x72 P) .nil .nil) (.node (ob_f1074x104 P) .nil .nil)) (.node (ob_p4x56 P) (.node (ob_f1074x88 P) .nil .nil) .nil))
noncomputable def bt98 (P : Params) : BT := (.node (ob_ox20 P) (.node (ob_p4x36 P) (.node (ob_f1074x68 P) .nil .nil) (.node (ob_f1074x100 P) .nil .nil)) (.node (ob_p4x52 P) (.node (ob_f1074x84 P) .nil .nil) .nil))
noncomputable def bt99 (P : Params) : BT := (.node (ob_bx28 P) (.node (ob_p4x44 P) (.node (ob_f1074x76 P) .nil .nil) (.node (ob_f1074x108 P) .nil .nil)) (.node (ob_p5x60 P) (.node (ob_f1074x92 P) .nil .nil) .nil))
noncomputable def bt100 (P : Params) : BT := (.node (PySem.W.boot_o_4 P) (.node (PySem.W.boot_o_8 P) (bt96 P) (bt97 P)) (.node (ob_ox12 P) (bt98 P) (bt99 P)))
noncomputable def bt101 (P : Params) : BT := (.node (ob_ox18 P) (.node (ob_p4x34 P) (.node (ob_f1074x66 P) .nil .nil) (.node (ob_f1074x98 P) .nil .nil)) (.node (ob_p4x50 P) (.node (ob_f1074x82 P) .nil .nil) .nil))
noncomputable def bt102 (P : Params) : BT := (.node (ob_ox26 P) (.node (ob_p4x42 P) (.node (ob_f1074x74 P) .nil .nil) (.node (ob_f1074x106 P) .nil .nil)) (.node (ob_p4x58 P) (.node (ob_f1074x90 P) .nil .nil) .nil))
noncomputable def bt103 (P : Params) : BT := (.node (ob_ox22 P) (.node (ob_p4x38 P) (.node (ob_f1074x70 P) .nil .nil) (.node (ob_f1074x102 P) .nil .nil)) (.node (ob_p4x54 P) (.node (ob_f1074x86 P) .nil .nil) .nil))
noncomputable def bt104 (P : Params) : BT := (.node (ob_bx30 P) (.node (ob_p4x46 P) (.node (ob_f1074x78 P) .nil .nil) .nil) (.node (ob_p5x62 P) (.node (ob_f1074x94 P) .nil .nil) .nil))
noncomputable def bt105 (P : Params) : BT := (.node (PySem.W.boot_o_6 P) (.node (PySem.W.boot_o_10 P) (bt101 P) (bt102 P)) (.node (ob_ox14 P) (bt103 P) (bt104 P)))
noncomputable def bt106 (P : Params) : BT := (.node (ob_ox0 P) (.node (ob_ox1 P) (bt90 P) (bt95 P)) (.node (ob_ox2 P) (bt100 P) (bt105 P)))
noncomputable def tree_f1074 (P : Params) : BT := (bt106 P)
noncomputable def S_f1074 (w : World) (os : OsState) : SharedT := ⟨tree_f1074 w.params, 110, {}, #[], {}, 452, os⟩
noncomputable def ob_f3041x65 (P : Params) : Obj := ⟨(.type "dict_itemiterator"), none, .fields (List.toArray [(.int 66 0), (.bool true), .none, (.int 44 0), (.int 44 0), (.int 44 0), (.str (.ofString "437") 319), (.str (.ofString "C") 320)]), #[]⟩
noncomputable def ob_f3041x110 (P : Params) : Obj := ⟨(.type "tuple"), none, .seq (List.toArray []) 0, #[]⟩
noncomputable def ob_f3041x111 (P : Params) : Obj := ⟨(.type "StopIteration"), none, .fields (List.toArray [(.ref 110), .none, .none, .none, (.bool false), .none]), #[]⟩
noncomputable def ob_f3041x112 (P : Params) : Obj := ⟨(.type "list"), none, .seq (List.toArray [(.ref 66), (.ref 76), (.ref 79), (.ref 77), (.ref 78), (.ref 71), (.ref 80), (.ref 67), (.ref 107), (.ref 108), (.ref 109), (.ref 68), (.ref 100), (.ref 101), (.ref 97), (.ref 82), (.ref 83), (.ref 84), (.ref 85), (.ref 86), (.ref 87), (.ref 88), (.ref 89), (.ref 90), (.ref 91), (.ref 92), (.ref 93), (.ref 94), (.ref 95), (.ref 96), (.ref 69), (.ref 70), (.ref 103), (.ref 104), (.ref 105), (.ref 72), (.ref 106), (.ref 81), (.ref 73), (.ref 74), (.ref 75), (.ref 98), (.ref 99), (.ref 102)]) 2, #[]⟩
noncomputable def ob_f3041x113 (P : Params) : Obj := ⟨(.type "tuple"), none, .seq (List.toArray [(.ref 66), (.ref 67), (.ref 68), (.ref 69), (.ref 70), (.ref 71), (.ref 72), (.ref 73), (.ref 74), (.ref 75), (.ref 76), (.ref 77), (.ref 78), (.ref 79), (.ref 80), (.ref 81), (.ref 82), (.ref 83), (.ref 84), (.ref 85), (.ref 86), (.ref 87), (.ref 88), (.ref 89), (.ref 90), (.ref 91), (.ref 92), (.ref 93), (.ref 94), (.ref 95), (.ref 96), (.ref 97), (.ref 98), (.ref 99), (.ref 100), (.ref 101), (.ref 102), (.ref 103), (.ref 104), (.ref 105), (.ref 106), (.ref 107), (.ref 108), (.ref 109)]) 0, #[]⟩
noncomputable def ob_f3041x114 (P : Params) : Obj := ⟨(.type "list"), none, .seq (List.toArray []) 0, #[]⟩
noncomputable def ob_f3041x115 (P : Params) : Obj := ⟨(.type "list_iterator"), none, .fields (List.toArray [(.ref 112), (.int 0 0)]), #[]⟩
noncomputable def bt107 (P : Params) : BT := (.node (ob_ox15 P) (.node (ob_bx31 P) (.node (ob_f50x63 P) .nil .nil) (.node (ob_f1074x95 P) .nil .nil)) (.node (ob_p4x47 P) (.node (ob_f1074x79 P) .nil .nil) (.node (ob_f3041x111 P) .nil .nil)))
noncomputable def bt108 (P : Params) : BT := (.node (ob_ox19 P) (.node (ob_p4x35 P) (.node (ob_f1074x67 P) .nil .nil) (.node (ob_f1074x99 P) .nil .nil)) (.node (ob_p4x51 P) (.node (ob_f1074x83 P) .nil .nil) (.node (ob_f3041x115 P) .nil .nil)))
noncomputable def bt109 (P : Params) : BT := (.node (ob_p5x3 P) (.node (PySem.W.boot_o_7 P) (bt107 P) (bt87 P)) (.node (ob_ox11 P) (bt108 P) (bt89 P)))
noncomputable def bt110 (P : Params) : BT := (.node (ob_ox17 P) (.node (ob_p4x33 P) (.node (ob_f3041x65 P) .nil .nil) (.node (ob_f1074x97 P) .nil .nil)) (.node (ob_p4x49 P) (.node (ob_f1074x81 P) .nil .nil) (.node (ob_f3041x113 P) .nil .nil)))
noncomputable def bt111 (P : Params) : BT := (.node (PySem.W.boot_o_5 P) (.node (PySem.W.boot_o_9 P) (bt110 P) (bt92 P)) (.node (ob_ox13 P) (bt93 P) (bt94 P)))
noncomputable def bt112 (P : Params) : BT := (.node (ob_ox16 P) (.node (ob_p4x32 P) (.node (ob_f1074x64 P) .nil .nil) (.node (ob_f1074x96 P) .nil .nil)) (.node (ob_p4x48 P) (.node (ob_f1074x80 P) .nil .nil) (.node (ob_f3041x112 P) .nil .nil)))
noncomputable def bt113 (P : Params) : BT := (.node (PySem.W.boot_o_4 P) (.node (PySem.W.boot_o_8 P) (bt112 P) (bt97 P)) (.node (ob_ox12 P) (bt98 P) (bt99 P)))
noncomputable def bt114 (P : Params) : BT := (.node (ob_ox18 P) (.node (ob_p4x34 P) (.node (ob_f1074x66 P) .nil .nil) (.node (ob_f1074x98 P) .nil .nil)) (.node (ob_p4x50 P) (.node (ob_f1074x82 P) .nil .nil) (.node (ob_f3041x114 P) .nil .nil)))
noncomputable def bt115 (P : Params) : BT := (.node (ob_bx30 P) (.node (ob_p4x46 P) (.node (ob_f1074x78 P) .nil .nil) (.node (ob_f3041x110 P) .nil .nil)) (.node (ob_p5x62 P) (.node (ob_f1074x94 P) .nil .nil) .nil))
noncomputable def bt116 (P : Params) : BT := (.node (PySem.W.boot_o_6 P) (.node (PySem.W.boot_o_10 P) (bt114 P) (bt102 P)) (.node (ob_ox14 P) (bt103 P) (bt115 P)))
noncomputable def bt117 (P : Params) : BT := (.node (ob_ox0 P) (.node (ob_ox1 P) (bt109 P) (bt111 P)) (.node (ob_ox2 P) (bt113 P) (bt116 P)))
noncomputable def tree_f3041 (P : Params) : BT := (bt117 P)
noncomputable def S_f3041 (w : World) (os : OsState) : SharedT := ⟨tree_f3041 w.params, 116, {}, #[], {}, 452, os⟩
noncomputable def dl118 (P : Params) : List DictEntry := [⟨PyData.keyHash P (.ofString "__cached__"), (.str (.ofString "__cached__") 174), .none⟩, ⟨PyData.keyHash P (.ofString "_sre"), (.str (.ofString "_sre") 275), (.ref 12)⟩, ⟨PyData.keyHash P (.ofString "_wall"), (.str (.ofString "_wall") 288), (.ref 38)⟩, ⟨PyData.keyHash P (.ofString "_strcoll"), (.str (.ofString "_strcoll") 298), (.ref 45)⟩, ⟨PyData.keyHash P (.ofString "_replace_encoding"), (.str (.ofString "_replace_encoding") 308), (.ref 52)⟩, ⟨PyData.keyHash P (.ofString "_append_modifier"), (.str (.ofString "_append_modifier") 318), (.ref 59)⟩, ⟨PyData.keyHash P (.ofString "locale_encoding_alias"), (.str (.ofString "locale_encoding_alias") 451), (.ref 60)⟩, ⟨PyData.keyHash P (.ofString "k"), (.str (.ofString "k") 452), (.str (.ofString "euckr") 535)⟩]
noncomputable def dl119 (P : Params) : List DictEntry := [⟨PyData.keyHash P (.ofString "v"), (.str (.ofString "v") 453), (.str (.ofString "eucKR") 424)⟩]
noncomputable def ob_f4815x3 (P : Params) : Obj := ⟨(.type "dict"), none, .dict (List.toArray (dl38 P ++ (dl118 P ++ (dl119 P)))) 17, #[]⟩
noncomputable def dl120 (P : Params) : List DictEntry := [⟨PyData.keyHash P (.ofString "kz1048"), (.str (.ofString "kz1048") 433), (.str (.ofString "RK1048") 434)⟩, ⟨PyData.keyHash P (.ofString "cp1251"), (.str (.ofString "cp1251") 435), (.str (.ofString "CP1251") 436)⟩, ⟨PyData.keyHash P (.ofString "cp1255"), (.str (.ofString "cp1255") 437), (.str (.ofString "CP1255") 438)⟩, ⟨PyData.keyHash P (.ofString "cp1256"), (.str (.ofString "cp1256") 439), (.str (.ofString "CP1256") 440)⟩, ⟨PyData.keyHash P (.ofString "eucjp"), (.str (.ofString "eucjp") 528), (.str (.ofString "eucJP") 422)⟩, ⟨PyData.keyHash P (.ofString "euckr"), (.str (.ofString "euckr") 535), (.str (.ofString "eucKR") 424)⟩]
noncomputable def ob_f4815x60 (P : Params) : Obj := ⟨(.type "dict"), none, .dict (List.toArray (dl62 P ++ (dl63 P ++ (dl64 P ++ (dl65 P ++ (dl66 P ++ (dl120 P))))))) 46, #[]⟩
noncomputable def ob_f4815x115 (P : Params) : Obj := ⟨(.type "list_iterator"), none, .fields (List.toArray [(.ref 112), (.int 14 0)]), #[]⟩
noncomputable def ob_f4815x116 (P : Params) : Obj := ⟨(.type "tuple_iterator"), none, .fields (List.toArray [.none, (.int 2 0)]), #[]⟩
noncomputable def ob_f4815x117 (P : Params) : Obj := ⟨(.type "tuple"), none, .seq (List.toArray []) 0, #[]⟩
noncomputable def ob_f4815x118 (P : Params) : Obj := ⟨(.type "StopIteration"), none, .fields (List.toArray [(.ref 117), .none, .none, .none, (.bool false), .none]), #[]⟩
noncomputable def ob_f4815x119 (P : Params) : Obj := ⟨(.type "tuple_iterator"), none, .fields (List.toArray [.none, (.int 2 0)]), #[]⟩
noncomputable def ob_f4815x120 (P : Params) : Obj := ⟨(.type "tuple"), none, .seq (List.toArray []) 0, #[]⟩
noncomputable def ob_f4815x121 (P : Params) : Obj := ⟨(.type "StopIteration"), none, .fields (List.toArray [(.ref 120), .none, .none, .none, (.bool false), .none]), #[]⟩
noncomputable def ob_f4815x122 (P : Params) : Obj := ⟨(.type "tuple_iterator"), none, .fields (List.toArray [.none, (.int 2 0)]), #[]⟩
noncomputable def ob_f4815x123 (P : Params) : Obj := ⟨(.type "tuple"), none, .seq (List.toArray []) 0, #[]⟩
noncomputable def ob_f4815x124 (P : Params) : Obj := ⟨(.type "StopIteration"), none, .fields (List.toArray [(.ref 123), .none, .none, .none, (.bool false), .none]), #[]⟩
noncomputable def ob_f4815x125 (P : Params) : Obj := ⟨(.type "tuple_iterator"), none, .fields (List.toArray [.none, (.int 2 0)]), #[]⟩
noncomputable def ob_f4815x126 (P : Params) : Obj := ⟨(.type "tuple"), none, .seq (List.toArray []) 0, #[]⟩
noncomputable def ob_f4815x127 (P : Params) : Obj := ⟨(.type "StopIteration"), none, .fields (List.toArray [(.ref 126), .none, .none, .none, (.bool false), .none]), #[]⟩
noncomputable def ob_f4815x128 (P : Params) : Obj := ⟨(.type "tuple_iterator"), none, .fields (List.toArray [.none, (.int 2 0)]), #[]⟩
noncomputable def ob_f4815x129 (P : Params) : Obj := ⟨(.type "tuple"), none, .seq (List.toArray []) 0, #[]⟩
noncomputable def ob_f4815x130 (P : Params) : Obj := ⟨(.type "StopIteration"), none, .fields (List.toArray [(.ref 129), .none, .none, .none, (.bool false), .none]), #[]⟩
noncomputable def ob_f4815x131 (P : Params) : Obj := ⟨(.type "tuple_iterator"), none, .fields (List.toArray [.none, (.int 2 0)]), #[]⟩
noncomputable def ob_f4815x132 (P : Params) : Obj := ⟨(.type "tuple"), none, .seq (List.toArray []) 0, #[]⟩
noncomputable def ob_f4815x133 (P : Params) : Obj := ⟨(.type "StopIteration"), none, .fields (List.toArray [(.ref 132), .none, .none, .none, (.bool false), .none]), #[]⟩
noncomputable def ob_f4815x134 (P : Params) : Obj := ⟨(.type "tuple_iterator"), none, .fields (List.toArray [.none, (.int 2 0)]), #[]⟩
noncomputable def ob_f4815x135 (P : Params) : Obj := ⟨(.type "tuple"), none, .seq (List.toArray []) 0, #[]⟩
noncomputable def ob_f4815x136 (P : Params) : Obj := ⟨(.type "StopIteration"), none, .fields (List.toArray [(.ref 135), .none, .none, .none, (.bool false), .none]), #[]⟩
noncomputable def ob_f4815x137 (P : Params) : Obj := ⟨(.type "tuple_iterator"), none, .fields (List.toArray [.none, (.int 2 0)]), #[]⟩
noncomputable def ob_f4815x138 (P : Params) : Obj := ⟨(.type "tuple"), none, .seq (List.toArray []) 0, #[]⟩
noncomputable def ob_f4815x139 (P : Params) : Obj := ⟨(.type "StopIteration"), none, .fields (List.toArray [(.ref 138), .none, .none, .none, (.bool false), .none]), #[]⟩
noncomputable def ob_f4815x140 (P : Params) : Obj := ⟨(.type "tuple_iterator"), none, .fields (List.toArray [.none, (.int 2 0)]), #[]⟩
noncomputable def ob_f4815x141 (P : Params) : Obj := ⟨(.type "tuple"), none, .seq (List.toArray []) 0, #[]⟩
noncomputable def ob_f4815x142 (P : Params) : Obj := ⟨(.type "StopIteration"), none, .fields (List.toArray [(.ref 141), .none, .none, .none, (.bool false), .none]), #[]⟩
noncomputable def ob_f4815x143 (P : Params) : Obj := ⟨(.type "tuple_iterator"), none, .fields (List.toArray [.none, (.int 2 0)]), #[]⟩
noncomputable def ob_f4815x144 (P : Params) : Obj := ⟨(.type "tuple"), none, .seq (List.toArray []) 0, #[]⟩
noncomputable def ob_f4815x145 (P : Params) : Obj := ⟨(.type "StopIteration"), none, .fields (List.toArray [(.ref 144), .none, .none, .none, (.bool false), .none]), #[]⟩
noncomputable def ob_f4815x146 (P : Params) : Obj := ⟨(.type "tuple_iterator"), none, .fields (List.toArray [.none, (.int 2 0)]), #[]⟩
noncomputable def ob_f4815x147 (P : Params) : Obj := ⟨(.type "tuple"), none, .seq (List.toArray []) 0, #[]⟩
noncomputable def ob_f4815x148 (P : Params) : Obj := ⟨(.type "StopIteration"), none, .fields (List.toArray [(.ref 147), .none, .none, .none, (.bool false), .none]), #[]⟩
noncomputable def ob_f4815x149 (P : Params) : Obj := ⟨(.type "tuple_iterator"), none, .fields (List.toArray [.none, (.int 2 0)]), #[]⟩
noncomputable def ob_f4815x150 (P : Params) : Obj := ⟨(.type "tuple"), none, .seq (List.toArray []) 0, #[]⟩
noncomputable def ob_f4815x151 (P : Params) : Obj := ⟨(.type "StopIteration"), none, .fields (List.toArray [(.ref 150), .none, .none, .none, (.bool false), .none]), #[]⟩
noncomputable def ob_f4815x152 (P : Params) : Obj := ⟨(.type "tuple_iterator"), none, .fields (List.toArray [.none, (.int 2 0)]), #[]⟩
noncomputable def ob_f4815x153 (P : Params) : Obj := ⟨(.type "tuple"), none, .seq (List.toArray []) 0, #[]⟩
noncomputable def ob_f4815x154 (P : Params) : Obj := ⟨(.type "StopIteration"), none, .fields (List.toArray [(.ref 153), .none, .none, .none, (.bool false), .none]), #[]⟩
noncomputable def ob_f4815x155 (P : Params) : Obj := ⟨(.type "tuple_iterator"), none, .fields (List.toArray [.none, (.int 2 0)]), #[]⟩
noncomputable def ob_f4815x156 (P : Params) : Obj := ⟨(.type "tuple"), none, .seq (List.toArray []) 0, #[]⟩
noncomputable def ob_f4815x157 (P : Params) : Obj := ⟨(.type "StopIteration"), none, .fields (List.toArray [(.ref 156), .none, .none, .none, (.bool false), .none]), #[]⟩
noncomputable def bt121 (P : Params) : BT := (.node (ob_f50x63 P) (.node (ob_f4815x127 P) .nil .nil) .nil)
noncomputable def bt122 (P : Params) : BT := (.node (ob_f1074x79 P) (.node (ob_f4815x143 P) .nil .nil) .nil)
noncomputable def bt123 (P : Params) : BT := (.node (ob_ox15 P) (.node (ob_bx31 P) (bt121 P) (.node (ob_f1074x95 P) .nil .nil)) (.node (ob_p4x47 P) (bt122 P) (.node (ob_f3041x111 P) .nil .nil)))
noncomputable def bt124 (P : Params) : BT := (.node (ob_f1074x71 P) (.node (ob_f4815x135 P) .nil .nil) .nil)
noncomputable def bt125 (P : Params) : BT := (.node (ob_f1074x87 P) (.node (ob_f4815x151 P) .nil .nil) .nil)
noncomputable def bt126 (P : Params) : BT := (.node (ob_ox23 P) (.node (ob_p4x39 P) (bt124 P) (.node (ob_f1074x103 P) .nil .nil)) (.node (ob_p4x55 P) (bt125 P) (.node (ob_f4815x119 P) .nil .nil)))
noncomputable def bt127 (P : Params) : BT := (.node (ob_f1074x67 P) (.node (ob_f4815x131 P) .nil .nil) .nil)
noncomputable def bt128 (P : Params) : BT := (.node (ob_f1074x83 P) (.node (ob_f4815x147 P) .nil .nil) .nil)
noncomputable def bt129 (P : Params) : BT := (.node (ob_ox19 P) (.node (ob_p4x35 P) (bt127 P) (.node (ob_f1074x99 P) .nil .nil)) (.node (ob_p4x51 P) (bt128 P) (.node (ob_f4815x115 P) .nil .nil)))
noncomputable def bt130 (P : Params) : BT := (.node (ob_f1074x75 P) (.node (ob_f4815x139 P) .nil .nil) .nil)
noncomputable def bt131 (P : Params) : BT := (.node (ob_f1074x91 P) (.node (ob_f4815x155 P) .nil .nil) .nil)
noncomputable def bt132 (P : Params) : BT := (.node (ob_ox27 P) (.node (ob_p4x43 P) (bt130 P) (.node (ob_f1074x107 P) .nil .nil)) (.node (ob_p4x59 P) (bt131 P) (.node (ob_f4815x123 P) .nil .nil)))
noncomputable def bt133 (P : Params) : BT := (.node (ob_f4815x3 P) (.node (PySem.W.boot_o_7 P) (bt123 P) (bt126 P)) (.node (ob_ox11 P) (bt129 P) (bt132 P)))
noncomputable def bt134 (P : Params) : BT := (.node (ob_f3041x65 P) (.node (ob_f4815x129 P) .nil .nil) .nil)
noncomputable def bt135 (P : Params) : BT := (.node (ob_f1074x81 P) (.node (ob_f4815x145 P) .nil .nil) .nil)
noncomputable def bt136 (P : Params) : BT := (.node (ob_ox17 P) (.node (ob_p4x33 P) (bt134 P) (.node (ob_f1074x97 P) .nil .nil)) (.node (ob_p4x49 P) (bt135 P) (.node (ob_f3041x113 P) .nil .nil)))
noncomputable def bt137 (P : Params) : BT := (.node (ob_f1074x73 P) (.node (ob_f4815x137 P) .nil .nil) .nil)
noncomputable def bt138 (P : Params) : BT := (.node (ob_f1074x89 P) (.node (ob_f4815x153 P) .nil .nil) .nil)
noncomputable def bt139 (P : Params) : BT := (.node (ob_ox25 P) (.node (ob_p4x41 P) (bt137 P) (.node (ob_f1074x105 P) .nil .nil)) (.node (ob_p4x57 P) (bt138 P) (.node (ob_f4815x121 P) .nil .nil)))
noncomputable def bt140 (P : Params) : BT := (.node (ob_f1074x69 P) (.node (ob_f4815x133 P) .nil .nil) .nil)
noncomputable def bt141 (P : Params) : BT := (.node (ob_f1074x85 P) (.node (ob_f4815x149 P) .nil .nil) .nil)
noncomputable def bt142 (P : Params) : BT := (.node (ob_ox21 P) (.node (ob_p4x37 P) (bt140 P) (.node (ob_f1074x101 P) .nil .nil)) (.node (ob_p4x53 P) (bt141 P) (.node (ob_f4815x117 P) .nil .nil)))
noncomputable def bt143 (P : Params) : BT := (.node (ob_f1074x77 P) (.node (ob_f4815x141 P) .nil .nil) .nil)
noncomputable def bt144 (P : Params) : BT := (.node (ob_f1074x93 P) (.node (ob_f4815x157 P) .nil .nil) .nil)
noncomputable def bt145 (P : Params) : BT := (.node (ob_p4x29 P) (.node (ob_p4x45 P) (bt143 P) (.node (ob_f1074x109 P) .nil .nil)) (.node (ob_p5x61 P) (bt144 P) (.node (ob_f4815x125 P) .nil .nil)))
noncomputable def bt146 (P : Params) : BT := (.node (PySem.W.boot_o_5 P) (.node (PySem.W.boot_o_9 P) (bt136 P) (bt139 P)) (.node (ob_ox13 P) (bt142 P) (bt145 P)))
noncomputable def bt147 (P : Params) : BT := (.node (ob_f1074x64 P) (.node (ob_f4815x128 P) .nil .nil) .nil)
noncomputable def bt148 (P : Params) : BT := (.node (ob_f1074x80 P) (.node (ob_f4815x144 P) .nil .nil) .nil)
noncomputable def bt149 (P : Params) : BT := (.node (ob_ox16 P) (.node (ob_p4x32 P) (bt147 P) (.node (ob_f1074x96 P) .nil .nil)) (.node (ob_p4x48 P) (bt148 P) (.node (ob_f3041x112 P) .nil .nil)))
noncomputable def bt150 (P : Params) : BT := (.node (ob_f1074x72 P) (.node (ob_f4815x136 P) .nil .nil) .nil)
noncomputable def bt151 (P : Params) : BT := (.node (ob_f1074x88 P) (.node (ob_f4815x152 P) .nil .nil) .nil)
noncomputable def bt152 (P : Params) : BT := (.node (ob_ox24 P) (.node (ob_p4x40 P) (bt150 P) (.node (ob_f1074x104 P) .nil .nil)) (.node (ob_p4x56 P) (bt151 P) (.node (ob_f4815x120 P) .nil .nil)))
noncomputable def bt153 (P : Params) : BT := (.node (ob_f1074x68 P) (.node (ob_f4815x132 P) .nil .nil) .nil)
noncomputable def bt154 (P : Params) : BT := (.node (ob_f1074x84 P) (.node (ob_f4815x148 P) .nil .nil) .nil)
noncomputable def bt155 (P : Params) : BT := (.node (ob_ox20 P) (.node (ob_p4x36 P) (bt153 P) (.node (ob_f1074x100 P) .nil .nil)) (.node (ob_p4x52 P) (bt154 P) (.node (ob_f4815x116 P) .nil .nil)))
noncomputable def bt156 (P : Params) : BT := (.node (ob_f1074x76 P) (.node (ob_f4815x140 P) .nil .nil) .nil)
noncomputable def bt157 (P : Params) : BT := (.node (ob_f1074x92 P) (.node (ob_f4815x156 P) .nil .nil) .nil)
noncomputable def bt158 (P : Params) : BT := (.node (ob_bx28 P) (.node (ob_p4x44 P) (bt156 P) (.node (ob_f1074x108 P) .nil .nil)) (.node (ob_f4815x60 P) (bt157 P) (.node (ob_f4815x124 P) .nil .nil)))
noncomputable def bt159 (P : Params) : BT := (.node (PySem.W.boot_o_4 P) (.node (PySem.W.boot_o_8 P) (bt149 P) (bt152 P)) (.node (ob_ox12 P) (bt155 P) (bt158 P)))
noncomputable def bt160 (P : Params) : BT := (.node (ob_f1074x66 P) (.node (ob_f4815x130 P) .nil .nil) .nil)
noncomputable def bt161 (P : Params) : BT := (.node (ob_f1074x82 P) (.node (ob_f4815x146 P) .nil .nil) .nil)
noncomputable def bt162 (P : Params) : BT := (.node (ob_ox18 P) (.node (ob_p4x34 P) (bt160 P) (.node (ob_f1074x98 P) .nil .nil)) (.node (ob_p4x50 P) (bt161 P) (.node (ob_f3041x114 P) .nil .nil)))
noncomputable def bt163 (P : Params) : BT := (.node (ob_f1074x74 P) (.node (ob_f4815x138 P) .nil .nil) .nil)
noncomputable def bt164 (P : Params) : BT := (.node (ob_f1074x90 P) (.node (ob_f4815x154 P) .nil .nil) .nil)
noncomputable def bt165 (P : Params) : BT := (.node (ob_ox26 P) (.node (ob_p4x42 P) (bt163 P) (.node (ob_f1074x106 P) .nil .nil)) (.node (ob_p4x58 P) (bt164 P) (.node (ob_f4815x122 P) .nil .nil)))
noncomputable def bt166 (P : Params) : BT := (.node (ob_f1074x70 P) (.node (ob_f4815x134 P) .nil .nil) .nil)
noncomputable def bt167 (P : Params) : BT := (.node (ob_f1074x86 P) (.node (ob_f4815x150 P) .nil .nil) .nil)
noncomputable def bt168 (P : Params) : BT := (.node (ob_ox22 P) (.node (ob_p4x38 P) (bt166 P) (.node (ob_f1074x102 P) .nil .nil)) (.node (ob_p4x54 P) (bt167 P) (.node (ob_f4815x118 P) .nil .nil)))
noncomputable def bt169 (P : Params) : BT := (.node (ob_f1074x78 P) (.node (ob_f4815x142 P) .nil .nil) .nil)
noncomputable def bt170 (P : Params) : BT := (.node (ob_bx30 P) (.node (ob_p4x46 P) (bt169 P) (.node (ob_f3041x110 P) .nil .nil)) (.node (ob_p5x62 P) (.node (ob_f1074x94 P) .nil .nil) (.node (ob_f4815x126 P) .nil .nil)))
noncomputable def bt171 (P : Params) : BT := (.node (PySem.W.boot_o_6 P) (.node (PySem.W.boot_o_10 P) (bt162 P) (bt165 P)) (.node (ob_ox14 P) (bt168 P) (bt170 P)))
noncomputable def bt172 (P : Params) : BT := (.node (ob_ox0 P) (.node (ob_ox1 P) (bt133 P) (bt146 P)) (.node (ob_ox2 P) (bt159 P) (bt171 P)))
noncomputable def tree_f4815 (P : Params) : BT := (bt172 P)
noncomputable def S_f4815 (w : World) (os : OsState) : SharedT := ⟨tree_f4815 w.params, 158, {}, #[], {}, 538, os⟩
noncomputable def dl173 (P : Params) : List DictEntry := [⟨PyData.keyHash P (.ofString "__cached__"), (.str (.ofString "__cached__") 174), .none⟩, ⟨PyData.keyHash P (.ofString "_sre"), (.str (.ofString "_sre") 275), (.ref 12)⟩, ⟨PyData.keyHash P (.ofString "_wall"), (.str (.ofString "_wall") 288), (.ref 38)⟩, ⟨PyData.keyHash P (.ofString "_strcoll"), (.str (.ofString "_strcoll") 298), (.ref 45)⟩, ⟨PyData.keyHash P (.ofString "_replace_encoding"), (.str (.ofString "_replace_encoding") 308), (.ref 52)⟩, ⟨PyData.keyHash P (.ofString "_append_modifier"), (.str (.ofString "_append_modifier") 318), (.ref 59)⟩, ⟨PyData.keyHash P (.ofString "locale_encoding_alias"), (.str (.ofString "locale_encoding_alias") 451), (.ref 60)⟩, ⟨PyData.keyHash P (.ofString "k"), (.str (.ofString "k") 452), (.str (.ofString "iso88597") 633)⟩]
noncomputable def dl174 (P : Params) : List DictEntry := [⟨PyData.keyHash P (.ofString "v"), (.str (.ofString "v") 453), (.str (.ofString "ISO8859-7") 404)⟩]
noncomputable def ob_f6565x3 (P : Params) : Obj := ⟨(.type "dict"), none, .dict (List.toArray (dl38 P ++ (dl173 P ++ (dl174 P)))) 17, #[]⟩
noncomputable def dl175 (P : Params) : List DictEntry := [⟨PyData.keyHash P (.ofString "kz1048"), (.str (.ofString "kz1048") 433), (.str (.ofString "RK1048") 434)⟩, ⟨PyData.keyHash P (.ofString "cp1251"), (.str (.ofString "cp1251") 435), (.str (.ofString "CP1251") 436)⟩, ⟨PyData.keyHash P (.ofString "cp1255"), (.str (.ofString "cp1255") 437), (.str (.ofString "CP1255") 438)⟩, ⟨PyData.keyHash P (.ofString "cp1256"), (.str (.ofString "cp1256") 439), (.str (.ofString "CP1256") 440)⟩, ⟨PyData.keyHash P (.ofString "eucjp"), (.str (.ofString "eucjp") 528), (.str (.ofString "eucJP") 422)⟩, ⟨PyData.keyHash P (.ofString "euckr"), (.str (.ofString "euckr") 535), (.str (.ofString "eucKR") 424)⟩, ⟨PyData.keyHash P (.ofString "iso2022jp"), (.str (.ofString "iso2022jp") 542), (.str (.ofString "JIS7") 413)⟩, ⟨PyData.keyHash P (.ofString "iso88591"), (.str (.ofString "iso88591") 549), (.str (.ofString "ISO8859-1") 368)⟩]
noncomputable def dl176 (P : Params) : List DictEntry := [⟨PyData.keyHash P (.ofString "iso885910"), (.str (.ofString "iso885910") 556), (.str (.ofString "ISO8859-10") 371)⟩, ⟨PyData.keyHash P (.ofString "iso885911"), (.str (.ofString "iso885911") 563), (.str (.ofString "ISO8859-11") 374)⟩, ⟨PyData.keyHash P (.ofString "iso885913"), (.str (.ofString "iso885913") 570), (.str (.ofString "ISO8859-13") 377)⟩, ⟨PyData.keyHash P (.ofString "iso885914"), (.str (.ofString "iso885914") 577), (.str (.ofString "ISO8859-14") 380)⟩, ⟨PyData.keyHash P (.ofString "iso885915"), (.str (.ofString "iso885915") 584), (.str (.ofString "ISO8859-15") 383)⟩, ⟨PyData.keyHash P (.ofString "iso885916"), (.str (.ofString "iso885916") 591), (.str (.ofString "ISO8859-16") 386)⟩, ⟨PyData.keyHash P (.ofString "iso88592"), (.str (.ofString "iso88592") 598), (.str (.ofString "ISO8859-2") 389)⟩, ⟨PyData.keyHash P (.ofString "iso88593"), (.str (.ofString "iso88593") 605), (.str (.ofString "ISO8859-3") 392)⟩]
noncomputable def dl177 (P : Params) : List DictEntry := [⟨PyData.keyHash P (.ofString "iso88594"), (.str (.ofString "iso88594") 612), (.str (.ofString "ISO8859-4") 395)⟩, ⟨PyData.keyHash P (.ofString "iso88595"), (.str (.ofString "iso88595") 619), (.str (.ofString "ISO8859-5") 398)⟩, ⟨PyData.keyHash P (.ofString "iso88596"), (.str (.ofString "iso88596") 626), (.str (.ofString "ISO8859-6") 401)⟩, ⟨PyData.keyHash P (.ofString "iso88597"), (.str (.ofString "iso88597") 633), (.str (.ofString "ISO8859-7") 404)⟩]
noncomputable def ob_f6565x60 (P : Params) : Obj := ⟨(.type "dict"), none, .dict (List.toArray (dl62 P ++ (dl63 P ++ (dl64 P ++ (dl65 P ++ (dl66 P ++ (dl175 P ++ (dl176 P ++ (dl177 P))))))))) 60, #[]⟩
noncomputable def ob_f6565x115 (P : Params) : Obj := ⟨(.type "list_iterator"), none, .fields (List.toArray [(.ref 112), (.int 28 0)]), #[]⟩
noncomputable def ob_f6565x158 (P : Params) : Obj := ⟨(.type "tuple_iterator"), none, .fields (List.toArray [.none, (.int 2 0)]), #[]⟩
noncomputable def ob_f6565x159 (P : Params) : Obj := ⟨(.type "tuple"), none, .seq (List.toArray []) 0, #[]⟩
noncomputable def ob_f6565x160 (P : Params) : Obj := ⟨(.type "StopIteration"), none, .fields (List.toArray [(.ref 159), .none, .none, .none, (.bool false), .none]), #[]⟩
noncomputable def ob_f6565x161 (P : Params) : Obj := ⟨(.type "tuple_iterator"), none, .fields (List.toArray [.none, (.int 2 0)]), #[]⟩
noncomputable def ob_f6565x162 (P : Params) : Obj := ⟨(.type "tuple"), none, .seq (List.toArray []) 0, #[]⟩
noncomputable def ob_f6565x163 (P : Params) : Obj := ⟨(.type "StopIteration"), none, .fields (List.toArray [(.ref 162), .none, .none, .none, (.bool false), .none]), #[]⟩
noncomputable def ob_f6565x164 (P : Params) : Obj := ⟨(.type "tuple_iterator"), none, .fields (List.toArray [.none, (.int 2 0)]), #[]⟩
noncomputable def ob_f6565x165 (P : Params) : Obj := ⟨(.type "tuple"), none, .seq (List.toArray []) 0, #[]⟩
noncomputable def ob_f6565x166 (P : Params) : Obj := ⟨(.type "StopIteration"), none, .fields (List.toArray [(.ref 165), .none, .none, .none, (.bool false), .none]), #[]⟩
noncomputable def ob_f6565x167 (P : Params) : Obj := ⟨(.type "tuple_iterator"), none, .fields (List.toArray [.none, (.int 2 0)]), #[]⟩
noncomputable def ob_f6565x168 (P : Params) : Obj := ⟨(.type "tuple"), none, .seq (List.toArray []) 0, #[]⟩
noncomputable def ob_f6565x169 (P : Params) : Obj := ⟨(.type "StopIteration"), none, .fields (List.toArray [(.ref 168), .none, .none, .none, (.bool false), .none]), #[]⟩
noncomputable def ob_f6565x170 (P : Params) : Obj := ⟨(.type "tuple_iterator"), none, .fields (List.toArray [.none, (.int 2 0)]), #[]⟩
noncomputable def ob_f6565x171 (P : Params) : Obj := ⟨(.type "tuple"), none, .seq (List.toArray []) 0, #[]⟩
noncomputable def ob_f6565x172 (P : Params) : Obj := ⟨(.type "StopIteration"), none, .fields (List.toArray [(.ref 171), .none, .none, .none, (.bool false), .none]), #[]⟩
noncomputable def ob_f6565x173 (P : Params) : Obj := ⟨(.type "tuple_iterator"), none, .fields (List.toArray [.none, (.int 2 0)]), #[]⟩
noncomputable def ob_f6565x174 (P : Params) : Obj := ⟨(.type "tuple"), none, .seq (List.toArray []) 0, #[]⟩
noncomputable def ob_f6565x175 (P : Params) : Obj := ⟨(.type "StopIteration"), none, .fields (List.toArray [(.ref 174), .none, .none, .none, (.bool false), .none]), #[]⟩
noncomputable def ob_f6565x176 (P : Params) : Obj := ⟨(.type "tuple_iterator"), none, .fields (List.toArray [.none, (.int 2 0)]), #[]⟩
noncomputable def ob_f6565x177 (P : Params) : Obj := ⟨(.type "tuple"), none, .seq (List.toArray []) 0, #[]⟩
noncomputable def ob_f6565x178 (P : Params) : Obj := ⟨(.type "StopIteration"), none, .fields (List.toArray [(.ref 177), .none, .none, .none, (.bool false), .none]), #[]⟩
noncomputable def ob_f6565x179 (P : Params) : Obj := ⟨(.type "tuple_iterator"), none, .fields (List.toArray [.none, (.int 2 0)]), #[]⟩
noncomputable def ob_f6565x180 (P : Params) : Obj := ⟨(.type "tuple"), none, .seq (List.toArray []) 0, #[]⟩
noncomputable def ob_f6565x181 (P : Params) : Obj := ⟨(.type "StopIteration"), none, .fields (List.toArray [(.ref 180), .none, .none, .none, (.bool false), .none]), #[]⟩
noncomputable def ob_f6565x182 (P : Params) : Obj := ⟨(.type "tuple_iterator"), none, .fields (List.toArray [.none, (.int 2 0)]), #[]⟩
noncomputable def ob_f6565x183 (P : Params) : Obj := ⟨(.type "tuple"), none, .seq (List.toArray []) 0, #[]⟩
noncomputable def ob_f6565x184 (P : Params) : Obj := ⟨(.type "StopIteration"), none, .fields (List.toArray [(.ref 183), .none, .none, .none, (.bool false), .none]), #[]⟩
noncomputable def ob_f6565x185 (P : Params) : Obj := ⟨(.type "tuple_iterator"), none, .fields (List.toArray [.none, (.int 2 0)]), #[]⟩
noncomputable def ob_f6565x186 (P : Params) : Obj := ⟨(.type "tuple"), none, .seq (List.toArray []) 0, #[]⟩
noncomputable def ob_f6565x187 (P : Params) : Obj := ⟨(.type "StopIteration"), none, .fields (List.toArray [(.ref 186), .none, .none, .none, (.bool false), .none]), #[]⟩
noncomputable def ob_f6565x188 (P : Params) : Obj := ⟨(.type "tuple_iterator"), none, .fields (List.toArray [.none, (.int 2 0)]), #[]⟩
noncomputable def ob_f6565x189 (P : Params) : Obj := ⟨(.type "tuple"), none, .seq (List.toArray []) 0, #[]⟩
noncomputable def ob_f6565x190 (P : Params) : Obj := ⟨(.type "StopIteration"), none, .fields (List.toArray [(.ref 189), .none, .none, .none, (.bool false), .none]), #[]⟩
noncomputable def ob_f6565x191 (P : Params) : Obj := ⟨(.type "tuple_iterator"), none, .fields (List.toArray [.none, (.int 2 0)]), #[]⟩
noncomputable def ob_f6565x192 (P : Params) : Obj := ⟨(.type "tuple"), none, .seq (List.toArray []) 0, #[]⟩
noncomputable def ob_f6565x193 (P : Params) : Obj := ⟨(.type "StopIteration"), none, .fields (List.toArray [(.ref 192), .none, .none, .none, (.bool false), .none]), #[]⟩
noncomputable def ob_f6565x194 (P : Params) : Obj := ⟨(.type "tuple_iterator"), none, .fields (List.toArray [.none, (.int 2 0)]), #[]⟩
noncomputable def ob_f6565x195 (P : Params) : Obj := ⟨(.type "tuple"), none, .seq (List.toArray []) 0, #[]⟩
noncomputable def ob_f6565x196 (P : Params) : Obj := ⟨(.type "StopIteration"), none, .fields (List.toArray [(.ref 195), .none, .none, .none, (.bool false), .none]), #[]⟩
noncomputable def ob_f6565x197 (P : Params) : Obj := ⟨(.type "tuple_iterator"), none, .fields (List.toArray [.none, (.int 2 0)]), #[]⟩
noncomputable def ob_f6565x198 (P : Params) : Obj := ⟨(.type "tuple"), none, .seq (List.toArray []) 0, #[]⟩
noncomputable def ob_f6565x199 (P : Params) : Obj := ⟨(.type "StopIteration"), none, .fields (List.toArray [(.ref 198), .none, .none, .none, (.bool false), .none]), #[]⟩
noncomputable def bt178 (P : Params) : BT := (.node (ob_f50x63 P) (.node (ob_f4815x127 P) .nil .nil) (.node (ob_f6565x191 P) .nil .nil))
noncomputable def bt179 (P : Params) : BT := (.node (ob_f1074x95 P) (.node (ob_f6565x159 P) .nil .nil) .nil)
noncomputable def bt180 (P : Params) : BT := (.node (ob_f3041x111 P) (.node (ob_f6565x175 P) .nil .nil) .nil)
noncomputable def bt181 (P : Params) : BT := (.node (ob_ox15 P) (.node (ob_bx31 P) (bt178 P) (bt179 P)) (.node (ob_p4x47 P) (bt122 P) (bt180 P)))
noncomputable def bt182 (P : Params) : BT := (.node (ob_f1074x71 P) (.node (ob_f4815x135 P) .nil .nil) (.node (ob_f6565x199 P) .nil .nil))
noncomputable def bt183 (P : Params) : BT := (.node (ob_f1074x103 P) (.node (ob_f6565x167 P) .nil .nil) .nil)
noncomputable def bt184 (P : Params) : BT := (.node (ob_f4815x119 P) (.node (ob_f6565x183 P) .nil .nil) .nil)
noncomputable def bt185 (P : Params) : BT := (.node (ob_ox23 P) (.node (ob_p4x39 P) (bt182 P) (bt183 P)) (.node (ob_p4x55 P) (bt125 P) (bt184 P)))
noncomputable def bt186 (P : Params) : BT := (.node (ob_f1074x67 P) (.node (ob_f4815x131 P) .nil .nil) (.node (ob_f6565x195 P) .nil .nil))
noncomputable def bt187 (P : Params) : BT := (.node (ob_f1074x99 P) (.node (ob_f6565x163 P) .nil .nil) .nil)
noncomputable def bt188 (P : Params) : BT := (.node (ob_f6565x115 P) (.node (ob_f6565x179 P) .nil .nil) .nil)
noncomputable def bt189 (P : Params) : BT := (.node (ob_ox19 P) (.node (ob_p4x35 P) (bt186 P) (bt187 P)) (.node (ob_p4x51 P) (bt128 P) (bt188 P)))
noncomputable def bt190 (P : Params) : BT := (.node (ob_f1074x107 P) (.node (ob_f6565x171 P) .nil .nil) .nil)
noncomputable def bt191 (P : Params) : BT := (.node (ob_f4815x123 P) (.node (ob_f6565x187 P) .nil .nil) .nil)
noncomputable def bt192 (P : Params) : BT := (.node (ob_ox27 P) (.node (ob_p4x43 P) (bt130 P) (bt190 P)) (.node (ob_p4x59 P) (bt131 P) (bt191 P)))
noncomputable def bt193 (P : Params) : BT := (.node (ob_f6565x3 P) (.node (PySem.W.boot_o_7 P) (bt181 P) (bt185 P)) (.node (ob_ox11 P) (bt189 P) (bt192 P)))
noncomputable def bt194 (P : Params) : BT := (.node (ob_f3041x65 P) (.node (ob_f4815x129 P) .nil .nil) (.node (ob_f6565x193 P) .nil .nil))
noncomputable def bt195 (P : Params) : BT := (.node (ob_f1074x97 P) (.node (ob_f6565x161 P) .nil .nil) .nil)
noncomputable def bt196 (P : Params) : BT := (.node (ob_f3041x113 P) (.node (ob_f6565x177 P) .nil .nil) .nil)
noncomputable def bt197 (P : Params) : BT := (.node (ob_ox17 P) (.node (ob_p4x33 P) (bt194 P) (bt195 P)) (.node (ob_p4x49 P) (bt135 P) (bt196 P)))
noncomputable def bt198 (P : Params) : BT := (.node (ob_f1074x105 P) (.node (ob_f6565x169 P) .nil .nil) .nil)
noncomputable def bt199 (P : Params) : BT := (.node (ob_f4815x121 P) (.node (ob_f6565x185 P) .nil .nil) .nil)
noncomputable def bt200 (P : Params) : BT := (.node (ob_ox25 P) (.node (ob_p4x41 P) (bt137 P) (bt198 P)) (.node (ob_p4x57 P) (bt138 P) (bt199 P)))
noncomputable def bt201 (P : Params) : BT := (.node (ob_f1074x69 P) (.node (ob_f4815x133 P) .nil .nil) (.node (ob_f6565x197 P) .nil .nil))
noncomputable def bt202 (P : Params) : BT := (.node (ob_f1074x101 P) (.node (ob_f6565x165 P) .nil .nil) .nil)
noncomputable def bt203 (P : Params) : BT := (.node (ob_f4815x117 P) (.node (ob_f6565x181 P) .nil .nil) .nil)
noncomputable def bt204 (P : Params) : BT := (.node (ob_ox21 P) (.node (ob_p4x37 P) (bt201 P) (bt202 P)) (.node (ob_p4x53 P) (bt141 P) (bt203 P)))
noncomputable def bt205 (P : Params) : BT := (.node (ob_f1074x109 P) (.node (ob_f6565x173 P) .nil .nil) .nil)
noncomputable def bt206 (P : Params) : BT := (.node (ob_f4815x125 P) (.node (ob_f6565x189 P) .nil .nil) .nil)
noncomputable def bt207 (P : Params) : BT := (.node (ob_p4x29 P) (.node (ob_p4x45 P) (bt143 P) (bt205 P)) (.node (ob_p5x61 P) (bt144 P) (bt206 P)))
noncomputable def bt208 (P : Params) : BT := (.node (PySem.W.boot_o_5 P) (.node (PySem.W.boot_o_9 P) (bt197 P) (bt200 P)) (.node (ob_ox13 P) (bt204 P) (bt207 P)))
noncomputable def bt209 (P : Params) : BT := (.node (ob_f1074x64 P) (.node (ob_f4815x128 P) .nil .nil) (.node (ob_f6565x192 P) .nil .nil))
noncomputable def bt210 (P : Params) : BT := (.node (ob_f1074x96 P) (.node (ob_f6565x160 P) .nil .nil) .nil)
noncomputable def bt211 (P : Params) : BT := (.node (ob_f3041x112 P) (.node (ob_f6565x176 P) .nil .nil) .nil)
noncomputable def bt212 (P : Params) : BT := (.node (ob_ox16 P) (.node (ob_p4x32 P) (bt209 P) (bt210 P)) (.node (ob_p4x48 P) (bt148 P) (bt211 P)))
noncomputable def bt213 (P : Params) : BT := (.node (ob_f1074x104 P) (.node (ob_f6565x168 P) .nil .nil) .nil)
noncomputable def bt214 (P : Params) : BT := (.node (ob_f4815x120 P) (.node (ob_f6565x184 P) .nil .nil) .nil)
noncomputable def bt215 (P : Params) : BT := (.node (ob_ox24 P) (.node (ob_p4x40 P) (bt150 P) (bt213 P)) (.node (ob_p4x56 P) (bt151 P) (bt214 P)))
noncomputable def bt216 (P : Params) : BT := (.node (ob_f1074x68 P) (.node (ob_f4815x132 P) .nil .nil) (.node (ob_f6565x196 P) .nil .nil))
noncomputable def bt217 (P : Params) : BT := (.node (ob_f1074x100 P) (.node (ob_f6565x164 P) .nil .nil) .nil)
noncomputable def bt218 (P : Params) : BT := (.node (ob_f4815x116 P) (.node (ob_f6565x180 P) .nil .nil) .nil)
noncomputable def bt219 (P : Params) : BT := (.node (ob_ox20 P) (.node (ob_p4x36 P) (bt216 P) (bt217 P)) (.node (ob_p4x52 P) (bt154 P) (bt218 P)))
noncomputable def bt220 (P : Params) : BT := (.node (ob_f1074x108 P) (.node (ob_f6565x172 P) .nil .nil) .nil)
noncomputable def bt221 (P : Params) : BT := (.node (ob_f4815x124 P) (.node (ob_f6565x188 P) .nil .nil) .nil)
noncomputable def bt222 (P : Params) : BT := (.node (ob_bx28 P) (.node (ob_p4x44 P) (bt156 P) (bt220 P)) (.node (ob_f6565x60 P) (bt157 P) (bt221 P)))
noncomputable def bt223 (P : Params) : BT := (.node (PySem.W.boot_o_4 P) (.node (PySem.W.boot_o_8 P) (bt212 P) (bt215 P)) (.node (ob_ox12 P) (bt219 P) (bt222 P)))
noncomputable def bt224 (P : Params) : BT := (.node (ob_f1074x66 P) (.node (ob_f4815x130 P) .nil .nil) (.node (ob_f6565x194 P) .nil .nil))
noncomputable def bt225 (P : Params) : BT := (.node (ob_f1074x98 P) (.node (ob_f6565x162 P) .nil .nil) .nil)
noncomputable def bt226 (P : Params) : BT := (.node (ob_f3041x114 P) (.node (ob_f6565x178 P) .nil .nil) .nil)
noncomputable def bt227 (P : Params) : BT := (.node (ob_ox18 P) (.node (ob_p4x34 P) (bt224 P) (bt225 P)) (.node (ob_p4x50 P) (bt161 P) (bt226 P)))
noncomputable def bt228 (P : Params) : BT := (.node (ob_f1074x106 P) (.node (ob_f6565x170 P) .nil .nil) .nil)
noncomputable def bt229 (P : Params) : BT := (.node (ob_f4815x122 P) (.node (ob_f6565x186 P) .nil .nil) .nil)
noncomputable def bt230 (P : Params) : BT := (.node (ob_ox26 P) (.node (ob_p4x42 P) (bt163 P) (bt228 P)) (.node (ob_p4x58 P) (bt164 P) (bt229 P)))
noncomputable def bt231 (P : Params) : BT := (.node (ob_f1074x70 P) (.node (ob_f4815x134 P) .nil .nil) (.node (ob_f6565x198 P) .nil .nil))
noncomputable def bt232 (P : Params) : BT := (.node (ob_f1074x102 P) (.node (ob_f6565x166 P) .nil .nil) .nil)
noncomputable def bt233 (P : Params) : BT := (.node (ob_f4815x118 P) (.node (ob_f6565x182 P) .nil .nil) .nil)
noncomputable def bt234 (P : Params) : BT := (.node (ob_ox22 P) (.node (ob_p4x38 P) (bt231 P) (bt232 P)) (.node (ob_p4x54 P) (bt167 P) (bt233 P)))
noncomputable def bt235 (P : Params) : BT := (.node (ob_f3041x110 P) (.node (ob_f6565x174 P) .nil .nil) .nil)
noncomputable def bt236 (P : Params) : BT := (.node (ob_f1074x94 P) (.node (ob_f6565x158 P) .nil .nil) .nil)
noncomputable def bt237 (P : Params) : BT := (.node (ob_f4815x126 P) (.node (ob_f6565x190 P) .nil .nil) .nil)
noncomputable def bt238 (P : Params) : BT := (.node (ob_bx30 P) (.node (ob_p4x46 P) (bt169 P) (bt235 P)) (.node (ob_p5x62 P) (bt236 P) (bt237 P)))
noncomputable def bt239 (P : Params) : BT := (.node (PySem.W.boot_o_6 P) (.node (PySem.W.boot_o_10 P) (bt227 P) (bt230 P)) (.node (ob_ox14 P) (bt234 P) (bt238 P)))
noncomputable def bt240 (P : Params) : BT := (.node (ob_ox0 P) (.node (ob_ox1 P) (bt193 P) (bt208 P)) (.node (ob_ox2 P) (bt223 P) (bt239 P)))
noncomputable def tree_f6565 (P : Params) : BT := (bt240 P)
noncomputable def S_f6565 (w : World) (os : OsState) : SharedT := ⟨tree_f6565 w.params, 200, {}, #[], {}, 636, os⟩
noncomputable def dl241 (P : Params) : List DictEntry := [⟨PyData.keyHash P (.ofString "__cached__"), (.str (.ofString "__cached__") 174), .none⟩, ⟨PyData.keyHash P (.ofString "_sre"), (.str (.ofString "_sre") 275), (.ref 12)⟩, ⟨PyData.keyHash P (.ofString "_wall"), (.str (.ofString "_wall") 288), (.ref 38)⟩, ⟨PyData.keyHash P (.ofString "_strcoll"), (.str (.ofString "_strcoll") 298), (.ref 45)⟩, ⟨PyData.keyHash P (.ofString "_replace_encoding"), (.str (.ofString "_replace_encoding") 308), (.ref 52)⟩, ⟨PyData.keyHash P (.ofString "_append_modifier"), (.str (.ofString "_append_modifier") 318), (.ref 59)⟩, ⟨PyData.keyHash P (.ofString "locale_encoding_alias"), (.str (.ofString "locale_encoding_alias") 451), (.ref 60)⟩, ⟨PyData.keyHash P (.ofString "k"), (.str (.ofString "k") 452), (.str (.ofString "utf8") 737)⟩]
noncomputable def dl242 (P : Params) : List DictEntry := [⟨PyData.keyHash P (.ofString "v"), (.str (.ofString "v") 453), (.str (.ofString "UTF-8") 426)⟩]
noncomputable def ob_f8581x3 (P : Params) : Obj := ⟨(.type "dict"), none, .dict (List.toArray (dl38 P ++ (dl241 P ++ (dl242 P)))) 17, #[]⟩
noncomputable def dl243 (P : Params) : List DictEntry := [⟨PyData.keyHash P (.ofString "iso88594"), (.str (.ofString "iso88594") 612), (.str (.ofString "ISO8859-4") 395)⟩, ⟨PyData.keyHash P (.ofString "iso88595"), (.str (.ofString "iso88595") 619), (.str (.ofString "ISO8859-5") 398)⟩, ⟨PyData.keyHash P (.ofString "iso88596"), (.str (.ofString "iso88596") 626), (.str (.ofString "ISO8859-6") 401)⟩, ⟨PyData.keyHash P (.ofString "iso88597"), (.str (.ofString "iso88597") 633), (.str (.ofString "ISO8859-7") 404)⟩, ⟨PyData.keyHash P (.ofString "iso88598"), (.str (.ofString "iso88598") 640), (.str (.ofString "ISO8859-8") 407)⟩, ⟨PyData.keyHash P (.ofString "iso88599"), (.str (.ofString "iso88599") 647), (.str (.ofString "ISO8859-9") 410)⟩, ⟨PyData.keyHash P (.ofString "koi8r"), (.str (.ofString "koi8r") 666), (.str (.ofString "KOI8-R") 428)⟩, ⟨PyData.keyHash P (.ofString "koi8t"), (.str (.ofString "koi8t") 673), (.str (.ofString "KOI8-T") 430)⟩]
noncomputable def dl244 (P : Params) : List DictEntry := [⟨PyData.keyHash P (.ofString "koi8u"), (.str (.ofString "koi8u") 680), (.str (.ofString "KOI8-U") 432)⟩, ⟨PyData.keyHash P (.ofString "latin1"), (.str (.ofString "latin1") 699), (.str (.ofString "ISO8859-1") 365)⟩, ⟨PyData.keyHash P (.ofString "shiftjis"), (.str (.ofString "shiftjis") 724), (.str (.ofString "SJIS") 416)⟩, ⟨PyData.keyHash P (.ofString "utf8"), (.str (.ofString "utf8") 737), (.str (.ofString "UTF-8") 426)⟩]
noncomputable def ob_f8581x60 (P : Params) : Obj := ⟨(.type "dict"), none, .dict (List.toArray (dl62 P ++ (dl63 P ++ (dl64 P ++ (dl65 P ++ (dl66 P ++ (dl175 P ++ (dl176 P ++ (dl243 P ++ (dl244 P)))))))))) 68, #[]⟩
noncomputable def ob_f8581x115 (P : Params) : Obj := ⟨(.type "list_iterator"), none, .fields (List.toArray [(.ref 112), (.int 44 0)]), #[]⟩
noncomputable def ob_f8581x200 (P : Params) : Obj := ⟨(.type "tuple_iterator"), none, .fields (List.toArray [.none, (.int 2 0)]), #[]⟩
noncomputable def ob_f8581x201 (P : Params) : Obj := ⟨(.type "tuple"), none, .seq (List.toArray []) 0, #[]⟩
noncomputable def ob_f8581x202 (P : Params) : Obj := ⟨(.type "StopIteration"), none, .fields (List.toArray [(.ref 201), .none, .none, .none, (.bool false), .none]), #[]⟩
noncomputable def ob_f8581x203 (P : Params) : Obj := ⟨(.type "tuple_iterator"), none, .fields (List.toArray [.none, (.int 2 0)]), #[]⟩
noncomputable def ob_f8581x204 (P : Params) : Obj := ⟨(.type "tuple"), none, .seq (List.toArray []) 0, #[]⟩
noncomputable def ob_f8581x205 (P : Params) : Obj := ⟨(.type "StopIteration"), none, .fields (List.toArray [(.ref 204), .none, .none, .none, (.bool false), .none]), #[]⟩
noncomputable def ob_f8581x206 (P : Params) : Obj := ⟨(.type "tuple_iterator"), none, .fields (List.toArray [.none, (.int 2 0)]), #[]⟩
noncomputable def ob_f8581x207 (P : Params) : Obj := ⟨(.type "tuple"), none, .seq (List.toArray []) 0, #[]⟩
noncomputable def ob_f8581x208 (P : Params) : Obj := ⟨(.type "StopIteration"), none, .fields (List.toArray [(.ref 207), .none, .none, .none, (.bool false), .none]), #[]⟩
noncomputable def ob_f8581x209 (P : Params) : Obj := ⟨(.type "tuple_iterator"), none, .fields (List.toArray [.none, (.int 2 0)]), #[]⟩
noncomputable def ob_f8581x210 (P : Params) : Obj := ⟨(.type "tuple"), none, .seq (List.toArray []) 0, #[]⟩
noncomputable def ob_f8581x211 (P : Params) : Obj := ⟨(.type "StopIteration"), none, .fields (List.toArray [(.ref 210), .none, .none, .none, (.bool false), .none]), #[]⟩
noncomputable def ob_f8581x212 (P : Params) : Obj := ⟨(.type "tuple_iterator"), none, .fields (List.toArray [.none, (.int 2 0)]), #[]⟩
noncomputable def ob_f8581x213 (P : Params) : Obj := ⟨(.type "tuple"), none, .seq (List.toArray []) 0, #[]⟩
noncomputable def ob_f8581x214 (P : Params) : Obj := ⟨(.type "StopIteration"), none, .fields (List.toArray [(.ref 213), .none, .none, .none, (.bool false), .none]), #[]⟩
noncomputable def ob_f8581x215 (P : Params) : Obj := ⟨(.type "tuple_iterator"), none, .fields (List.toArray [.none, (.int 2 0)]), #[]⟩
noncomputable def ob_f8581x216 (P : Params) : Obj := ⟨(.type "tuple"), none, .seq (List.toArray []) 0, #[]⟩
noncomputable def ob_f8581x217 (P : Params) : Obj := ⟨(.type "StopIteration"), none, .fields (List.toArray [(.ref 216), .none, .none, .none, (.bool false), .none]), #[]⟩
noncomputable def ob_f8581x218 (P : Params) : Obj := ⟨(.type "tuple_iterator"), none, .fields (List.toArray [.none, (.int 2 0)]), #[]⟩
noncomputable def ob_f8581x219 (P : Params) : Obj := ⟨(.type "tuple"), none, .seq (List.toArray []) 0, #[]⟩
noncomputable def ob_f8581x220 (P : Params) : Obj := ⟨(.type "StopIteration"), none, .fields (List.toArray [(.ref 219), .none, .none, .none, (.bool false), .none]), #[]⟩
noncomputable def ob_f8581x221 (P : Params) : Obj := ⟨(.type "tuple_iterator"), none, .fields (List.toArray [.none, (.int 2 0)]), #[]⟩
noncomputable def ob_f8581x222 (P : Params) : Obj := ⟨(.type "tuple"), none, .seq (List.toArray []) 0, #[]⟩
noncomputable def ob_f8581x223 (P : Params) : Obj := ⟨(.type "StopIteration"), none, .fields (List.toArray [(.ref 222), .none, .none, .none, (.bool false), .none]), #[]⟩
noncomputable def ob_f8581x224 (P : Params) : Obj := ⟨(.type "tuple_iterator"), none, .fields (List.toArray [.none, (.int 2 0)]), #[]⟩
noncomputable def ob_f8581x225 (P : Params) : Obj := ⟨(.type "tuple"), none, .seq (List.toArray []) 0, #[]⟩
noncomputable def ob_f8581x226 (P : Params) : Obj := ⟨(.type "StopIteration"), none, .fields (List.toArray [(.ref 225), .none, .none, .none, (.bool false), .none]), #[]⟩
noncomputable def ob_f8581x227 (P : Params) : Obj := ⟨(.type "tuple_iterator"), none, .fields (List.toArray [.none, (.int 2 0)]), #[]⟩
noncomputable def ob_f8581x228 (P : Params) : Obj := ⟨(.type "tuple"), none, .seq (List.toArray []) 0, #[]⟩
noncomputable def ob_f8581x229 (P : Params) : Obj := ⟨(.type "StopIteration"), none, .fields (List.toArray [(.ref 228), .none, .none, .none, (.bool false), .none]), #[]⟩
noncomputable def ob_f8581x230 (P : Params) : Obj := ⟨(.type "tuple_iterator"), none, .fields (List.toArray [.none, (.int 2 0)]), #[]⟩
noncomputable def ob_f8581x231 (P : Params) : Obj := ⟨(.type "tuple"), none, .seq (List.toArray []) 0, #[]⟩
noncomputable def ob_f8581x232 (P : Params) : Obj := ⟨(.type "StopIteration"), none, .fields (List.toArray [(.ref 231), .none, .none, .none, (.bool false), .none]), #[]⟩
noncomputable def ob_f8581x233 (P : Params) : Obj := ⟨(.type "tuple_iterator"), none, .fields (List.toArray [.none, (.int 2 0)]), #[]⟩
noncomputable def ob_f8581x234 (P : Params) : Obj := ⟨(.type "tuple"), none, .seq (List.toArray []) 0, #[]⟩
noncomputable def ob_f8581x235 (P : Params) : Obj := ⟨(.type "StopIteration"), none, .fields (List.toArray [(.ref 234), .none, .none, .none, (.bool false), .none]), #[]⟩
noncomputable def ob_f8581x236 (P : Params) : Obj := ⟨(.type "tuple_iterator"), none, .fields (List.toArray [.none, (.int 2 0)]), #[]⟩
noncomputable def ob_f8581x237 (P : Params) : Obj := ⟨(.type "tuple"), none, .seq (List.toArray []) 0, #[]⟩
noncomputable def ob_f8581x238 (P : Params) : Obj := ⟨(.type "StopIteration"), none, .fields (List.toArray [(.ref 237), .none, .none, .none, (.bool false), .none]), #[]⟩
noncomputable def ob_f8581x239 (P : Params) : Obj := ⟨(.type "tuple_iterator"), none, .fields (List.toArray [.none, (.int 2 0)]), #[]⟩
noncomputable def ob_f8581x240 (P : Params) : Obj := ⟨(.type "tuple"), none, .seq (List.toArray []) 0, #[]⟩
noncomputable def ob_f8581x241 (P : Params) : Obj := ⟨(.type "StopIteration"), none, .fields (List.toArray [(.ref 240), .none, .none, .none, (.bool false), .none]), #[]⟩
noncomputable def ob_f8581x242 (P : Params) : Obj := ⟨(.type "tuple_iterator"), none, .fields (List.toArray [.none, (.int 2 0)]), #[]⟩
noncomputable def ob_f8581x243 (P : Params) : Obj := ⟨(.type "tuple"), none, .seq (List.toArray []) 0, #[]⟩
noncomputable def ob_f8581x244 (P : Params) : Obj := ⟨(.type "StopIteration"), none, .fields (List.toArray [(.ref 243), .none, .none, .none, (.bool false), .none]), #[]⟩
noncomputable def ob_f8581x245 (P : Params) : Obj := ⟨(.type "tuple_iterator"), none, .fields (List.toArray [.none, (.int 2 0)]), #[]⟩
noncomputable def ob_f8581x246 (P : Params) : Obj := ⟨(.type "tuple"), none, .seq (List.toArray []) 0, #[]⟩
noncomputable def ob_f8581x247 (P : Params) : Obj := ⟨(.type "StopIteration"), none, .fields (List.toArray [(.ref 246), .none, .none, .none, (.bool false), .none]), #[]⟩
noncomputable def bt245 (P : Params) : BT := (.node (ob_f1074x95 P) (.node (ob_f6565x159 P) .nil .nil) (.node (ob_f8581x223 P) .nil .nil))
noncomputable def bt246 (P : Params) : BT := (.node (ob_f1074x79 P) (.node (ob_f4815x143 P) .nil .nil) (.node (ob_f8581x207 P) .nil .nil))
noncomputable def bt247 (P : Params) : BT := (.node (ob_f3041x111 P) (.node (ob_f6565x175 P) .nil .nil) (.node (ob_f8581x239 P) .nil .nil))
noncomputable def bt248 (P : Params) : BT := (.node (ob_ox15 P) (.node (ob_bx31 P) (bt178 P) (bt245 P)) (.node (ob_p4x47 P) (bt246 P) (bt247 P)))
noncomputable def bt249 (P : Params) : BT := (.node (ob_f1074x103 P) (.node (ob_f6565x167 P) .nil .nil) (.node (ob_f8581x231 P) .nil .nil))
noncomputable def bt250 (P : Params) : BT := (.node (ob_f1074x87 P) (.node (ob_f4815x151 P) .nil .nil) (.node (ob_f8581x215 P) .nil .nil))
noncomputable def bt251 (P : Params) : BT := (.node (ob_f4815x119 P) (.node (ob_f6565x183 P) .nil .nil) (.node (ob_f8581x247 P) .nil .nil))
noncomputable def bt252 (P : Params) : BT := (.node (ob_ox23 P) (.node (ob_p4x39 P) (bt182 P) (bt249 P)) (.node (ob_p4x55 P) (bt250 P) (bt251 P)))
noncomputable def bt253 (P : Params) : BT := (.node (ob_f1074x99 P) (.node (ob_f6565x163 P) .nil .nil) (.node (ob_f8581x227 P) .nil .nil))
noncomputable def bt254 (P : Params) : BT := (.node (ob_f1074x83 P) (.node (ob_f4815x147 P) .nil .nil) (.node (ob_f8581x211 P) .nil .nil))
noncomputable def bt255 (P : Params) : BT := (.node (ob_f8581x115 P) (.node (ob_f6565x179 P) .nil .nil) (.node (ob_f8581x243 P) .nil .nil))
noncomputable def bt256 (P : Params) : BT := (.node (ob_ox19 P) (.node (ob_p4x35 P) (bt186 P) (bt253 P)) (.node (ob_p4x51 P) (bt254 P) (bt255 P)))
noncomputable def bt257 (P : Params) : BT := (.node (ob_f1074x75 P) (.node (ob_f4815x139 P) .nil .nil) (.node (ob_f8581x203 P) .nil .nil))
noncomputable def bt258 (P : Params) : BT := (.node (ob_f1074x107 P) (.node (ob_f6565x171 P) .nil .nil) (.node (ob_f8581x235 P) .nil .nil))
noncomputable def bt259 (P : Params) : BT := (.node (ob_f1074x91 P) (.node (ob_f4815x155 P) .nil .nil) (.node (ob_f8581x219 P) .nil .nil))
noncomputable def bt260 (P : Params) : BT := (.node (ob_ox27 P) (.node (ob_p4x43 P) (bt257 P) (bt258 P)) (.node (ob_p4x59 P) (bt259 P) (bt191 P)))
noncomputable def bt261 (P : Params) : BT := (.node (ob_f8581x3 P) (.node (PySem.W.boot_o_7 P) (bt248 P) (bt252 P)) (.node (ob_ox11 P) (bt256 P) (bt260 P)))
noncomputable def bt262 (P : Params) : BT := (.node (ob_f1074x97 P) (.node (ob_f6565x161 P) .nil .nil) (.node (ob_f8581x225 P) .nil .nil))
noncomputable def bt263 (P : Params) : BT := (.node (ob_f1074x81 P) (.node (ob_f4815x145 P) .nil .nil) (.node (ob_f8581x209 P) .nil .nil))
noncomputable def bt264 (P : Params) : BT := (.node (ob_f3041x113 P) (.node (ob_f6565x177 P) .nil .nil) (.node (ob_f8581x241 P) .nil .nil))
noncomputable def bt265 (P : Params) : BT := (.node (ob_ox17 P) (.node (ob_p4x33 P) (bt194 P) (bt262 P)) (.node (ob_p4x49 P) (bt263 P) (bt264 P)))
noncomputable def bt266 (P : Params) : BT := (.node (ob_f1074x73 P) (.node (ob_f4815x137 P) .nil .nil) (.node (ob_f8581x201 P) .nil .nil))
noncomputable def bt267 (P : Params) : BT := (.node (ob_f1074x105 P) (.node (ob_f6565x169 P) .nil .nil) (.node (ob_f8581x233 P) .nil .nil))
noncomputable def bt268 (P : Params) : BT := (.node (ob_f1074x89 P) (.node (ob_f4815x153 P) .nil .nil) (.node (ob_f8581x217 P) .nil .nil))
noncomputable def bt269 (P : Params) : BT := (.node (ob_ox25 P) (.node (ob_p4x41 P) (bt266 P) (bt267 P)) (.node (ob_p4x57 P) (bt268 P) (bt199 P)))
noncomputable def bt270 (P : Params) : BT := (.node (ob_f1074x101 P) (.node (ob_f6565x165 P) .nil .nil) (.node (ob_f8581x229 P) .nil .nil))
noncomputable def bt271 (P : Params) : BT := (.node (ob_f1074x85 P) (.node (ob_f4815x149 P) .nil .nil) (.node (ob_f8581x213 P) .nil .nil))
noncomputable def bt272 (P : Params) : BT := (.node (ob_f4815x117 P) (.node (ob_f6565x181 P) .nil .nil) (.node (ob_f8581x245 P) .nil .nil))
noncomputable def bt273 (P : Params) : BT := (.node (ob_ox21 P) (.node (ob_p4x37 P) (bt201 P) (bt270 P)) (.node (ob_p4x53 P) (bt271 P) (bt272 P)))
noncomputable def bt274 (P : Params) : BT := (.node (ob_f1074x77 P) (.node (ob_f4815x141 P) .nil .nil) (.node (ob_f8581x205 P) .nil .nil))
noncomputable def bt275 (P : Params) : BT := (.node (ob_f1074x109 P) (.node (ob_f6565x173 P) .nil .nil) (.node (ob_f8581x237 P) .nil .nil))
noncomputable def bt276 (P : Params) : BT := (.node (ob_f1074x93 P) (.node (ob_f4815x157 P) .nil .nil) (.node (ob_f8581x221 P) .nil .nil))
noncomputable def bt277 (P : Params) : BT := (.node (ob_p4x29 P) (.node (ob_p4x45 P) (bt274 P) (bt275 P)) (.node (ob_p5x61 P) (bt276 P) (bt206 P)))
noncomputable def bt278 (P : Params) : BT := (.node (PySem.W.boot_o_5 P) (.node (PySem.W.boot_o_9 P) (bt265 P) (bt269 P)) (.node (ob_ox13 P) (bt273 P) (bt277 P)))
noncomputable def bt279 (P : Params) : BT := (.node (ob_f1074x96 P) (.node (ob_f6565x160 P) .nil .nil) (.node (ob_f8581x224 P) .nil .nil))
noncomputable def bt280 (P : Params) : BT := (.node (ob_f1074x80 P) (.node (ob_f4815x144 P) .nil .nil) (.node (ob_f8581x208 P) .nil .nil))
noncomputable def bt281 (P : Params) : BT := (.node (ob_f3041x112 P) (.node (ob_f6565x176 P) .nil .nil) (.node (ob_f8581x240 P) .nil .nil))
noncomputable def bt282 (P : Params) : BT := (.node (ob_ox16 P) (.node (ob_p4x32 P) (bt209 P) (bt279 P)) (.node (ob_p4x48 P) (bt280 P) (bt281 P)))
noncomputable def bt283 (P : Params) : BT := (.node (ob_f1074x72 P) (.node (ob_f4815x136 P) .nil .nil) (.node (ob_f8581x200 P) .nil .nil))
noncomputable def bt284 (P : Params) : BT := (.node (ob_f1074x104 P) (.node (ob_f6565x168 P) .nil .nil) (.node (ob_f8581x232 P) .nil .nil))
noncomputable def bt285 (P : Params) : BT := (.node (ob_f1074x88 P) (.node (ob_f4815x152 P) .nil .nil) (.node (ob_f8581x216 P) .nil .nil))
noncomputable def bt286 (P : Params) : BT := (.node (ob_ox24 P) (.node (ob_p4x40 P) (bt283 P) (bt284 P)) (.node (ob_p4x56 P) (bt285 P) (bt214 P)))
noncomputable def bt287 (P : Params) : BT := (.node (ob_f1074x100 P) (.node (ob_f6565x164 P) .nil .nil) (.node (ob_f8581x228 P) .nil .nil))
noncomputable def bt288 (P : Params) : BT := (.node (ob_f1074x84 P) (.node (ob_f4815x148 P) .nil .nil) (.node (ob_f8581x212 P) .nil .nil))
noncomputable def bt289 (P : Params) : BT := (.node (ob_f4815x116 P) (.node (ob_f6565x180 P) .nil .nil) (.node (ob_f8581x244 P) .nil .nil))
noncomputable def bt290 (P : Params) : BT := (.node (ob_ox20 P) (.node (ob_p4x36 P) (bt216 P) (bt287 P)) (.node (ob_p4x52 P) (bt288 P) (bt289 P)))
noncomputable def bt291 (P : Params) : BT := (.node (ob_f1074x76 P) (.node (ob_f4815x140 P) .nil .nil) (.node (ob_f8581x204 P) .nil .nil))
noncomputable def bt292 (P : Params) : BT := (.node (ob_f1074x108 P) (.node (ob_f6565x172 P) .nil .nil) (.node (ob_f8581x236 P) .nil .nil))
noncomputable def bt293 (P : Params) : BT := (.node (ob_f1074x92 P) (.node (ob_f4815x156 P) .nil .nil) (.node (ob_f8581x220 P) .nil .nil))
noncomputable def bt294 (P : Params) : BT := (.node (ob_bx28 P) (.node (ob_p4x44 P) (bt291 P) (bt292 P)) (.node (ob_f8581x60 P) (bt293 P) (bt221 P)))
noncomputable def bt295 (P : Params) : BT := (.node (PySem.W.boot_o_4 P) (.node (PySem.W.boot_o_8 P) (bt282 P) (bt286 P)) (.node (ob_ox12 P) (bt290 P) (bt294 P)))
noncomputable def bt296 (P : Params) : BT := (.node (ob_f1074x98 P) (.node (ob_f6565x162 P) .nil .nil) (.node (ob_f8581x226 P) .nil .nil))
noncomputable def bt297 (P : Params) : BT := (.node (ob_f1074x82 P) (.node (ob_f4815x146 P) .nil .nil) (.node (ob_f8581x210 P) .nil .nil))
noncomputable def bt298 (P : Params) : BT := (.node (ob_f3041x114 P) (.node (ob_f6565x178 P) .nil .nil) (.node (ob_f8581x242 P) .nil .nil))
noncomputable def bt299 (P : Params) : BT := (.node (ob_ox18 P) (.node (ob_p4x34 P) (bt224 P) (bt296 P)) (.node (ob_p4x50 P) (bt297 P) (bt298 P)))
noncomputable def bt300 (P : Params) : BT := (.node (ob_f1074x74 P) (.node (ob_f4815x138 P) .nil .nil) (.node (ob_f8581x202 P) .nil .nil))
noncomputable def bt301 (P : Params) : BT := (.node (ob_f1074x106 P) (.node (ob_f6565x170 P) .nil .nil) (.node (ob_f8581x234 P) .nil .nil))
noncomputable def bt302 (P : Params) : BT := (.node (ob_f1074x90 P) (.node (ob_f4815x154 P) .nil .nil) (.node (ob_f8581x218 P) .nil .nil))
noncomputable def bt303 (P : Params) : BT := (.node (ob_ox26 P) (.node (ob_p4x42 P) (bt300 P) (bt301 P)) (.node (ob_p4x58 P) (bt302 P) (bt229 P)))
noncomputable def bt304 (P : Params) : BT := (.node (ob_f1074x102 P) (.node (ob_f6565x166 P) .nil .nil) (.node (ob_f8581x230 P) .nil .nil))
noncomputable def bt305 (P : Params) : BT := (.node (ob_f1074x86 P) (.node (ob_f4815x150 P) .nil .nil) (.node (ob_f8581x214 P) .nil .nil))
noncomputable def bt306 (P : Params) : BT := (.node (ob_f4815x118 P) (.node (ob_f6565x182 P) .nil .nil) (.node (ob_f8581x246 P) .nil .nil))
noncomputable def bt307 (P : Params) : BT := (.node (ob_ox22 P) (.node (ob_p4x38 P) (bt231 P) (bt304 P)) (.node (ob_p4x54 P) (bt305 P) (bt306 P)))
noncomputable def bt308 (P : Params) : BT := (.node (ob_f1074x78 P) (.node (ob_f4815x142 P) .nil .nil) (.node (ob_f8581x206 P) .nil .nil))
noncomputable def bt309 (P : Params) : BT := (.node (ob_f3041x110 P) (.node (ob_f6565x174 P) .nil .nil) (.node (ob_f8581x238 P) .nil .nil))
noncomputable def bt310 (P : Params) : BT := (.node (ob_f1074x94 P) (.node (ob_f6565x158 P) .nil .nil) (.node (ob_f8581x222 P) .nil .nil))
noncomputable def bt311 (P : Params) : BT := (.node (ob_bx30 P) (.node (ob_p4x46 P) (bt308 P) (bt309 P)) (.node (ob_p5x62 P) (bt310 P) (bt237 P)))
noncomputable def bt312 (P : Params) : BT := (.node (PySem.W.boot_o_6 P) (.node (PySem.W.boot_o_10 P) (bt299 P) (bt303 P)) (.node (ob_ox14 P) (bt307 P) (bt311 P)))
noncomputable def bt313 (P : Params) : BT := (.node (ob_ox0 P) (.node (ob_ox1 P) (bt261 P) (bt278 P)) (.node (ob_ox2 P) (bt295 P) (bt312 P)))
noncomputable def tree_f8581 (P : Params) : BT := (bt313 P)
noncomputable def S_f8581 (w : World) (os : OsState) : SharedT := ⟨tree_f8581 w.params, 248, {}, #[], {}, 740, os⟩
noncomputable def ob_p6x115 (P : Params) : Obj := ⟨(.type "list_iterator"), none, .fields (List.toArray [.none, (.int 44 0)]), #[]⟩
noncomputable def ob_p6x248 (P : Params) : Obj := ⟨(.type "tuple"), none, .seq (List.toArray []) 0, #[]⟩
noncomputable def ob_p6x249 (P : Params) : Obj := ⟨(.type "StopIteration"), none, .fields (List.toArray [(.ref 248), .none, .none, .none, (.bool false), .none]), #[]⟩
noncomputable def bt314 (P : Params) : BT := (.node (ob_p6x115 P) (.node (ob_f6565x179 P) .nil .nil) (.node (ob_f8581x243 P) .nil .nil))
noncomputable def bt315 (P : Params) : BT := (.node (ob_ox19 P) (.node (ob_p4x35 P) (bt186 P) (bt253 P)) (.node (ob_p4x51 P) (bt254 P) (bt314 P)))
noncomputable def bt316 (P : Params) : BT := (.node (ob_f8581x3 P) (.node (PySem.W.boot_o_7 P) (bt248 P) (bt252 P)) (.node (ob_ox11 P) (bt315 P) (bt260 P)))
noncomputable def bt317 (P : Params) : BT := (.node (ob_f4815x121 P) (.node (ob_f6565x185 P) .nil .nil) (.node (ob_p6x249 P) .nil .nil))
noncomputable def bt318 (P : Params) : BT := (.node (ob_ox25 P) (.node (ob_p4x41 P) (bt266 P) (bt267 P)) (.node (ob_p4x57 P) (bt268 P) (bt317 P)))
noncomputable def bt319 (P : Params) : BT := (.node (PySem.W.boot_o_5 P) (.node (PySem.W.boot_o_9 P) (bt265 P) (bt318 P)) (.node (ob_ox13 P) (bt273 P) (bt277 P)))
noncomputable def bt320 (P : Params) : BT := (.node (ob_f4815x120 P) (.node (ob_f6565x184 P) .nil .nil) (.node (ob_p6x248 P) .nil .nil))
noncomputable def bt321 (P : Params) : BT := (.node (ob_ox24 P) (.node (ob_p4x40 P) (bt283 P) (bt284 P)) (.node (ob_p4x56 P) (bt285 P) (bt320 P)))
noncomputable def bt322 (P : Params) : BT := (.node (PySem.W.boot_o_4 P) (.node (PySem.W.boot_o_8 P) (bt282 P) (bt321 P)) (.node (ob_ox12 P) (bt290 P) (bt294 P)))
noncomputable def bt323 (P : Params) : BT := (.node (ob_ox0 P) (.node (ob_ox1 P) (bt316 P) (bt319 P)) (.node (ob_ox2 P) (bt322 P) (bt312 P)))
noncomputable def tree_p6 (P : Params) : BT := (bt323 P)
noncomputable def S_p6 (w : World) (os : OsState) : SharedT := ⟨tree_p6 w.params, 250, {}, #[], {}, 740, os⟩
noncomputable def dl324 (P : Params) : List DictEntry := [⟨PyData.keyHash P (.ofString "__name__"), (.str (.ofString "__name__") 165), (.str (.ofString "cpy313.stringprep") 799)⟩, ⟨PyData.keyHash P (.ofString "__doc__"), (.str (.ofString "__doc__") 166), .none⟩, ⟨PyData.keyHash P (.ofString "__package__"), (.str (.ofString "__package__") 167), .none⟩, ⟨PyData.keyHash P (.ofString "__loader__"), (.str (.ofString "__loader__") 168), (.builtin "__main__.__loader__#opaque")⟩, ⟨PyData.keyHash P (.ofString "__spec__"), (.str (.ofString "__spec__") 169), .none⟩, ⟨PyData.keyHash P (.ofString "__annotations__"), (.str (.ofString "__annotations__") 170), (.ref 6)⟩, ⟨PyData.keyHash P (.ofString "__builtins__"), (.str (.ofString "__builtins__") 171), (.ref 4)⟩, ⟨PyData.keyHash P (.ofString "__file__"), (.str (.ofString "__file__") 173), (.str (.ofString "/claim/cut.py") 172)⟩]
noncomputable def dl325 (P : Params) : List DictEntry := [⟨PyData.keyHash P (.ofString "__cached__"), (.str (.ofString "__cached__") 174), .none⟩, ⟨PyData.keyHash P (.ofString "_sre"), (.str (.ofString "_sre") 275), (.ref 12)⟩, ⟨PyData.keyHash P (.ofString "_wall"), (.str (.ofString "_wall") 288), (.ref 38)⟩, ⟨PyData.keyHash P (.ofString "_strcoll"), (.str (.ofString "_strcoll") 298), (.ref 45)⟩, ⟨PyData.keyHash P (.ofString "_replace_encoding"), (.str (.ofString "_replace_encoding") 308), (.ref 52)⟩, ⟨PyData.keyHash P (.ofString "_append_modifier"), (.str (.ofString "_append_modifier") 318), (.ref 59)⟩, ⟨PyData.keyHash P (.ofString "locale_encoding_alias"), (.str (.ofString "locale_encoding_alias") 451), (.ref 60)⟩, ⟨PyData.keyHash P (.ofString "Flags"), (.str (.ofString "Flags") 790), (.ref 254)⟩]
noncomputable def dl326 (P : Params) : List DictEntry := [⟨PyData.keyHash P (.ofString "ParseFlags"), (.str (.ofString "ParseFlags") 798), (.ref 261)⟩]
noncomputable def ob_kx3 (P : Params) : Obj := ⟨(.type "dict"), none, .dict (List.toArray (dl324 P ++ (dl325 P ++ (dl326 P)))) 21, #[]⟩
noncomputable def ob_kx29 (P : Params) : Obj := ⟨.none, none, .fields (List.toArray [(.int 2 0), (.int 0 0), (.ref 37), (.int 6 0), (.int 0 0), (.ref 44), (.int 8 0), (.int 0 0), (.ref 51), (.int 25 0), (.int 0 0), (.ref 58), (.int 42 0), (.int 0 0), (.ref 260)]), #[]⟩
noncomputable def ob_kx250 (P : Params) : Obj := ⟨(.type "list"), none, .seq (List.toArray [(.int 14 745), (.int 4 746), (.int 0 747), (.int 8 748), (.int 4294967295 749), (.int 24 750), (.int 5 751), (.int 0 752), (.int 4294967295 753), (.int 2 754), (.int 1 755), (.int 16 756), (.int 70 757), (.int 16 758), (.int 76 759), (.int 16 760), (.int 65 761), (.int 16 762), (.int 71 763), (.int 16 764), (.int 83 765), (.int 16 766), (.int 32 767), (.int 16 768), (.int 40 769), (.int 17 770), (.int 0 771), (.int 24 772), (.int 6 773), (.int 0 774), (.int 4294967295 775), (.int 20 776), (.int 41 777), (.int 1 778), (.int 17 779), (.int 1 780), (.int 16 781), (.int 41 782), (.int 1 783)]) 0, #[]⟩
noncomputable def ob_kx251 (P : Params) : Obj := ⟨(.type "dict"), none, .dict (List.toArray [⟨PyData.keyHash P (.ofString "flags"), (.str (.ofString "flags") 785), (.int 1 786)⟩]) 1, #[]⟩
noncomputable def ob_kx252 (P : Params) : Obj := ⟨(.type "tuple"), none, .seq (List.toArray [.none, (.str (.ofString "flags") 788)]) 0, #[]⟩
noncomputable def ob_kx253 (P : Params) : Obj := ⟨(.type "tuple"), none, .seq (List.toArray [(.int 14 0), (.int 4 0), (.int 0 0), (.int 8 0), (.int 4294967295 0), (.int 24 0), (.int 5 0), (.int 0 0), (.int 4294967295 0), (.int 2 0), (.int 1 0), (.int 16 0), (.int 70 0), (.int 16 0), (.int 76 0), (.int 16 0), (.int 65 0), (.int 16 0), (.int 71 0), (.int 16 0), (.int 83 0), (.int 16 0), (.int 32 0), (.int 16 0), (.int 40 0), (.int 17 0), (.int 0 0), (.int 24 0), (.int 6 0), (.int 0 0), (.int 4294967295 0), (.int 20 0), (.int 41 0), (.int 1 0), (.int 17 0), (.int 1 0), (.int 16 0), (.int 41 0), (.int 1 0)]) 0, #[]⟩
noncomputable def ob_kx254 (P : Params) : Obj := ⟨(.type "re.Pattern"), none, .fields (List.toArray [(.bytes #[46, 42, 70, 76, 65, 71, 83, 32, 92, 40, 40, 63, 80, 60, 102, 108, 97, 103, 115, 62, 91, 94, 92, 41, 93, 42, 41, 92, 41] 743), (.int 0 789), (.int 1 0), (.ref 251), (.ref 252), (.ref 253), (.int 1 0)]), #[]⟩
noncomputable def ob_kx255 (P : Params) : Obj := ⟨(.type "tuple"), none, .seq (List.toArray []) 0, #[]⟩
noncomputable def ob_kx256 (P : Params) : Obj := ⟨.none, none, .fields (List.toArray []), #[]⟩
noncomputable def ob_kx257 (P : Params) : Obj := ⟨(.type "tuple"), none, .seq (List.toArray [(.str (.ofString "resp") 794), (.str (.ofString "mo") 795)]) 0, #[]⟩
noncomputable def ob_kx258 (P : Params) : Obj := ⟨(.type "tuple"), none, .seq (List.toArray []) 0, #[]⟩
noncomputable def ob_kx259 (P : Params) : Obj := ⟨.none, none, .func (fnAt 10 0 .none .none), #[]⟩
noncomputable def ob_kx260 (P : Params) : Obj := ⟨(.type "code"), none, .fields (List.toArray [(.str (.ofString "ParseFlags") 791), (.str (.ofString "ParseFlags") 792), (.str (.ofString "/claim/cut.py") 793), (.int 42 0), (.int 1 0), (.int 0 0), (.int 0 0), (.int 3 0), (.ref 255), (.bool true), (.int 276 0), (.ref 256), .none, (.ref 257), (.ref 258), (.ref 259), (.int 796 0), (.int 42 0), (.str (.ofString "/claim/cut.py") 797)]), #[]⟩
noncomputable def ob_kx261 (P : Params) : Obj := ⟨(.type "function"), none, .func (fnAt 10 3 (.str (.ofString "cpy313.imaplib") 740) (.ref 260)), #[]⟩
noncomputable def bt327 (P : Params) : BT := (.node (ob_f50x63 P) (.node (ob_f4815x127 P) (.node (ob_kx255 P) .nil .nil) .nil) (.node (ob_f6565x191 P) .nil .nil))
noncomputable def bt328 (P : Params) : BT := (.node (ob_ox15 P) (.node (ob_bx31 P) (bt327 P) (bt245 P)) (.node (ob_p4x47 P) (bt246 P) (bt247 P)))
noncomputable def bt329 (P : Params) : BT := (.node (ob_f1074x67 P) (.node (ob_f4815x131 P) (.node (ob_kx259 P) .nil .nil) .nil) (.node (ob_f6565x195 P) .nil .nil))
noncomputable def bt330 (P : Params) : BT := (.node (ob_ox19 P) (.node (ob_p4x35 P) (bt329 P) (bt253 P)) (.node (ob_p4x51 P) (bt254 P) (bt314 P)))
noncomputable def bt331 (P : Params) : BT := (.node (ob_f4815x123 P) (.node (ob_f6565x187 P) .nil .nil) (.node (ob_kx251 P) .nil .nil))
noncomputable def bt332 (P : Params) : BT := (.node (ob_ox27 P) (.node (ob_p4x43 P) (bt257 P) (bt258 P)) (.node (ob_p4x59 P) (bt259 P) (bt331 P)))
noncomputable def bt333 (P : Params) : BT := (.node (ob_kx3 P) (.node (PySem.W.boot_o_7 P) (bt328 P) (bt252 P)) (.node (ob_ox11 P) (bt330 P) (bt332 P)))
noncomputable def bt334 (P : Params) : BT := (.node (ob_f3041x65 P) (.node (ob_f4815x129 P) (.node (ob_kx257 P) .nil .nil) .nil) (.node (ob_f6565x193 P) .nil .nil))
noncomputable def bt335 (P : Params) : BT := (.node (ob_ox17 P) (.node (ob_p4x33 P) (bt334 P) (bt262 P)) (.node (ob_p4x49 P) (bt263 P) (bt264 P)))
noncomputable def bt336 (P : Params) : BT := (.node (ob_f1074x69 P) (.node (ob_f4815x133 P) (.node (ob_kx261 P) .nil .nil) .nil) (.node (ob_f6565x197 P) .nil .nil))
noncomputable def bt337 (P : Params) : BT := (.node (ob_ox21 P) (.node (ob_p4x37 P) (bt336 P) (bt270 P)) (.node (ob_p4x53 P) (bt271 P) (bt272 P)))
noncomputable def bt338 (P : Params) : BT := (.node (ob_f4815x125 P) (.node (ob_f6565x189 P) .nil .nil) (.node (ob_kx253 P) .nil .nil))
noncomputable def bt339 (P : Params) : BT := (.node (ob_kx29 P) (.node (ob_p4x45 P) (bt274 P) (bt275 P)) (.node (ob_p5x61 P) (bt276 P) (bt338 P)))
noncomputable def bt340 (P : Params) : BT := (.node (PySem.W.boot_o_5 P) (.node (PySem.W.boot_o_9 P) (bt335 P) (bt318 P)) (.node (ob_ox13 P) (bt337 P) (bt339 P)))
noncomputable def bt341 (P : Params) : BT := (.node (ob_f1074x64 P) (.node (ob_f4815x128 P) (.node (ob_kx256 P) .nil .nil) .nil) (.node (ob_f6565x192 P) .nil .nil))
noncomputable def bt342 (P : Params) : BT := (.node (ob_ox16 P) (.node (ob_p4x32 P) (bt341 P) (bt279 P)) (.node (ob_p4x48 P) (bt280 P) (bt281 P)))
noncomputable def bt343 (P : Params) : BT := (.node (ob_f1074x68 P) (.node (ob_f4815x132 P) (.node (ob_kx260 P) .nil .nil) .nil) (.node (ob_f6565x196 P) .nil .nil))
noncomputable def bt344 (P : Params) : BT := (.node (ob_ox20 P) (.node (ob_p4x36 P) (bt343 P) (bt287 P)) (.node (ob_p4x52 P) (bt288 P) (bt289 P)))
noncomputable def bt345 (P : Params) : BT := (.node (ob_f4815x124 P) (.node (ob_f6565x188 P) .nil .nil) (.node (ob_kx252 P) .nil .nil))
noncomputable def bt346 (P : Params) : BT := (.node (ob_bx28 P) (.node (ob_p4x44 P) (bt291 P) (bt292 P)) (.node (ob_f8581x60 P) (bt293 P) (bt345 P)))
noncomputable def bt347 (P : Params) : BT := (.node (PySem.W.boot_o_4 P) (.node (PySem.W.boot_o_8 P) (bt342 P) (bt321 P)) (.node (ob_ox12 P) (bt344 P) (bt346 P)))
noncomputable def bt348 (P : Params) : BT := (.node (ob_f1074x66 P) (.node (ob_f4815x130 P) (.node (ob_kx258 P) .nil .nil) .nil) (.node (ob_f6565x194 P) .nil .nil))
noncomputable def bt349 (P : Params) : BT := (.node (ob_ox18 P) (.node (ob_p4x34 P) (bt348 P) (bt296 P)) (.node (ob_p4x50 P) (bt297 P) (bt298 P)))
noncomputable def bt350 (P : Params) : BT := (.node (ob_f4815x122 P) (.node (ob_f6565x186 P) .nil .nil) (.node (ob_kx250 P) .nil .nil))
noncomputable def bt351 (P : Params) : BT := (.node (ob_ox26 P) (.node (ob_p4x42 P) (bt300 P) (bt301 P)) (.node (ob_p4x58 P) (bt302 P) (bt350 P)))
noncomputable def bt352 (P : Params) : BT := (.node (ob_f4815x126 P) (.node (ob_f6565x190 P) .nil .nil) (.node (ob_kx254 P) .nil .nil))
noncomputable def bt353 (P : Params) : BT := (.node (ob_bx30 P) (.node (ob_p4x46 P) (bt308 P) (bt309 P)) (.node (ob_p5x62 P) (bt310 P) (bt352 P)))
noncomputable def bt354 (P : Params) : BT := (.node (PySem.W.boot_o_6 P) (.node (PySem.W.boot_o_10 P) (bt349 P) (bt351 P)) (.node (ob_ox14 P) (bt307 P) (bt353 P)))
noncomputable def bt355 (P : Params) : BT := (.node (ob_ox0 P) (.node (ob_ox1 P) (bt333 P) (bt340 P)) (.node (ob_ox2 P) (bt347 P) (bt354 P)))
noncomputable def tree_k (P : Params) : BT := (bt355 P)
noncomputable def S_k (w : World) (os : OsState) : SharedT := ⟨tree_k w.params, 262, {}, #[], {}, 801, os⟩
noncomputable def ob_m1719x262 (P : Params) : Obj := ⟨(.type "list"), none, .seq (List.toArray [(.int 917505 801)]) 0, #[]⟩
noncomputable def ob_m1719x263 (P : Params) : Obj := ⟨(.type "range"), none, .fields (List.toArray [(.int 917536 802), (.int 917632 803), (.int 1 804)]), #[]⟩
noncomputable def ob_m1719x264 (P : Params) : Obj := ⟨(.type "list"), none, .seq (List.toArray [(.int 917536 807), (.int 917537 808), (.int 917538 809), (.int 917539 810), (.int 917540 811), (.int 917541 812), (.int 917542 813), (.int 917543 814), (.int 917544 815), (.int 917545 816), (.int 917546 817), (.int 917547 818), (.int 917548 819), (.int 917549 820), (.int 917550 821), (.int 917551 822), (.int 917552 823), (.int 917553 824), (.int 917554 825), (.int 917555 826), (.int 917556 827), (.int 917557 828), (.int 917558 829), (.int 917559 830), (.int 917560 831), (.int 917561 832), (.int 917562 833), (.int 917563 834), (.int 917564 835), (.int 917565 836), (.int 917566 837), (.int 917567 838), (.int 917568 839), (.int 917569 840), (.int 917570 841), (.int 917571 842), (.int 917572 843), (.int 917573 844), (.int 917574 845), (.int 917575 846), (.int 917576 847), (.int 917577 848), (.int 917578 849), (.int 917579 850), (.int 917580 851), (.int 917581 852), (.int 917582 853), (.int 917583 854), (.int 917584 855), (.int 917585 856), (.int 917586 857), (.int 917587 858), (.int 917588 859), (.int 917589 860), (.int 917590 861), (.int 917591 862), (.int 917592 863), (.int 917593 864), (.int 917594 865), (.int 917595 866), (.int 917596 867), (.int 917597 868), (.int 917598 869), (.int 917599 870), (.int 917600 871), (.int 917601 872), (.int 917602 873), (.int 917603 874), (.int 917604 875), (.int 917605 876), (.int 917606 877), (.int 917607 878), (.int 917608 879), (.int 917609 880), (.int 917610 881), (.int 917611 882), (.int 917612 883), (.int 917613 884), (.int 917614 885), (.int 917615 886), (.int 917616 887), (.int 917617 888), (.int 917618 889), (.int 917619 890), (.int 917620 891), (.int 917621 892), (.int 917622 893), (.int 917623 894), (.int 917624 895), (.int 917625 896), (.int 917626 897), (.int 917627 898), (.int 917628 899), (.int 917629 900), (.int 917630 901), (.int 917631 902)]) 98, #[]⟩
noncomputable def ob_m1719x265 (P : Params) : Obj := ⟨(.type "range_iterator"), none, .fields (List.toArray [(.int 917632 0), (.int 0 0), (.int 1 0)]), #[]⟩
noncomputable def bt356 (P : Params) : BT := (.node (ob_f1074x71 P) (.node (ob_f4815x135 P) (.node (ob_m1719x263 P) .nil .nil) .nil) (.node (ob_f6565x199 P) .nil .nil))
noncomputable def bt357 (P : Params) : BT := (.node (ob_ox23 P) (.node (ob_p4x39 P) (bt356 P) (bt249 P)) (.node (ob_p4x55 P) (bt250 P) (bt251 P)))
noncomputable def bt358 (P : Params) : BT := (.node (ob_kx3 P) (.node (PySem.W.boot_o_7 P) (bt328 P) (bt357 P)) (.node (ob_ox11 P) (bt330 P) (bt332 P)))
noncomputable def bt359 (P : Params) : BT := (.node (ob_f1074x73 P) (.node (ob_f4815x137 P) (.node (ob_m1719x265 P) .nil .nil) .nil) (.node (ob_f8581x201 P) .nil .nil))
noncomputable def bt360 (P : Params) : BT := (.node (ob_ox25 P) (.node (ob_p4x41 P) (bt359 P) (bt267 P)) (.node (ob_p4x57 P) (bt268 P) (bt317 P)))
noncomputable def bt361 (P : Params) : BT := (.node (PySem.W.boot_o_5 P) (.node (PySem.W.boot_o_9 P) (bt335 P) (bt360 P)) (.node (ob_ox13 P) (bt337 P) (bt339 P)))
noncomputable def bt362 (P : Params) : BT := (.node (ob_f1074x72 P) (.node (ob_f4815x136 P) (.node (ob_m1719x264 P) .nil .nil) .nil) (.node (ob_f8581x200 P) .nil .nil))
noncomputable def bt363 (P : Params) : BT := (.node (ob_ox24 P) (.node (ob_p4x40 P) (bt362 P) (bt284 P)) (.node (ob_p4x56 P) (bt285 P) (bt320 P)))
noncomputable def bt364 (P : Params) : BT := (.node (PySem.W.boot_o_4 P) (.node (PySem.W.boot_o_8 P) (bt342 P) (bt363 P)) (.node (ob_ox12 P) (bt344 P) (bt346 P)))
noncomputable def bt365 (P : Params) : BT := (.node (ob_f1074x70 P) (.node (ob_f4815x134 P) (.node (ob_m1719x262 P) .nil .nil) .nil) (.node (ob_f6565x198 P) .nil .nil))
noncomputable def bt366 (P : Params) : BT := (.node (ob_ox22 P) (.node (ob_p4x38 P) (bt365 P) (bt304 P)) (.node (ob_p4x54 P) (bt305 P) (bt306 P)))
noncomputable def bt367 (P : Params) : BT := (.node (PySem.W.boot_o_6 P) (.node (PySem.W.boot_o_10 P) (bt349 P) (bt351 P)) (.node (ob_ox14 P) (bt366 P) (bt353 P)))
noncomputable def bt368 (P : Params) : BT := (.node (ob_ox0 P) (.node (ob_ox1 P) (bt358 P) (bt361 P)) (.node (ob_ox2 P) (bt364 P) (bt367 P)))
noncomputable def tree_m1719 (P : Params) : BT := (bt368 P)
noncomputable def S_m1719 (w : World) (os : OsState) : SharedT := ⟨tree_m1719 w.params, 266, {}, #[], {}, 903, os⟩
noncomputable def ob_m1778x266 (P : Params) : Obj := ⟨(.type "tuple"), none, .seq (List.toArray []) 0, #[]⟩
noncomputable def ob_m1778x267 (P : Params) : Obj := ⟨(.type "StopIteration"), none, .fields (List.toArray [(.ref 266), .none, .none, .none, (.bool false), .none]), #[]⟩
noncomputable def ob_m1778x268 (P : Params) : Obj := ⟨(.type "list"), none, .seq (List.toArray [(.int 917505 801), (.int 917536 807), (.int 917537 808), (.int 917538 809), (.int 917539 810), (.int 917540 811), (.int 917541 812), (.int 917542 813), (.int 917543 814), (.int 917544 815), (.int 917545 816), (.int 917546 817), (.int 917547 818), (.int 917548 819), (.int 917549 820), (.int 917550 821), (.int 917551 822), (.int 917552 823), (.int 917553 824), (.int 917554 825), (.int 917555 826), (.int 917556 827), (.int 917557 828), (.int 917558 829), (.int 917559 830), (.int 917560 831), (.int 917561 832), (.int 917562 833), (.int 917563 834), (.int 917564 835), (.int 917565 836), (.int 917566 837), (.int 917567 838), (.int 917568 839), (.int 917569 840), (.int 917570 841), (.int 917571 842), (.int 917572 843), (.int 917573 844), (.int 917574 845), (.int 917575 846), (.int 917576 847), (.int 917577 848), (.int 917578 849), (.int 917579 850), (.int 917580 851), (.int 917581 852), (.int 917582 853), (.int 917583 854), (.int 917584 855), (.int 917585 856), (.int 917586 857), (.int 917587 858), (.int 917588 859), (.int 917589 860), (.int 917590 861), (.int 917591 862), (.int 917592 863), (.int 917593 864), (.int 917594 865), (.int 917595 866), (.int 917596 867), (.int 917597 868), (.int 917598 869), (.int 917599 870), (.int 917600 871), (.int 917601 872), (.int 917602 873), (.int 917603 874), (.int 917604 875), (.int 917605 876), (.int 917606 877), (.int 917607 878), (.int 917608 879), (.int 917609 880), (.int 917610 881), (.int 917611 882), (.int 917612 883), (.int 917613 884), (.int 917614 885), (.int 917615 886), (.int 917616 887), (.int 917617 888), (.int 917618 889), (.int 917619 890), (.int 917620 891), (.int 917621 892), (.int 917622 893), (.int 917623 894), (.int 917624 895), (.int 917625 896), (.int 917626 897), (.int 917627 898), (.int 917628 899), (.int 917629 900), (.int 917630 901), (.int 917631 902)]) 0, #[]⟩
noncomputable def ob_m1778x269 (P : Params) : Obj := ⟨(.type "set"), none, .set (List.toArray []) 0 ⟨7, #[], #[], 0, !P.followText "set-order", 0, true⟩, #[]⟩
noncomputable def ob_m1778x270 (P : Params) : Obj := ⟨(.type "list_iterator"), none, .fields (List.toArray [(.ref 268), (.int 0 0)]), #[]⟩
noncomputable def bt369 (P : Params) : BT := (.node (ob_f1074x75 P) (.node (ob_f4815x139 P) (.node (ob_m1778x267 P) .nil .nil) .nil) (.node (ob_f8581x203 P) .nil .nil))
noncomputable def bt370 (P : Params) : BT := (.node (ob_ox27 P) (.node (ob_p4x43 P) (bt369 P) (bt258 P)) (.node (ob_p4x59 P) (bt259 P) (bt331 P)))
noncomputable def bt371 (P : Params) : BT := (.node (ob_kx3 P) (.node (PySem.W.boot_o_7 P) (bt328 P) (bt357 P)) (.node (ob_ox11 P) (bt330 P) (bt370 P)))
noncomputable def bt372 (P : Params) : BT := (.node (ob_f1074x77 P) (.node (ob_f4815x141 P) (.node (ob_m1778x269 P) .nil .nil) .nil) (.node (ob_f8581x205 P) .nil .nil))
noncomputable def bt373 (P : Params) : BT := (.node (ob_kx29 P) (.node (ob_p4x45 P) (bt372 P) (bt275 P)) (.node (ob_p5x61 P) (bt276 P) (bt338 P)))
noncomputable def bt374 (P : Params) : BT := (.node (PySem.W.boot_o_5 P) (.node (PySem.W.boot_o_9 P) (bt335 P) (bt360 P)) (.node (ob_ox13 P) (bt337 P) (bt373 P)))
noncomputable def bt375 (P : Params) : BT := (.node (ob_f1074x76 P) (.node (ob_f4815x140 P) (.node (ob_m1778x268 P) .nil .nil) .nil) (.node (ob_f8581x204 P) .nil .nil))
noncomputable def bt376 (P : Params) : BT := (.node (ob_bx28 P) (.node (ob_p4x44 P) (bt375 P) (bt292 P)) (.node (ob_f8581x60 P) (bt293 P) (bt345 P)))
noncomputable def bt377 (P : Params) : BT := (.node (PySem.W.boot_o_4 P) (.node (PySem.W.boot_o_8 P) (bt342 P) (bt363 P)) (.node (ob_ox12 P) (bt344 P) (bt376 P)))
noncomputable def bt378 (P : Params) : BT := (.node (ob_f1074x74 P) (.node (ob_f4815x138 P) (.node (ob_m1778x266 P) .nil .nil) .nil) (.node (ob_f8581x202 P) .nil .nil))
noncomputable def bt379 (P : Params) : BT := (.node (ob_ox26 P) (.node (ob_p4x42 P) (bt378 P) (bt301 P)) (.node (ob_p4x58 P) (bt302 P) (bt350 P)))
noncomputable def bt380 (P : Params) : BT := (.node (ob_f1074x78 P) (.node (ob_f4815x142 P) (.node (ob_m1778x270 P) .nil .nil) .nil) (.node (ob_f8581x206 P) .nil .nil))
noncomputable def bt381 (P : Params) : BT := (.node (ob_bx30 P) (.node (ob_p4x46 P) (bt380 P) (bt309 P)) (.node (ob_p5x62 P) (bt310 P) (bt352 P)))
noncomputable def bt382 (P : Params) : BT := (.node (PySem.W.boot_o_6 P) (.node (PySem.W.boot_o_10 P) (bt349 P) (bt379 P)) (.node (ob_ox14 P) (bt366 P) (bt381 P)))
noncomputable def bt383 (P : Params) : BT := (.node (ob_ox0 P) (.node (ob_ox1 P) (bt371 P) (bt374 P)) (.node (ob_ox2 P) (bt377 P) (bt382 P)))
noncomputable def tree_m1778 (P : Params) : BT := (bt383 P)
noncomputable def S_m1778 (w : World) (os : OsState) : SharedT := ⟨tree_m1778 w.params, 271, {}, #[], {}, 903, os⟩
noncomputable def dl384 (P : Params) : List DictEntry := [⟨PyData.keyHash P (.ofString "ParseFlags"), (.str (.ofString "ParseFlags") 798), (.ref 261)⟩, ⟨PyData.keyHash P (.ofString "c9_set"), (.str (.ofString "c9_set") 1000), (.ref 269)⟩]
noncomputable def ob_cx3 (P : Params) : Obj := ⟨(.type "dict"), none, .dict (List.toArray (dl324 P ++ (dl325 P ++ (dl384 P)))) 22, #[]⟩
noncomputable def ob_cx269 (P : Params) : Obj := ⟨(.type "set"), none, .set (List.toArray [(917505, (.int 917505 801)), (917536, (.int 917536 807)), (917537, (.int 917537 808)), (917538, (.int 917538 809)), (917539, (.int 917539 810)), (917540, (.int 917540 811)), (917541, (.int 917541 812)), (917542, (.int 917542 813)), (917543, (.int 917543 814)), (917544, (.int 917544 815)), (917545, (.int 917545 816)), (917546, (.int 917546 817)), (917547, (.int 917547 818)), (917548, (.int 917548 819)), (917549, (.int 917549 820)), (917550, (.int 917550 821)), (917551, (.int 917551 822)), (917552, (.int 917552 823)), (917553, (.int 917553 824)), (917554, (.int 917554 825)), (917555, (.int 917555 826)), (917556, (.int 917556 827)), (917557, (.int 917557 828)), (917558, (.int 917558 829)), (917559, (.int 917559 830)), (917560, (.int 917560 831)), (917561, (.int 917561 832)), (917562, (.int 917562 833)), (917563, (.int 917563 834)), (917564, (.int 917564 835)), (917565, (.int 917565 836)), (917566, (.int 917566 837)), (917567, (.int 917567 838)), (917568, (.int 917568 839)), (917569, (.int 917569 840)), (917570, (.int 917570 841)), (917571, (.int 917571 842)), (917572, (.int 917572 843)), (917573, (.int 917573 844)), (917574, (.int 917574 845)), (917575, (.int 917575 846)), (917576, (.int 917576 847)), (917577, (.int 917577 848)), (917578, (.int 917578 849)), (917579, (.int 917579 850)), (917580, (.int 917580 851)), (917581, (.int 917581 852)), (917582, (.int 917582 853)), (917583, (.int 917583 854)), (917584, (.int 917584 855)), (917585, (.int 917585 856)), (917586, (.int 917586 857)), (917587, (.int 917587 858)), (917588, (.int 917588 859)), (917589, (.int 917589 860)), (917590, (.int 917590 861)), (917591, (.int 917591 862)), (917592, (.int 917592 863)), (917593, (.int 917593 864)), (917594, (.int 917594 865)), (917595, (.int 917595 866)), (917596, (.int 917596 867)), (917597, (.int 917597 868)), (917598, (.int 917598 869)), (917599, (.int 917599 870)), (917600, (.int 917600 871)), (917601, (.int 917601 872)), (917602, (.int 917602 873)), (917603, (.int 917603 874)), (917604, (.int 917604 875)), (917605, (.int 917605 876)), (917606, (.int 917606 877)), (917607, (.int 917607 878)), (917608, (.int 917608 879)), (917609, (.int 917609 880)), (917610, (.int 917610 881)), (917611, (.int 917611 882)), (917612, (.int 917612 883)), (917613, (.int 917613 884)), (917614, (.int 917614 885)), (917615, (.int 917615 886)), (917616, (.int 917616 887)), (917617, (.int 917617 888)), (917618, (.int 917618 889)), (917619, (.int 917619 890)), (917620, (.int 917620 891)), (917621, (.int 917621 892)), (917622, (.int 917622 893)), (917623, (.int 917623 894)), (917624, (.int 917624 895)), (917625, (.int 917625 896)), (917626, (.int 917626 897)), (917627, (.int 917627 898)), (917628, (.int 917628 899)), (917629, (.int 917629 900)), (917630, (.int 917630 901)), (917631, (.int 917631 902))]) 100 ⟨511, #[1, 32, 33, 34, 35, 36, 37, 38, 39, 40, 41, 42, 43, 44, 45, 46, 47, 48, 49, 50, 51, 52, 53, 54, 55, 56, 57, 58, 59, 60, 61, 62, 63, 64, 65, 66, 67, 68, 69, 70, 71, 72, 73, 74, 75, 76, 77, 78, 79, 80, 81, 82, 83, 84, 85, 86, 87, 88, 89, 90, 91, 92, 93, 94, 95, 96, 97, 98, 99, 100, 101, 102, 103, 104, 105, 106, 107, 108, 109, 110, 111, 112, 113, 114, 115, 116, 117, 118, 119, 120, 121, 122, 123, 124, 125, 126, 127], #[], 0, !P.followText "set-order", 3, true⟩, #[]⟩
noncomputable def ob_cx270 (P : Params) : Obj := ⟨(.type "list_iterator"), none, .fields (List.toArray [.none, (.int 97 0)]), #[]⟩
noncomputable def ob_cx271 (P : Params) : Obj := ⟨(.type "tuple"), none, .seq (List.toArray []) 0, #[]⟩
noncomputable def ob_cx272 (P : Params) : Obj := ⟨(.type "StopIteration"), none, .fields (List.toArray [(.ref 271), .none, .none, .none, (.bool false), .none]), #[]⟩
noncomputable def bt385 (P : Params) : BT := (.node (ob_f1074x79 P) (.node (ob_f4815x143 P) (.node (ob_cx271 P) .nil .nil) .nil) (.node (ob_f8581x207 P) .nil .nil))
noncomputable def bt386 (P : Params) : BT := (.node (ob_ox15 P) (.node (ob_bx31 P) (bt327 P) (bt245 P)) (.node (ob_p4x47 P) (bt385 P) (bt247 P)))
noncomputable def bt387 (P : Params) : BT := (.node (ob_cx3 P) (.node (PySem.W.boot_o_7 P) (bt386 P) (bt357 P)) (.node (ob_ox11 P) (bt330 P) (bt370 P)))
noncomputable def bt388 (P : Params) : BT := (.node (ob_f1074x77 P) (.node (ob_f4815x141 P) (.node (ob_cx269 P) .nil .nil) .nil) (.node (ob_f8581x205 P) .nil .nil))
noncomputable def bt389 (P : Params) : BT := (.node (ob_kx29 P) (.node (ob_p4x45 P) (bt388 P) (bt275 P)) (.node (ob_p5x61 P) (bt276 P) (bt338 P)))
noncomputable def bt390 (P : Params) : BT := (.node (PySem.W.boot_o_5 P) (.node (PySem.W.boot_o_9 P) (bt335 P) (bt360 P)) (.node (ob_ox13 P) (bt337 P) (bt389 P)))
noncomputable def bt391 (P : Params) : BT := (.node (ob_f1074x80 P) (.node (ob_f4815x144 P) (.node (ob_cx272 P) .nil .nil) .nil) (.node (ob_f8581x208 P) .nil .nil))
noncomputable def bt392 (P : Params) : BT := (.node (ob_ox16 P) (.node (ob_p4x32 P) (bt341 P) (bt279 P)) (.node (ob_p4x48 P) (bt391 P) (bt281 P)))
noncomputable def bt393 (P : Params) : BT := (.node (PySem.W.boot_o_4 P) (.node (PySem.W.boot_o_8 P) (bt392 P) (bt363 P)) (.node (ob_ox12 P) (bt344 P) (bt376 P)))
noncomputable def bt394 (P : Params) : BT := (.node (ob_f1074x78 P) (.node (ob_f4815x142 P) (.node (ob_cx270 P) .nil .nil) .nil) (.node (ob_f8581x206 P) .nil .nil))
noncomputable def bt395 (P : Params) : BT := (.node (ob_bx30 P) (.node (ob_p4x46 P) (bt394 P) (bt309 P)) (.node (ob_p5x62 P) (bt310 P) (bt352 P)))
noncomputable def bt396 (P : Params) : BT := (.node (PySem.W.boot_o_6 P) (.node (PySem.W.boot_o_10 P) (bt349 P) (bt379 P)) (.node (ob_ox14 P) (bt366 P) (bt395 P)))
noncomputable def bt397 (P : Params) : BT := (.node (ob_ox0 P) (.node (ob_ox1 P) (bt387 P) (bt390 P)) (.node (ob_ox2 P) (bt393 P) (bt396 P)))
noncomputable def tree_c (P : Params) : BT := (bt397 P)
noncomputable def S_c (w : World) (os : OsState) : SharedT := ⟨tree_c w.params, 273, {}, #[], {}, 1001, os⟩
noncomputable def dl398 (P : Params) : List DictEntry := [⟨PyData.keyHash P (.ofString "__name__"), (.str (.ofString "__name__") 165), (.str (.ofString "law_kl0204_01") 1008)⟩, ⟨PyData.keyHash P (.ofString "__doc__"), (.str (.ofString "__doc__") 166), .none⟩, ⟨PyData.keyHash P (.ofString "__package__"), (.str (.ofString "__package__") 167), .none⟩, ⟨PyData.keyHash P (.ofString "__loader__"), (.str (.ofString "__loader__") 168), (.builtin "__main__.__loader__#opaque")⟩, ⟨PyData.keyHash P (.ofString "__spec__"), (.str (.ofString "__spec__") 169), .none⟩, ⟨PyData.keyHash P (.ofString "__annotations__"), (.str (.ofString "__annotations__") 170), (.ref 6)⟩, ⟨PyData.keyHash P (.ofString "__builtins__"), (.str (.ofString "__builtins__") 171), (.ref 4)⟩, ⟨PyData.keyHash P (.ofString "__file__"), (.str (.ofString "__file__") 173), (.str (.ofString "/claim/cut.py") 172)⟩]
noncomputable def dl399 (P : Params) : List DictEntry := [⟨PyData.keyHash P (.ofString "ParseFlags"), (.str (.ofString "ParseFlags") 798), (.ref 261)⟩, ⟨PyData.keyHash P (.ofString "c9_set"), (.str (.ofString "c9_set") 1000), (.ref 269)⟩, ⟨PyData.keyHash P (.ofString "in_table_c9"), (.str (.ofString "in_table_c9") 1007), (.ref 279)⟩, ⟨PyData.keyHash P (.ofString "_law_cells"), (.str (.ofString "_law_cells") 1018), (.ref 286)⟩, ⟨PyData.keyHash P (.ofString "_law_page"), (.str (.ofString "_law_page") 1029), (.ref 293)⟩, ⟨PyData.keyHash P (.ofString "_law_reply"), (.str (.ofString "_law_reply") 1035), (.ref 298)⟩, ⟨PyData.keyHash P (.ofString "_law_over"), (.str (.ofString "_law_over") 1046), (.ref 305)⟩, ⟨PyData.keyHash P (.ofString "_law_is_up"), (.str (.ofString "_law_is_up") 1052), (.ref 310)⟩]
noncomputable def dl400 (P : Params) : List DictEntry := [⟨PyData.keyHash P (.ofString "_law_three"), (.str (.ofString "_law_three") 1062), (.ref 317)⟩, ⟨PyData.keyHash P (.ofString "_law_four"), (.str (.ofString "_law_four") 1073), (.ref 324)⟩, ⟨PyData.keyHash P (.ofString "law"), (.str (.ofString "law") 1079), (.ref 329)⟩]
noncomputable def ob_dx3 (P : Params) : Obj := ⟨(.type "dict"), none, .dict (List.toArray (dl398 P ++ (dl325 P ++ (dl399 P ++ (dl400 P))))) 31, #[]⟩
noncomputable def ob_dx29 (P : Params) : Obj := ⟨.none, none, .fields (List.toArray [(.int 2 0), (.int 0 0), (.ref 37), (.int 6 0), (.int 0 0), (.ref 44), (.int 8 0), (.int 0 0), (.ref 51), (.int 25 0), (.int 0 0), (.ref 58), (.int 42 0), (.int 0 0), (.ref 260), (.int 49 0), (.int 0 0), (.ref 278), (.int 52 0), (.int 0 0), (.ref 285), (.int 57 0), (.int 0 0), (.ref 292), (.int 65 0), (.int 0 0), (.ref 297), (.int 72 0), (.int 0 0), (.ref 304), (.int 86 0), (.int 0 0), (.ref 309), (.int 92 0), (.int 0 0), (.ref 316), (.int 99 0), (.int 0 0), (.ref 323), (.int 109 0), (.int 0 0), (.ref 328)]), #[]⟩
noncomputable def ob_dx273 (P : Params) : Obj := ⟨(.type "tuple"), none, .seq (List.toArray []) 0, #[]⟩
noncomputable def ob_dx274 (P : Params) : Obj := ⟨.none, none, .fields (List.toArray []), #[]⟩
noncomputable def ob_dx275 (P : Params) : Obj := ⟨(.type "tuple"), none, .seq (List.toArray [(.str (.ofString "code") 1004)]) 0, #[]⟩
noncomputable def ob_dx276 (P : Params) : Obj := ⟨(.type "tuple"), none, .seq (List.toArray []) 0, #[]⟩
noncomputable def ob_dx277 (P : Params) : Obj := ⟨.none, none, .func (fnAt 13 0 .none .none), #[]⟩
noncomputable def ob_dx278 (P : Params) : Obj := ⟨(.type "code"), none, .fields (List.toArray [(.str (.ofString "in_table_c9") 1001), (.str (.ofString "in_table_c9") 1002), (.str (.ofString "/claim/cut.py") 1003), (.int 49 0), (.int 1 0), (.int 0 0), (.int 0 0), (.int 3 0), (.ref 273), (.bool true), (.int 276 0), (.ref 274), .none, (.ref 275), (.ref 276), (.ref 277), (.int 1005 0), (.int 49 0), (.str (.ofString "/claim/cut.py") 1006)]), #[]⟩
noncomputable def ob_dx279 (P : Params) : Obj := ⟨(.type "function"), none, .func (fnAt 13 3 (.str (.ofString "cpy313.stringprep") 799) (.ref 278)), #[]⟩
noncomputable def ob_dx280 (P : Params) : Obj := ⟨(.type "tuple"), none, .seq (List.toArray []) 0, #[]⟩
noncomputable def ob_dx281 (P : Params) : Obj := ⟨.none, none, .fields (List.toArray []), #[]⟩
noncomputable def ob_dx282 (P : Params) : Obj := ⟨(.type "tuple"), none, .seq (List.toArray [(.str (.ofString "script") 1013), (.str (.ofString "cells") 1014), (.str (.ofString "k_v") 1015)]) 0, #[]⟩
noncomputable def ob_dx283 (P : Params) : Obj := ⟨(.type "tuple"), none, .seq (List.toArray []) 0, #[]⟩
noncomputable def ob_dx284 (P : Params) : Obj := ⟨.none, none, .func (fnAt 15 0 .none .none), #[]⟩
noncomputable def ob_dx285 (P : Params) : Obj := ⟨(.type "code"), none, .fields (List.toArray [(.str (.ofString "_law_cells") 1010), (.str (.ofString "_law_cells") 1011), (.str (.ofString "/claim/cut.py") 1012), (.int 52 0), (.int 1 0), (.int 0 0), (.int 0 0), (.int 3 0), (.ref 280), (.bool true), (.int 276 0), (.ref 281), .none, (.ref 282), (.ref 283), (.ref 284), (.int 1016 0), (.int 52 0), (.str (.ofString "/claim/cut.py") 1017)]), #[]⟩
noncomputable def ob_dx286 (P : Params) : Obj := ⟨(.type "function"), none, .func (fnAt 15 3 (.str (.ofString "law_kl0204_01") 1008) (.ref 285)), #[]⟩
noncomputable def ob_dx287 (P : Params) : Obj := ⟨(.type "tuple"), none, .seq (List.toArray []) 0, #[]⟩
noncomputable def ob_dx288 (P : Params) : Obj := ⟨.none, none, .fields (List.toArray []), #[]⟩
noncomputable def ob_dx289 (P : Params) : Obj := ⟨(.type "tuple"), none, .seq (List.toArray [(.str (.ofString "names") 1022), (.str (.ofString "look") 1023), (.str (.ofString "beside") 1024), (.str (.ofString "page") 1025), (.str (.ofString "k_v") 1026)]) 0, #[]⟩
noncomputable def ob_dx290 (P : Params) : Obj := ⟨(.type "tuple"), none, .seq (List.toArray []) 0, #[]⟩
noncomputable def ob_dx291 (P : Params) : Obj := ⟨.none, none, .func (fnAt 16 0 .none .none), #[]⟩
noncomputable def ob_dx292 (P : Params) : Obj := ⟨(.type "code"), none, .fields (List.toArray [(.str (.ofString "_law_page") 1019), (.str (.ofString "_law_page") 1020), (.str (.ofString "/claim/cut.py") 1021), (.int 57 0), (.int 2 0), (.int 0 0), (.int 0 0), (.int 3 0), (.ref 287), (.bool true), (.int 276 0), (.ref 288), .none, (.ref 289), (.ref 290), (.ref 291), (.int 1027 0), (.int 57 0), (.str (.ofString "/claim/cut.py") 1028)]), #[]⟩
noncomputable def ob_dx293 (P : Params) : Obj := ⟨(.type "function"), none, .func (fnAt 16 3 (.str (.ofString "law_kl0204_01") 1008) (.ref 292)), #[]⟩
noncomputable def ob_dx294 (P : Params) : Obj := ⟨(.type "tuple"), none, .seq (List.toArray []) 0, #[]⟩
noncomputable def ob_dx295 (P : Params) : Obj := ⟨.none, none, .fields (List.toArray []), #[]⟩
noncomputable def ob_dx296 (P : Params) : Obj := ⟨.none, none, .func (fnAt 17 0 .none .none), #[]⟩
noncomputable def ob_dx297 (P : Params) : Obj := ⟨(.type "code"), none, .fields (List.toArray [(.str (.ofString "_law_reply") 1030), (.str (.ofString "_law_reply") 1031), (.str (.ofString "/claim/cut.py") 1032), (.int 65 0), (.int 2 0), (.int 0 0), (.int 0 0), (.int 3 0), (.ref 294), (.bool true), (.int 276 0), (.ref 295), .none, .none, .none, (.ref 296), (.int 1033 0), (.int 65 0), (.str (.ofString "/claim/cut.py") 1034)]), #[]⟩
noncomputable def ob_dx298 (P : Params) : Obj := ⟨(.type "function"), none, .func (fnAt 17 3 (.str (.ofString "law_kl0204_01") 1008) (.ref 297)), #[]⟩
noncomputable def ob_dx299 (P : Params) : Obj := ⟨(.type "tuple"), none, .seq (List.toArray []) 0, #[]⟩
noncomputable def ob_dx300 (P : Params) : Obj := ⟨.none, none, .fields (List.toArray []), #[]⟩
noncomputable def ob_dx301 (P : Params) : Obj := ⟨(.type "tuple"), none, .seq (List.toArray [(.str (.ofString "names") 1039), (.str (.ofString "ground") 1040), (.str (.ofString "pile") 1041), (.str (.ofString "left") 1042), (.str (.ofString "name") 1043)]) 0, #[]⟩
noncomputable def ob_dx302 (P : Params) : Obj := ⟨(.type "tuple"), none, .seq (List.toArray []) 0, #[]⟩
noncomputable def ob_dx303 (P : Params) : Obj := ⟨.none, none, .func (fnAt 18 0 .none .none), #[]⟩
noncomputable def ob_dx304 (P : Params) : Obj := ⟨(.type "code"), none, .fields (List.toArray [(.str (.ofString "_law_over") 1036), (.str (.ofString "_law_over") 1037), (.str (.ofString "/claim/cut.py") 1038), (.int 72 0), (.int 2 0), (.int 0 0), (.int 0 0), (.int 3 0), (.ref 299), (.bool true), (.int 276 0), (.ref 300), .none, (.ref 301), (.ref 302), (.ref 303), (.int 1044 0), (.int 72 0), (.str (.ofString "/claim/cut.py") 1045)]), #[]⟩
noncomputable def ob_dx305 (P : Params) : Obj := ⟨(.type "function"), none, .func (fnAt 18 3 (.str (.ofString "law_kl0204_01") 1008) (.ref 304)), #[]⟩
noncomputable def ob_dx306 (P : Params) : Obj := ⟨(.type "tuple"), none, .seq (List.toArray []) 0, #[]⟩
noncomputable def ob_dx307 (P : Params) : Obj := ⟨.none, none, .fields (List.toArray []), #[]⟩
noncomputable def ob_dx308 (P : Params) : Obj := ⟨.none, none, .func (fnAt 19 0 .none .none), #[]⟩
noncomputable def ob_dx309 (P : Params) : Obj := ⟨(.type "code"), none, .fields (List.toArray [(.str (.ofString "_law_is_up") 1047), (.str (.ofString "_law_is_up") 1048), (.str (.ofString "/claim/cut.py") 1049), (.int 86 0), (.int 1 0), (.int 0 0), (.int 0 0), (.int 3 0), (.ref 306), (.bool true), (.int 276 0), (.ref 307), .none, .none, .none, (.ref 308), (.int 1050 0), (.int 86 0), (.str (.ofString "/claim/cut.py") 1051)]), #[]⟩
noncomputable def ob_dx310 (P : Params) : Obj := ⟨(.type "function"), none, .func (fnAt 19 3 (.str (.ofString "law_kl0204_01") 1008) (.ref 309)), #[]⟩
noncomputable def ob_dx311 (P : Params) : Obj := ⟨(.type "tuple"), none, .seq (List.toArray []) 0, #[]⟩
noncomputable def ob_dx312 (P : Params) : Obj := ⟨.none, none, .fields (List.toArray []), #[]⟩
noncomputable def ob_dx313 (P : Params) : Obj := ⟨(.type "tuple"), none, .seq (List.toArray [(.str (.ofString "row") 1056), (.str (.ofString "p") 1057), (.str (.ofString "q") 1058), (.str (.ofString "r") 1059)]) 0, #[]⟩
noncomputable def ob_dx314 (P : Params) : Obj := ⟨(.type "tuple"), none, .seq (List.toArray []) 0, #[]⟩
noncomputable def ob_dx315 (P : Params) : Obj := ⟨.none, none, .func (fnAt 20 0 .none .none), #[]⟩
noncomputable def ob_dx316 (P : Params) : Obj := ⟨(.type "code"), none, .fields (List.toArray [(.str (.ofString "_law_three") 1053), (.str (.ofString "_law_three") 1054), (.str (.ofString "/claim/cut.py") 1055), (.int 92 0), (.int 1 0), (.int 0 0), (.int 0 0), (.int 3 0), (.ref 311), (.bool true), (.int 276 0), (.ref 312), .none, (.ref 313), (.ref 314), (.ref 315), (.int 1060 0), (.int 92 0), (.str (.ofString "/claim/cut.py") 1061)]), #[]⟩
noncomputable def ob_dx317 (P : Params) : Obj := ⟨(.type "function"), none, .func (fnAt 20 3 (.str (.ofString "law_kl0204_01") 1008) (.ref 316)), #[]⟩
noncomputable def ob_dx318 (P : Params) : Obj := ⟨(.type "tuple"), none, .seq (List.toArray []) 0, #[]⟩
noncomputable def ob_dx319 (P : Params) : Obj := ⟨.none, none, .fields (List.toArray []), #[]⟩
noncomputable def ob_dx320 (P : Params) : Obj := ⟨(.type "tuple"), none, .seq (List.toArray [(.str (.ofString "row") 1066), (.str (.ofString "p") 1067), (.str (.ofString "q") 1068), (.str (.ofString "r") 1069), (.str (.ofString "s") 1070)]) 0, #[]⟩
noncomputable def ob_dx321 (P : Params) : Obj := ⟨(.type "tuple"), none, .seq (List.toArray []) 0, #[]⟩
noncomputable def ob_dx322 (P : Params) : Obj := ⟨.none, none, .func (fnAt 21 0 .none .none), #[]⟩
noncomputable def ob_dx323 (P : Params) : Obj := ⟨(.type "code"), none, .fields (List.toArray [(.str (.ofString "_law_four") 1063), (.str (.ofString "_law_four") 1064), (.str (.ofString "/claim/cut.py") 1065), (.int 99 0), (.int 1 0), (.int 0 0), (.int 0 0), (.int 3 0), (.ref 318), (.bool true), (.int 276 0), (.ref 319), .none, (.ref 320), (.ref 321), (.ref 322), (.int 1071 0), (.int 99 0), (.str (.ofString "/claim/cut.py") 1072)]), #[]⟩
noncomputable def ob_dx324 (P : Params) : Obj := ⟨(.type "function"), none, .func (fnAt 21 3 (.str (.ofString "law_kl0204_01") 1008) (.ref 323)), #[]⟩
noncomputable def ob_dx325 (P : Params) : Obj := ⟨(.type "tuple"), none, .seq (List.toArray []) 0, #[]⟩
noncomputable def ob_dx326 (P : Params) : Obj := ⟨.none, none, .fields (List.toArray []), #[]⟩
noncomputable def ob_dx327 (P : Params) : Obj := ⟨.none, none, .func (fnAt 22 0 .none .none), #[]⟩
noncomputable def ob_dx328 (P : Params) : Obj := ⟨(.type "code"), none, .fields (List.toArray [(.str (.ofString "law") 1074), (.str (.ofString "law") 1075), (.str (.ofString "/claim/cut.py") 1076), (.int 109 0), (.int 1 0), (.int 0 0), (.int 0 0), (.int 3 0), (.ref 325), (.bool true), (.int 276 0), (.ref 326), .none, .none, .none, (.ref 327), (.int 1077 0), (.int 109 0), (.str (.ofString "/claim/cut.py") 1078)]), #[]⟩
noncomputable def ob_dx329 (P : Params) : Obj := ⟨(.type "function"), none, .func (fnAt 22 3 (.str (.ofString "law_kl0204_01") 1008) (.ref 328)), #[]⟩
noncomputable def bt401 (P : Params) : BT := (.node (ob_f50x63 P) (.node (ob_f4815x127 P) (.node (ob_kx255 P) .nil .nil) .nil) (.node (ob_f6565x191 P) (.node (ob_dx319 P) .nil .nil) .nil))
noncomputable def bt402 (P : Params) : BT := (.node (ob_f1074x95 P) (.node (ob_f6565x159 P) (.node (ob_dx287 P) .nil .nil) .nil) (.node (ob_f8581x223 P) .nil .nil))
noncomputable def bt403 (P : Params) : BT := (.node (ob_f3041x111 P) (.node (ob_f6565x175 P) (.node (ob_dx303 P) .nil .nil) .nil) (.node (ob_f8581x239 P) .nil .nil))
noncomputable def bt404 (P : Params) : BT := (.node (ob_ox15 P) (.node (ob_bx31 P) (bt401 P) (bt402 P)) (.node (ob_p4x47 P) (bt385 P) (bt403 P)))
noncomputable def bt405 (P : Params) : BT := (.node (ob_f1074x71 P) (.node (ob_f4815x135 P) (.node (ob_m1719x263 P) .nil .nil) .nil) (.node (ob_f6565x199 P) (.node (ob_dx327 P) .nil .nil) .nil))
noncomputable def bt406 (P : Params) : BT := (.node (ob_f1074x103 P) (.node (ob_f6565x167 P) (.node (ob_dx295 P) .nil .nil) .nil) (.node (ob_f8581x231 P) .nil .nil))
noncomputable def bt407 (P : Params) : BT := (.node (ob_f1074x87 P) (.node (ob_f4815x151 P) (.node (ob_dx279 P) .nil .nil) .nil) (.node (ob_f8581x215 P) .nil .nil))
noncomputable def bt408 (P : Params) : BT := (.node (ob_f4815x119 P) (.node (ob_f6565x183 P) (.node (ob_dx311 P) .nil .nil) .nil) (.node (ob_f8581x247 P) .nil .nil))
noncomputable def bt409 (P : Params) : BT := (.node (ob_ox23 P) (.node (ob_p4x39 P) (bt405 P) (bt406 P)) (.node (ob_p4x55 P) (bt407 P) (bt408 P)))
noncomputable def bt410 (P : Params) : BT := (.node (ob_f1074x67 P) (.node (ob_f4815x131 P) (.node (ob_kx259 P) .nil .nil) .nil) (.node (ob_f6565x195 P) (.node (ob_dx323 P) .nil .nil) .nil))
noncomputable def bt411 (P : Params) : BT := (.node (ob_f1074x99 P) (.node (ob_f6565x163 P) (.node (ob_dx291 P) .nil .nil) .nil) (.node (ob_f8581x227 P) .nil .nil))
noncomputable def bt412 (P : Params) : BT := (.node (ob_f1074x83 P) (.node (ob_f4815x147 P) (.node (ob_dx275 P) .nil .nil) .nil) (.node (ob_f8581x211 P) .nil .nil))
noncomputable def bt413 (P : Params) : BT := (.node (ob_p6x115 P) (.node (ob_f6565x179 P) (.node (ob_dx307 P) .nil .nil) .nil) (.node (ob_f8581x243 P) .nil .nil))
noncomputable def bt414 (P : Params) : BT := (.node (ob_ox19 P) (.node (ob_p4x35 P) (bt410 P) (bt411 P)) (.node (ob_p4x51 P) (bt412 P) (bt413 P)))
noncomputable def bt415 (P : Params) : BT := (.node (ob_f1074x107 P) (.node (ob_f6565x171 P) (.node (ob_dx299 P) .nil .nil) .nil) (.node (ob_f8581x235 P) .nil .nil))
noncomputable def bt416 (P : Params) : BT := (.node (ob_f1074x91 P) (.node (ob_f4815x155 P) (.node (ob_dx283 P) .nil .nil) .nil) (.node (ob_f8581x219 P) .nil .nil))
noncomputable def bt417 (P : Params) : BT := (.node (ob_f4815x123 P) (.node (ob_f6565x187 P) (.node (ob_dx315 P) .nil .nil) .nil) (.node (ob_kx251 P) .nil .nil))
noncomputable def bt418 (P : Params) : BT := (.node (ob_ox27 P) (.node (ob_p4x43 P) (bt369 P) (bt415 P)) (.node (ob_p4x59 P) (bt416 P) (bt417 P)))
noncomputable def bt419 (P : Params) : BT := (.node (ob_dx3 P) (.node (PySem.W.boot_o_7 P) (bt404 P) (bt409 P)) (.node (ob_ox11 P) (bt414 P) (bt418 P)))
noncomputable def bt420 (P : Params) : BT := (.node (ob_f3041x65 P) (.node (ob_f4815x129 P) (.node (ob_kx257 P) .nil .nil) .nil) (.node (ob_f6565x193 P) (.node (ob_dx321 P) .nil .nil) .nil))
noncomputable def bt421 (P : Params) : BT := (.node (ob_f1074x97 P) (.node (ob_f6565x161 P) (.node (ob_dx289 P) .nil .nil) .nil) (.node (ob_f8581x225 P) .nil .nil))
noncomputable def bt422 (P : Params) : BT := (.node (ob_f1074x81 P) (.node (ob_f4815x145 P) (.node (ob_dx273 P) .nil .nil) .nil) (.node (ob_f8581x209 P) .nil .nil))
noncomputable def bt423 (P : Params) : BT := (.node (ob_f3041x113 P) (.node (ob_f6565x177 P) (.node (ob_dx305 P) .nil .nil) .nil) (.node (ob_f8581x241 P) .nil .nil))
noncomputable def bt424 (P : Params) : BT := (.node (ob_ox17 P) (.node (ob_p4x33 P) (bt420 P) (bt421 P)) (.node (ob_p4x49 P) (bt422 P) (bt423 P)))
noncomputable def bt425 (P : Params) : BT := (.node (ob_f1074x73 P) (.node (ob_f4815x137 P) (.node (ob_m1719x265 P) .nil .nil) .nil) (.node (ob_f8581x201 P) (.node (ob_dx329 P) .nil .nil) .nil))
noncomputable def bt426 (P : Params) : BT := (.node (ob_f1074x105 P) (.node (ob_f6565x169 P) (.node (ob_dx297 P) .nil .nil) .nil) (.node (ob_f8581x233 P) .nil .nil))
noncomputable def bt427 (P : Params) : BT := (.node (ob_f1074x89 P) (.node (ob_f4815x153 P) (.node (ob_dx281 P) .nil .nil) .nil) (.node (ob_f8581x217 P) .nil .nil))
noncomputable def bt428 (P : Params) : BT := (.node (ob_f4815x121 P) (.node (ob_f6565x185 P) (.node (ob_dx313 P) .nil .nil) .nil) (.node (ob_p6x249 P) .nil .nil))
noncomputable def bt429 (P : Params) : BT := (.node (ob_ox25 P) (.node (ob_p4x41 P) (bt425 P) (bt426 P)) (.node (ob_p4x57 P) (bt427 P) (bt428 P)))
noncomputable def bt430 (P : Params) : BT := (.node (ob_f1074x69 P) (.node (ob_f4815x133 P) (.node (ob_kx261 P) .nil .nil) .nil) (.node (ob_f6565x197 P) (.node (ob_dx325 P) .nil .nil) .nil))
noncomputable def bt431 (P : Params) : BT := (.node (ob_f1074x101 P) (.node (ob_f6565x165 P) (.node (ob_dx293 P) .nil .nil) .nil) (.node (ob_f8581x229 P) .nil .nil))
noncomputable def bt432 (P : Params) : BT := (.node (ob_f1074x85 P) (.node (ob_f4815x149 P) (.node (ob_dx277 P) .nil .nil) .nil) (.node (ob_f8581x213 P) .nil .nil))
noncomputable def bt433 (P : Params) : BT := (.node (ob_f4815x117 P) (.node (ob_f6565x181 P) (.node (ob_dx309 P) .nil .nil) .nil) (.node (ob_f8581x245 P) .nil .nil))
noncomputable def bt434 (P : Params) : BT := (.node (ob_ox21 P) (.node (ob_p4x37 P) (bt430 P) (bt431 P)) (.node (ob_p4x53 P) (bt432 P) (bt433 P)))
noncomputable def bt435 (P : Params) : BT := (.node (ob_f1074x109 P) (.node (ob_f6565x173 P) (.node (ob_dx301 P) .nil .nil) .nil) (.node (ob_f8581x237 P) .nil .nil))
noncomputable def bt436 (P : Params) : BT := (.node (ob_f1074x93 P) (.node (ob_f4815x157 P) (.node (ob_dx285 P) .nil .nil) .nil) (.node (ob_f8581x221 P) .nil .nil))
noncomputable def bt437 (P : Params) : BT := (.node (ob_f4815x125 P) (.node (ob_f6565x189 P) (.node (ob_dx317 P) .nil .nil) .nil) (.node (ob_kx253 P) .nil .nil))
noncomputable def bt438 (P : Params) : BT := (.node (ob_dx29 P) (.node (ob_p4x45 P) (bt388 P) (bt435 P)) (.node (ob_p5x61 P) (bt436 P) (bt437 P)))
noncomputable def bt439 (P : Params) : BT := (.node (PySem.W.boot_o_5 P) (.node (PySem.W.boot_o_9 P) (bt424 P) (bt429 P)) (.node (ob_ox13 P) (bt434 P) (bt438 P)))
noncomputable def bt440 (P : Params) : BT := (.node (ob_f1074x64 P) (.node (ob_f4815x128 P) (.node (ob_kx256 P) .nil .nil) .nil) (.node (ob_f6565x192 P) (.node (ob_dx320 P) .nil .nil) .nil))
noncomputable def bt441 (P : Params) : BT := (.node (ob_f1074x96 P) (.node (ob_f6565x160 P) (.node (ob_dx288 P) .nil .nil) .nil) (.node (ob_f8581x224 P) .nil .nil))
noncomputable def bt442 (P : Params) : BT := (.node (ob_f3041x112 P) (.node (ob_f6565x176 P) (.node (ob_dx304 P) .nil .nil) .nil) (.node (ob_f8581x240 P) .nil .nil))
noncomputable def bt443 (P : Params) : BT := (.node (ob_ox16 P) (.node (ob_p4x32 P) (bt440 P) (bt441 P)) (.node (ob_p4x48 P) (bt391 P) (bt442 P)))
noncomputable def bt444 (P : Params) : BT := (.node (ob_f1074x72 P) (.node (ob_f4815x136 P) (.node (ob_m1719x264 P) .nil .nil) .nil) (.node (ob_f8581x200 P) (.node (ob_dx328 P) .nil .nil) .nil))
noncomputable def bt445 (P : Params) : BT := (.node (ob_f1074x104 P) (.node (ob_f6565x168 P) (.node (ob_dx296 P) .nil .nil) .nil) (.node (ob_f8581x232 P) .nil .nil))
noncomputable def bt446 (P : Params) : BT := (.node (ob_f1074x88 P) (.node (ob_f4815x152 P) (.node (ob_dx280 P) .nil .nil) .nil) (.node (ob_f8581x216 P) .nil .nil))
noncomputable def bt447 (P : Params) : BT := (.node (ob_f4815x120 P) (.node (ob_f6565x184 P) (.node (ob_dx312 P) .nil .nil) .nil) (.node (ob_p6x248 P) .nil .nil))
noncomputable def bt448 (P : Params) : BT := (.node (ob_ox24 P) (.node (ob_p4x40 P) (bt444 P) (bt445 P)) (.node (ob_p4x56 P) (bt446 P) (bt447 P)))
noncomputable def bt449 (P : Params) : BT := (.node (ob_f1074x68 P) (.node (ob_f4815x132 P) (.node (ob_kx260 P) .nil .nil) .nil) (.node (ob_f6565x196 P) (.node (ob_dx324 P) .nil .nil) .nil))
noncomputable def bt450 (P : Params) : BT := (.node (ob_f1074x100 P) (.node (ob_f6565x164 P) (.node (ob_dx292 P) .nil .nil) .nil) (.node (ob_f8581x228 P) .nil .nil))
noncomputable def bt451 (P : Params) : BT := (.node (ob_f1074x84 P) (.node (ob_f4815x148 P) (.node (ob_dx276 P) .nil .nil) .nil) (.node (ob_f8581x212 P) .nil .nil))
noncomputable def bt452 (P : Params) : BT := (.node (ob_f4815x116 P) (.node (ob_f6565x180 P) (.node (ob_dx308 P) .nil .nil) .nil) (.node (ob_f8581x244 P) .nil .nil))
noncomputable def bt453 (P : Params) : BT := (.node (ob_ox20 P) (.node (ob_p4x36 P) (bt449 P) (bt450 P)) (.node (ob_p4x52 P) (bt451 P) (bt452 P)))
noncomputable def bt454 (P : Params) : BT := (.node (ob_f1074x108 P) (.node (ob_f6565x172 P) (.node (ob_dx300 P) .nil .nil) .nil) (.node (ob_f8581x236 P) .nil .nil))
noncomputable def bt455 (P : Params) : BT := (.node (ob_f1074x92 P) (.node (ob_f4815x156 P) (.node (ob_dx284 P) .nil .nil) .nil) (.node (ob_f8581x220 P) .nil .nil))
noncomputable def bt456 (P : Params) : BT := (.node (ob_f4815x124 P) (.node (ob_f6565x188 P) (.node (ob_dx316 P) .nil .nil) .nil) (.node (ob_kx252 P) .nil .nil))
noncomputable def bt457 (P : Params) : BT := (.node (ob_bx28 P) (.node (ob_p4x44 P) (bt375 P) (bt454 P)) (.node (ob_f8581x60 P) (bt455 P) (bt456 P)))
noncomputable def bt458 (P : Params) : BT := (.node (PySem.W.boot_o_4 P) (.node (PySem.W.boot_o_8 P) (bt443 P) (bt448 P)) (.node (ob_ox12 P) (bt453 P) (bt457 P)))
noncomputable def bt459 (P : Params) : BT := (.node (ob_f1074x66 P) (.node (ob_f4815x130 P) (.node (ob_kx258 P) .nil .nil) .nil) (.node (ob_f6565x194 P) (.node (ob_dx322 P) .nil .nil) .nil))
noncomputable def bt460 (P : Params) : BT := (.node (ob_f1074x98 P) (.node (ob_f6565x162 P) (.node (ob_dx290 P) .nil .nil) .nil) (.node (ob_f8581x226 P) .nil .nil))
noncomputable def bt461 (P : Params) : BT := (.node (ob_f1074x82 P) (.node (ob_f4815x146 P) (.node (ob_dx274 P) .nil .nil) .nil) (.node (ob_f8581x210 P) .nil .nil))
noncomputable def bt462 (P : Params) : BT := (.node (ob_f3041x114 P) (.node (ob_f6565x178 P) (.node (ob_dx306 P) .nil .nil) .nil) (.node (ob_f8581x242 P) .nil .nil))
noncomputable def bt463 (P : Params) : BT := (.node (ob_ox18 P) (.node (ob_p4x34 P) (bt459 P) (bt460 P)) (.node (ob_p4x50 P) (bt461 P) (bt462 P)))
noncomputable def bt464 (P : Params) : BT := (.node (ob_f1074x106 P) (.node (ob_f6565x170 P) (.node (ob_dx298 P) .nil .nil) .nil) (.node (ob_f8581x234 P) .nil .nil))
noncomputable def bt465 (P : Params) : BT := (.node (ob_f1074x90 P) (.node (ob_f4815x154 P) (.node (ob_dx282 P) .nil .nil) .nil) (.node (ob_f8581x218 P) .nil .nil))
noncomputable def bt466 (P : Params) : BT := (.node (ob_f4815x122 P) (.node (ob_f6565x186 P) (.node (ob_dx314 P) .nil .nil) .nil) (.node (ob_kx250 P) .nil .nil))
noncomputable def bt467 (P : Params) : BT := (.node (ob_ox26 P) (.node (ob_p4x42 P) (bt378 P) (bt464 P)) (.node (ob_p4x58 P) (bt465 P) (bt466 P)))
noncomputable def bt468 (P : Params) : BT := (.node (ob_f1074x70 P) (.node (ob_f4815x134 P) (.node (ob_m1719x262 P) .nil .nil) .nil) (.node (ob_f6565x198 P) (.node (ob_dx326 P) .nil .nil) .nil))
noncomputable def bt469 (P : Params) : BT := (.node (ob_f1074x102 P) (.node (ob_f6565x166 P) (.node (ob_dx294 P) .nil .nil) .nil) (.node (ob_f8581x230 P) .nil .nil))
noncomputable def bt470 (P : Params) : BT := (.node (ob_f1074x86 P) (.node (ob_f4815x150 P) (.node (ob_dx278 P) .nil .nil) .nil) (.node (ob_f8581x214 P) .nil .nil))
noncomputable def bt471 (P : Params) : BT := (.node (ob_f4815x118 P) (.node (ob_f6565x182 P) (.node (ob_dx310 P) .nil .nil) .nil) (.node (ob_f8581x246 P) .nil .nil))
noncomputable def bt472 (P : Params) : BT := (.node (ob_ox22 P) (.node (ob_p4x38 P) (bt468 P) (bt469 P)) (.node (ob_p4x54 P) (bt470 P) (bt471 P)))
noncomputable def bt473 (P : Params) : BT := (.node (ob_f3041x110 P) (.node (ob_f6565x174 P) (.node (ob_dx302 P) .nil .nil) .nil) (.node (ob_f8581x238 P) .nil .nil))
noncomputable def bt474 (P : Params) : BT := (.node (ob_f1074x94 P) (.node (ob_f6565x158 P) (.node (ob_dx286 P) .nil .nil) .nil) (.node (ob_f8581x222 P) .nil .nil))
noncomputable def bt475 (P : Params) : BT := (.node (ob_f4815x126 P) (.node (ob_f6565x190 P) (.node (ob_dx318 P) .nil .nil) .nil) (.node (ob_kx254 P) .nil .nil))
noncomputable def bt476 (P : Params) : BT := (.node (ob_bx30 P) (.node (ob_p4x46 P) (bt394 P) (bt473 P)) (.node (ob_p5x62 P) (bt474 P) (bt475 P)))
noncomputable def bt477 (P : Params) : BT := (.node (PySem.W.boot_o_6 P) (.node (PySem.W.boot_o_10 P) (bt463 P) (bt467 P)) (.node (ob_ox14 P) (bt472 P) (bt476 P)))
noncomputable def bt478 (P : Params) : BT := (.node (ob_ox0 P) (.node (ob_ox1 P) (bt419 P) (bt439 P)) (.node (ob_ox2 P) (bt458 P) (bt477 P)))
noncomputable def tree_d (P : Params) : BT := (bt478 P)
noncomputable def S_d (w : World) (os : OsState) : SharedT := ⟨tree_d w.params, 330, {}, #[], {}, 1080, os⟩
noncomputable def envT : Env := { scope := pw.main.scope, locals := mainNs, globals := mainNs, cells := [], code := .ref 30, frame := some 31 }
noncomputable def bB : List Stmt := behindTheImports pw
noncomputable def cB : Code := .body bB envT
noncomputable def qB : Pos := ⟨0, 0, 0, 0⟩
noncomputable def goP (pr : Program) (w : World) (n : Nat) (s : SharedT) (t : Thread) : Option (SharedT × Thread) := segGoT treeTable pr w 28 (some (.ref 6)) 1 n s t
noncomputable def rnP (pr : Program) (w : World) (n : Nat) (s : SharedT) (t : Thread) : Option (Flow × SharedT × Code × Pos) := segRunT treeTable pr w 28 (some (.ref 6)) 1 n s t
noncomputable def thP (c : Code) (p : Pos) (st : List Frame) : Thread := ⟨denote treeTable c, c, p, st⟩
noncomputable def tfP (p : Pos) : Frame := topFrame p
noncomputable def tpP (pr : Program) : Thread := topStub pr
noncomputable def opP (pr : Program) (w : World) : Option (Heap × Array GenState × Drawn × Nat) := (fencedOpening treeTable pr w 30000).map (fun s => (s.heap, s.gens, s.drawn, s.toks))
noncomputable def nzP (h : Heap) : Bool × Nat × Option Value := (h.isNs mainGlobals && (#[] : Array GenState).size == 0, h.objs.size, h.nsMap mainGlobals "__annotations__")
noncomputable def tgP (pr : Program) (w : World) (n : Nat) (s : Shared) (t : Thread) : Option (Shared × Thread) := topGo treeTable pr w 28 (some (.ref 6)) n s t
noncomputable def srP (pr : Program) (w : World) (n : Nat) (s : Shared) (t : Thread) : Option (Flow × Shared × Code × Pos) := segRun treeTable pr w 28 (some (.ref 6)) 1 n s t
noncomputable def trP (pr : Program) (w : World) (n : Nat) (s : Shared) (t : Thread) : Option Shared := topRun treeTable pr w 28 (some (.ref 6)) n s t
noncomputable def go (w : World) (n : Nat) (s : SharedT) (t : Thread) : Option (SharedT × Thread) := goP pw w n s t
noncomputable def rn (w : World) (n : Nat) (s : SharedT) (t : Thread) : Option (Flow × SharedT × Code × Pos) := rnP pw w n s t
noncomputable def wA (b : Bool) (w : World) : World := w.withFollow "special-get-raises" b
noncomputable def wO (c : Bool) (w : World) : World := w.withFollow "set-order" c
theorem pick {α : Type} {f : World → α} {r : α} {w : World} (h : (f (wA false w), f (wA true w)) = (r, r)) : f w = r := by
  have e := World.withFollow_self w "special-get-raises"
  cases hb : w.params.followText "special-get-raises" with
  | false => rw [hb] at e; have := congrArg Prod.fst h; rw [show wA false w = w from e] at this; exact this
  | true => rw [hb] at e; have := congrArg Prod.snd h; rw [show wA true w = w from e] at this; exact this
noncomputable def big : List Frame → Bool
  | .ret .. :: _ :: _ => true
  | _ => false
theorem big_is : ∀ {st : List Frame}, big st = true → ∃ k h g l c p kept F r, st = Frame.ret k h g l c p kept :: F :: r
  | .ret k h g l c p kept :: F :: r, _ => ⟨k, h, g, l, c, p, kept, F, r, rfl⟩
  | [], h => nomatch h
  | [.ret ..], h => nomatch h
  | .gen .. :: _, h => nomatch h
noncomputable def one : Frame → Bool
  | .ret _ none _ _ _ _ _ => true
  | _ => false
theorem one_is : ∀ {f : Frame}, one f = true → ∃ k g l c p kept, f = Frame.ret k none g l c p kept
  | .ret k none g l c p kept, _ => ⟨k, g, l, c, p, kept, rfl⟩
  | .ret _ (some _) _ _ _ _ _, h => nomatch h
  | .gen .., h => nomatch h
noncomputable def stackOf (x : Option (SharedT × Thread)) : List Frame := match x with
  | some (_, t) => t.stack
  | none => []
noncomputable def L_o (w : World) : Option (Heap × Array GenState × Drawn × Nat) := opP pw w
noncomputable def R_o (w : World) : Option (Heap × Array GenState × Drawn × Nat) := some (H_o w.params, #[], {}, 276)
noncomputable def L_z (w : World) : Bool × Nat × Option Value := nzP (H_o w.params)
noncomputable def R_z (w : World) : Bool × Nat × Option Value := (true, 28, some (.ref 6))
noncomputable def L_p (w : World) (os : OsState) : Option (Shared × Thread) := tgP pw w 12 ⟨H_o w.params, #[], {}, 276, os⟩ (tpP pw)
noncomputable def R_p (w : World) (os : OsState) : Option (Shared × Thread) := some ((S_b w os).abs, (thP cB ⟨0, 0, 0, 0⟩ [tfP qB]))
noncomputable def L_b (w : World) (os : OsState) : Option (Flow × Shared × Code × Pos) := srP pw w 1 (S_b w os).abs (blockOf bB envT cB ⟨0, 0, 0, 0⟩ [topFrame qB])
noncomputable def R_b (w : World) (os : OsState) : Option (Flow × Shared × Code × Pos) := some (.next, (S_b w os).abs, cB, ⟨0, 0, 0, 0⟩)
noncomputable def L_f (w : World) (os : OsState) : Option Shared := trP pw w 2 (S_d w os).abs ⟨doneF .next, cB, ⟨109, 0, 140, 33⟩, [topFrame qB]⟩
noncomputable def R_f (w : World) (os : OsState) : Option Shared := some (S_d w os).abs
noncomputable def sts_p4 : List Stmt := [stAt 0, stAt 1, stAt 2, stAt 3, stAt 4]
noncomputable def L_p4 (w : World) (os : OsState) : Option (Flow × SharedT × Code × Pos) × Option (Flow × SharedT × Code × Pos) := (rn (wA false w) 133 (S_b w os) (piecesOf sts_p4 envT cB ⟨0, 0, 0, 0⟩ [topFrame qB]), rn (wA true w) 133 (S_b w os) (piecesOf sts_p4 envT cB ⟨0, 0, 0, 0⟩ [topFrame qB]))
noncomputable def R_p4 (w : World) (os : OsState) : Option (Flow × SharedT × Code × Pos) × Option (Flow × SharedT × Code × Pos) := (some (.next, S_p4 w os, cB, ⟨25, 0, 34, 32⟩), some (.next, S_p4 w os, cB, ⟨25, 0, 34, 32⟩))
noncomputable def sts_p5 : List Stmt := [stAt 5]
noncomputable def L_p5 (w : World) (os : OsState) : Option (Flow × SharedT × Code × Pos) × Option (Flow × SharedT × Code × Pos) := (rn (wA false w) 847 (S_p4 w os) (piecesOf sts_p5 envT cB ⟨25, 0, 34, 32⟩ [topFrame qB]), rn (wA true w) 847 (S_p4 w os) (piecesOf sts_p5 envT cB ⟨25, 0, 34, 32⟩ [topFrame qB]))
noncomputable def R_p5 (w : World) (os : OsState) : Option (Flow × SharedT × Code × Pos) × Option (Flow × SharedT × Code × Pos) := (some (.next, S_p5 w os, cB, ⟨35, 0, 35, 21⟩), some (.next, S_p5 w os, cB, ⟨35, 0, 35, 21⟩))
noncomputable def cE6 : Code := .builtin "list.extend.loop" ⟨[.ref 64, .ref 65, .ref 64], []⟩
noncomputable def tE6 (st : List Frame) : Thread := (thP cE6 ⟨36, 12, 36, 49⟩ st)
noncomputable def cF6 : Code := match stAt 6 with
  | .For tg _ b oe _ => .forLoop tg (.ref 115) b oe envT
  | _ => default
noncomputable def tF6a (st : List Frame) : Thread := (thP cF6 ⟨36, 12, 36, 49⟩ st)
noncomputable def tF6 (st : List Frame) : Thread := (thP cF6 ⟨38, 4, 38, 42⟩ st)
noncomputable def sts_6 : List Stmt := [stAt 6]
noncomputable def t6 : Thread := piecesOf sts_6 envT cB ⟨35, 0, 35, 21⟩ [topFrame qB]
noncomputable def stE6 (w : World) (os : OsState) : List Frame := stackOf (go (wA false w) 50 (S_p5 w os) t6)
noncomputable def L_a6 (w : World) (os : OsState) : (Option (SharedT × Thread) × Option (SharedT × Thread)) × Bool := ((go (wA false w) 50 (S_p5 w os) t6, go (wA true w) 50 (S_p5 w os) t6), big (stE6 w os))
noncomputable def R_a6 (w : World) (os : OsState) : (Option (SharedT × Thread) × Option (SharedT × Thread)) × Bool := ((some (S_f50 w os, tE6 (stE6 w os)), some (S_f50 w os, tE6 (stE6 w os))), true)
noncomputable def L_e50 (w : World) (os : OsState) (k : Result → Sem Fin) (h : Option Value) (g : Bool) (l : List Value) (c : Code) (p : Pos) (kept : List Value) (F : Frame) (r : List Frame) : Option (SharedT × Thread) × Option (SharedT × Thread) := (go (wA false w) 1024 (S_f50 w os) (tE6 (.ret k h g l c p kept :: F :: r)), go (wA true w) 1024 (S_f50 w os) (tE6 (.ret k h g l c p kept :: F :: r)))
noncomputable def R_e50 (w : World) (os : OsState) (k : Result → Sem Fin) (h : Option Value) (g : Bool) (l : List Value) (c : Code) (p : Pos) (kept : List Value) (F : Frame) (r : List Frame) : Option (SharedT × Thread) × Option (SharedT × Thread) := (some (S_f1074 w os, tE6 (.ret k h g l c p kept :: F :: r)), some (S_f1074 w os, tE6 (.ret k h g l c p kept :: F :: r)))
noncomputable def hdF (st : List Frame) : Frame := match st with
  | f :: _ => f
  | [] => topFrame qB
noncomputable def frF6 (w : World) (os : OsState) : Frame := hdF (stackOf (go (wA false w) 1967 (S_f1074 w os) (tE6 (stE6 w os))))
noncomputable def L_b6 (w : World) (os : OsState) : ((Option (SharedT × Thread) × Option (SharedT × Thread)) × Bool) × (Option (Flow × SharedT × Code × Pos) × Option (Flow × SharedT × Code × Pos)) := (((go (wA false w) 1967 (S_f1074 w os) (tE6 (stE6 w os)), go (wA true w) 1967 (S_f1074 w os) (tE6 (stE6 w os))), one (frF6 w os)), (rn (wA false w) 19 (S_f8581 w os) (tF6 [frF6 w os, topFrame qB]), rn (wA true w) 19 (S_f8581 w os) (tF6 [frF6 w os, topFrame qB])))
noncomputable def R_b6 (w : World) (os : OsState) : ((Option (SharedT × Thread) × Option (SharedT × Thread)) × Bool) × (Option (Flow × SharedT × Code × Pos) × Option (Flow × SharedT × Code × Pos)) := (((some (S_f3041 w os, tF6a [frF6 w os, topFrame qB]), some (S_f3041 w os, tF6a [frF6 w os, topFrame qB])), true), (some (.next, S_p6 w os, cB, ⟨36, 12, 36, 49⟩), some (.next, S_p6 w os, cB, ⟨36, 12, 36, 49⟩)))
noncomputable def L_f3041 (w : World) (os : OsState) (k : Result → Sem Fin) (g : Bool) (l : List Value) (c : Code) (p : Pos) (kept : List Value) : Option (SharedT × Thread) × Option (SharedT × Thread) := (go (wA false w) 1774 (S_f3041 w os) (tF6a [.ret k none g l c p kept, topFrame qB]), go (wA true w) 1774 (S_f3041 w os) (tF6a [.ret k none g l c p kept, topFrame qB]))
noncomputable def R_f3041 (w : World) (os : OsState) (k : Result → Sem Fin) (g : Bool) (l : List Value) (c : Code) (p : Pos) (kept : List Value) : Option (SharedT × Thread) × Option (SharedT × Thread) := (some (S_f4815 w os, tF6 [.ret k none g l c p kept, topFrame qB]), some (S_f4815 w os, tF6 [.ret k none g l c p kept, topFrame qB]))
noncomputable def L_f4815 (w : World) (os : OsState) (k : Result → Sem Fin) (g : Bool) (l : List Value) (c : Code) (p : Pos) (kept : List Value) : Option (SharedT × Thread) × Option (SharedT × Thread) := (go (wA false w) 1750 (S_f4815 w os) (tF6 [.ret k none g l c p kept, topFrame qB]), go (wA true w) 1750 (S_f4815 w os) (tF6 [.ret k none g l c p kept, topFrame qB]))
noncomputable def R_f4815 (w : World) (os : OsState) (k : Result → Sem Fin) (g : Bool) (l : List Value) (c : Code) (p : Pos) (kept : List Value) : Option (SharedT × Thread) × Option (SharedT × Thread) := (some (S_f6565 w os, tF6 [.ret k none g l c p kept, topFrame qB]), some (S_f6565 w os, tF6 [.ret k none g l c p kept, topFrame qB]))
noncomputable def L_f6565 (w : World) (os : OsState) (k : Result → Sem Fin) (g : Bool) (l : List Value) (c : Code) (p : Pos) (kept : List Value) : Option (SharedT × Thread) × Option (SharedT × Thread) := (go (wA false w) 2016 (S_f6565 w os) (tF6 [.ret k none g l c p kept, topFrame qB]), go (wA true w) 2016 (S_f6565 w os) (tF6 [.ret k none g l c p kept, topFrame qB]))
noncomputable def R_f6565 (w : World) (os : OsState) (k : Result → Sem Fin) (g : Bool) (l : List Value) (c : Code) (p : Pos) (kept : List Value) : Option (SharedT × Thread) × Option (SharedT × Thread) := (some (S_f8581 w os, tF6 [.ret k none g l c p kept, topFrame qB]), some (S_f8581 w os, tF6 [.ret k none g l c p kept, topFrame qB]))
noncomputable def sts_k : List Stmt := [stAt 7, stAt 8, stAt 9, stAt 10, stAt 11]
noncomputable def L_k (w : World) (os : OsState) : Option (Flow × SharedT × Code × Pos) × Option (Flow × SharedT × Code × Pos) := (rn (wA false w) 164 (S_p6 w os) (piecesOf sts_k envT cB ⟨36, 12, 36, 49⟩ [topFrame qB]), rn (wA true w) 164 (S_p6 w os) (piecesOf sts_k envT cB ⟨36, 12, 36, 49⟩ [topFrame qB]))
noncomputable def R_k (w : World) (os : OsState) : Option (Flow × SharedT × Code × Pos) × Option (Flow × SharedT × Code × Pos) := (some (.next, S_k w os, cB, ⟨47, 0, 47, 8⟩), some (.next, S_k w os, cB, ⟨47, 0, 47, 8⟩))
noncomputable def sts_d : List Stmt := [stAt 13, stAt 14, stAt 15, stAt 16, stAt 17, stAt 18, stAt 19, stAt 20, stAt 21, stAt 22]
noncomputable def L_d (w : World) (os : OsState) : Option (Flow × SharedT × Code × Pos) × Option (Flow × SharedT × Code × Pos) := (rn (wA false w) 279 (S_c w os) (piecesOf sts_d envT cB ⟨48, 0, 48, 6⟩ [topFrame qB]), rn (wA true w) 279 (S_c w os) (piecesOf sts_d envT cB ⟨48, 0, 48, 6⟩ [topFrame qB]))
noncomputable def R_d (w : World) (os : OsState) : Option (Flow × SharedT × Code × Pos) × Option (Flow × SharedT × Code × Pos) := (some (.next, S_d w os, cB, ⟨109, 0, 140, 33⟩), some (.next, S_d w os, cB, ⟨109, 0, 140, 33⟩))
noncomputable def sts_c : List Stmt := [stAt 12]
noncomputable def t12 : Thread := piecesOf sts_c envT cB ⟨47, 0, 47, 8⟩ [topFrame qB]
noncomputable def cE : Code := .builtin "list.extend.loop" ⟨[.ref 264, .ref 265, .none], []⟩
noncomputable def cS : Code := .builtin "set.update.loop" ⟨[.ref 269, .ref 270], []⟩
noncomputable def tE (st : List Frame) : Thread := (thP cE ⟨48, 24, 48, 51⟩ st)
noncomputable def tS (st : List Frame) : Thread := (thP cS ⟨48, 9, 48, 52⟩ st)
noncomputable def stE12 (w : World) (os : OsState) : List Frame := stackOf (go (wA false w) 1719 (S_k w os) t12)
noncomputable def L_a12 (w : World) (os : OsState) : (Option (SharedT × Thread) × Option (SharedT × Thread)) × Bool := ((go (wA false w) 1719 (S_k w os) t12, go (wA true w) 1719 (S_k w os) t12), big (stE12 w os))
noncomputable def R_a12 (w : World) (os : OsState) : (Option (SharedT × Thread) × Option (SharedT × Thread)) × Bool := ((some (S_m1719 w os, tE (stE12 w os)), some (S_m1719 w os, tE (stE12 w os))), true)
noncomputable def stS12 (c : Bool) (w : World) (os : OsState) : List Frame := stackOf (go (wA false (wO c w)) 59 (S_m1719 (wO c w) os) (tE (stE12 (wO c w) os)))
noncomputable def L_c12 (c : Bool) (w : World) (os : OsState) : (Option (SharedT × Thread) × Option (SharedT × Thread)) × Bool := ((go (wA false (wO c w)) 59 (S_m1719 (wO c w) os) (tE (stE12 (wO c w) os)), go (wA true (wO c w)) 59 (S_m1719 (wO c w) os) (tE (stE12 (wO c w) os))), big (stS12 c w os))
noncomputable def R_c12 (c : Bool) (w : World) (os : OsState) : (Option (SharedT × Thread) × Option (SharedT × Thread)) × Bool := ((some (S_m1778 (wO c w) os, tS (stS12 c w os)), some (S_m1778 (wO c w) os, tS (stS12 c w os))), true)
lay_quick cE cS tfP thP tpP goP rnP opP nzP tgP srP trP
end Mine
end
/- part HeadB -/
section
open PySem PySem.W PyProof.Rows
set_option maxRecDepth 100000
set_option maxHeartbeats 0
set_option linter.unusedVariables false
namespace Mine
theorem q_o (w : World) : L_o w = R_o w := by
  delta L_o R_o
  rw [show @opP = _ from PySem.W.Fast.te3127641329839114778]
  kernel_rfl
theorem q_z (w : World) : L_z w = R_z w := by
  delta L_z R_z
  rw [show @nzP = _ from PySem.W.Fast.te17817385234196158658]
  kernel_rfl
theorem q_p (w : World) (os : OsState) : L_p w os = R_p w os := by
  delta L_p R_p
  rw [show @tfP = _ from PySem.W.Fast.te11034089502002390604, show @thP = _ from PySem.W.Fast.te7106528859377955411, show @tpP = _ from PySem.W.Fast.te8134830592414965307, show @tgP = _ from PySem.W.Fast.te8914953147990508307]
  kernel_rfl
theorem q_b (w : World) (os : OsState) : L_b w os = R_b w os := by
  delta L_b R_b
  rw [show @srP = _ from PySem.W.Fast.te2173492955150656125]
  kernel_rfl
theorem q_f (w : World) (os : OsState) : L_f w os = R_f w os := by
  delta L_f R_f
  rw [show @trP = _ from PySem.W.Fast.te9841000642379588016]
  kernel_rfl
theorem q_p4 (w : World) (os : OsState) : L_p4 w os = R_p4 w os := by
  delta L_p4 R_p4 rn
  rw [show @rnP = _ from PySem.W.Fast.te17108258986547353078]
  kernel_rfl
theorem p_p4 (w : World) (os : OsState) : rn w 133 (S_b w os) (piecesOf sts_p4 envT cB ⟨0, 0, 0, 0⟩ [topFrame qB]) = some (.next, S_p4 w os, cB, ⟨25, 0, 34, 32⟩) := by
  have q := q_p4 w os
  unfold L_p4 R_p4 at q
  exact pick (f := fun v => rn v 133 (S_b w os) (piecesOf sts_p4 envT cB ⟨0, 0, 0, 0⟩ [topFrame qB])) q
theorem q_p5 (w : World) (os : OsState) : L_p5 w os = R_p5 w os := by
  delta L_p5 R_p5 rn
  rw [show @rnP = _ from PySem.W.Fast.te17108258986547353078]
  kernel_rfl
theorem p_p5 (w : World) (os : OsState) : rn w 847 (S_p4 w os) (piecesOf sts_p5 envT cB ⟨25, 0, 34, 32⟩ [topFrame qB]) = some (.next, S_p5 w os, cB, ⟨35, 0, 35, 21⟩) := by
  have q := q_p5 w os
  unfold L_p5 R_p5 at q
  exact pick (f := fun v => rn v 847 (S_p4 w os) (piecesOf sts_p5 envT cB ⟨25, 0, 34, 32⟩ [topFrame qB])) q
theorem q_a6 (w : World) (os : OsState) : L_a6 w os = R_a6 w os := by
  delta L_a6 stE6 R_a6 tE6 go
  rw [show @thP = _ from PySem.W.Fast.te7106528859377955411, show @goP = _ from PySem.W.Fast.te2558842495915502910]
  kernel_rfl
theorem p_a6 (w : World) (os : OsState) : go w 50 (S_p5 w os) t6 = some (S_f50 w os, tE6 (stE6 w os)) := by
  have q := q_a6 w os
  unfold L_a6 R_a6 at q
  exact pick (f := fun v => go v 50 (S_p5 w os) t6) (Prod.mk.inj q).1
theorem g_a6 (w : World) (os : OsState) : big (stE6 w os) = true := by
  have q := q_a6 w os
  unfold L_a6 R_a6 at q
  exact (Prod.mk.inj q).2
theorem q_e50 (w : World) (os : OsState) (k : Result → Sem Fin) (h : Option Value) (g : Bool) (l : List Value) (c : Code) (p : Pos) (kept : List Value) (F : Frame) (r : List Frame) : L_e50 w os k h g l c p kept F r = R_e50 w os k h g l c p kept F r := by
  delta L_e50 tE6 R_e50 go
  rw [show @thP = _ from PySem.W.Fast.te7106528859377955411, show @goP = _ from PySem.W.Fast.te2558842495915502910]
  kernel_rfl
theorem p_e50 (w : World) (os : OsState) (k : Result → Sem Fin) (h : Option Value) (g : Bool) (l : List Value) (c : Code) (p : Pos) (kept : List Value) (F : Frame) (r : List Frame) : go w 1024 (S_f50 w os) (tE6 (.ret k h g l c p kept :: F :: r)) = some (S_f1074 w os, tE6 (.ret k h g l c p kept :: F :: r)) := by
  have q := q_e50 w os k h g l c p kept F r
  unfold L_e50 R_e50 at q
  exact pick (f := fun v => go v 1024 (S_f50 w os) (tE6 (.ret k h g l c p kept :: F :: r))) q
theorem q_b6 (w : World) (os : OsState) : L_b6 w os = R_b6 w os := by
  delta L_b6 tE6 stE6 frF6 tF6 R_b6 tF6a go rn
  rw [show @thP = _ from PySem.W.Fast.te7106528859377955411, show @goP = _ from PySem.W.Fast.te2558842495915502910, show @rnP = _ from PySem.W.Fast.te17108258986547353078]
  kernel_rfl
theorem p_b6 (w : World) (os : OsState) : go w 1967 (S_f1074 w os) (tE6 (stE6 w os)) = some (S_f3041 w os, tF6a [frF6 w os, topFrame qB]) := by
  have q := q_b6 w os
  unfold L_b6 R_b6 at q
  exact pick (f := fun v => go v 1967 (S_f1074 w os) (tE6 (stE6 w os))) (Prod.mk.inj (Prod.mk.inj q).1).1
theorem g_b6 (w : World) (os : OsState) : one (frF6 w os) = true := by
  have q := q_b6 w os
  unfold L_b6 R_b6 at q
  exact (Prod.mk.inj (Prod.mk.inj q).1).2
theorem p_z6 (w : World) (os : OsState) : rn w 19 (S_f8581 w os) (tF6 [frF6 w os, topFrame qB]) = some (.next, S_p6 w os, cB, ⟨36, 12, 36, 49⟩) := by
  have q := q_b6 w os
  unfold L_b6 R_b6 at q
  exact pick (f := fun v => rn v 19 (S_f8581 w os) (tF6 [frF6 w os, topFrame qB])) (Prod.mk.inj q).2
theorem q_f3041 (w : World) (os : OsState) (k : Result → Sem Fin) (g : Bool) (l : List Value) (c : Code) (p : Pos) (kept : List Value) : L_f3041 w os k g l c p kept = R_f3041 w os k g l c p kept := by
  delta L_f3041 tF6a R_f3041 tF6 go
  rw [show @thP = _ from PySem.W.Fast.te7106528859377955411, show @goP = _ from PySem.W.Fast.te2558842495915502910]
  kernel_rfl
theorem p_f3041 (w : World) (os : OsState) (k : Result → Sem Fin) (g : Bool) (l : List Value) (c : Code) (p : Pos) (kept : List Value) : go w 1774 (S_f3041 w os) (tF6a [.ret k none g l c p kept, topFrame qB]) = some (S_f4815 w os, tF6 [.ret k none g l c p kept, topFrame qB]) := by
  have q := q_f3041 w os k g l c p kept
  unfold L_f3041 R_f3041 at q
  exact pick (f := fun v => go v 1774 (S_f3041 w os) (tF6a [.ret k none g l c p kept, topFrame qB])) q
theorem q_f4815 (w : World) (os : OsState) (k : Result → Sem Fin) (g : Bool) (l : List Value) (c : Code) (p : Pos) (kept : List Value) : L_f4815 w os k g l c p kept = R_f4815 w os k g l c p kept := by
  delta L_f4815 tF6 R_f4815 go
  rw [show @thP = _ from PySem.W.Fast.te7106528859377955411, show @goP = _ from PySem.W.Fast.te2558842495915502910]
  kernel_rfl
theorem p_f4815 (w : World) (os : OsState) (k : Result → Sem Fin) (g : Bool) (l : List Value) (c : Code) (p : Pos) (kept : List Value) : go w 1750 (S_f4815 w os) (tF6 [.ret k none g l c p kept, topFrame qB]) = some (S_f6565 w os, tF6 [.ret k none g l c p kept, topFrame qB]) := by
  have q := q_f4815 w os k g l c p kept
  unfold L_f4815 R_f4815 at q
  exact pick (f := fun v => go v 1750 (S_f4815 w os) (tF6 [.ret k none g l c p kept, topFrame qB])) q
theorem q_f6565 (w : World) (os : OsState) (k : Result → Sem Fin) (g : Bool) (l : List Value) (c : Code) (p : Pos) (kept : List Value) : L_f6565 w os k g l c p kept = R_f6565 w os k g l c p kept := by
  delta L_f6565 tF6 R_f6565 go
  rw [show @thP = _ from PySem.W.Fast.te7106528859377955411, show @goP = _ from PySem.W.Fast.te2558842495915502910]
  kernel_rfl
theorem p_f6565 (w : World) (os : OsState) (k : Result → Sem Fin) (g : Bool) (l : List Value) (c : Code) (p : Pos) (kept : List Value) : go w 2016 (S_f6565 w os) (tF6 [.ret k none g l c p kept, topFrame qB]) = some (S_f8581 w os, tF6 [.ret k none g l c p kept, topFrame qB]) := by
  have q := q_f6565 w os k g l c p kept
  unfold L_f6565 R_f6565 at q
  exact pick (f := fun v => go v 2016 (S_f6565 w os) (tF6 [.ret k none g l c p kept, topFrame qB])) q
theorem q_k (w : World) (os : OsState) : L_k w os = R_k w os := by
  delta L_k R_k rn
  rw [show @rnP = _ from PySem.W.Fast.te17108258986547353078]
  kernel_rfl
theorem p_k (w : World) (os : OsState) : rn w 164 (S_p6 w os) (piecesOf sts_k envT cB ⟨36, 12, 36, 49⟩ [topFrame qB]) = some (.next, S_k w os, cB, ⟨47, 0, 47, 8⟩) := by
  have q := q_k w os
  unfold L_k R_k at q
  exact pick (f := fun v => rn v 164 (S_p6 w os) (piecesOf sts_k envT cB ⟨36, 12, 36, 49⟩ [topFrame qB])) q
theorem q_d (w : World) (os : OsState) : L_d w os = R_d w os := by
  delta L_d R_d rn
  rw [show @rnP = _ from PySem.W.Fast.te17108258986547353078]
  kernel_rfl
theorem p_d (w : World) (os : OsState) : rn w 279 (S_c w os) (piecesOf sts_d envT cB ⟨48, 0, 48, 6⟩ [topFrame qB]) = some (.next, S_d w os, cB, ⟨109, 0, 140, 33⟩) := by
  have q := q_d w os
  unfold L_d R_d at q
  exact pick (f := fun v => rn v 279 (S_c w os) (piecesOf sts_d envT cB ⟨48, 0, 48, 6⟩ [topFrame qB])) q
theorem q_a12 (w : World) (os : OsState) : L_a12 w os = R_a12 w os := by
  delta L_a12 stE12 R_a12 tE go
  rw [show @cE = _ from PySem.W.Fast.te1079062873555572070, show @thP = _ from PySem.W.Fast.te7106528859377955411, show @goP = _ from PySem.W.Fast.te2558842495915502910]
  kernel_rfl
theorem p_a12 (w : World) (os : OsState) : go w 1719 (S_k w os) t12 = some (S_m1719 w os, tE (stE12 w os)) := by
  have q := q_a12 w os
  unfold L_a12 R_a12 at q
  exact pick (f := fun v => go v 1719 (S_k w os) t12) (Prod.mk.inj q).1
theorem g_a12 (w : World) (os : OsState) : big (stE12 w os) = true := by
  have q := q_a12 w os
  unfold L_a12 R_a12 at q
  exact (Prod.mk.inj q).2
theorem q_c12f (w : World) (os : OsState) : L_c12 false w os = R_c12 false w os := by
  delta L_c12 tE stE12 stS12 R_c12 tS go
  rw [show @cE = _ from PySem.W.Fast.te1079062873555572070, show @cS = _ from PySem.W.Fast.te16372918920114678976, show @thP = _ from PySem.W.Fast.te7106528859377955411, show @goP = _ from PySem.W.Fast.te2558842495915502910]
  kernel_rfl
theorem q_c12t (w : World) (os : OsState) : L_c12 true w os = R_c12 true w os := by
  delta L_c12 tE stE12 stS12 R_c12 tS go
  rw [show @cE = _ from PySem.W.Fast.te1079062873555572070, show @cS = _ from PySem.W.Fast.te16372918920114678976, show @thP = _ from PySem.W.Fast.te7106528859377955411, show @goP = _ from PySem.W.Fast.te2558842495915502910]
  kernel_rfl
theorem q_c12 (c : Bool) (w : World) (os : OsState) : L_c12 c w os = R_c12 c w os := by cases c; exact q_c12f w os; exact q_c12t w os
theorem p_c12 (c : Bool) (w : World) (os : OsState) : go (wO c w) 59 (S_m1719 (wO c w) os) (tE (stE12 (wO c w) os)) = some (S_m1778 (wO c w) os, tS (stS12 c w os)) := by
  have q := q_c12 c w os
  unfold L_c12 R_c12 at q
  exact pick (f := fun v => go v 59 (S_m1719 (wO c w) os) (tE (stE12 (wO c w) os))) (Prod.mk.inj q).1
theorem g_c12 (c : Bool) (w : World) (os : OsState) : big (stS12 c w os) = true := by
  have q := q_c12 c w os
  unfold L_c12 R_c12 at q
  exact (Prod.mk.inj q).2
end Mine
end
/- part HeadS -/
section
open PySem PySem.W PyProof.Rows
set_option maxRecDepth 100000
set_option maxHeartbeats 0
set_option linter.unusedVariables false
namespace Mine
noncomputable def esS0 : Array (Int × Value) := List.toArray []
noncomputable def tS0 (b : Bool) : SetTable := ⟨7, #[], #[], 0, b, 0, true⟩
noncomputable def esS19 : Array (Int × Value) := List.toArray [(917505, (.int 917505 801)), (917536, (.int 917536 807)), (917537, (.int 917537 808)), (917538, (.int 917538 809)), (917539, (.int 917539 810)), (917540, (.int 917540 811)), (917541, (.int 917541 812)), (917542, (.int 917542 813)), (917543, (.int 917543 814)), (917544, (.int 917544 815)), (917545, (.int 917545 816)), (917546, (.int 917546 817)), (917547, (.int 917547 818)), (917548, (.int 917548 819)), (917549, (.int 917549 820)), (917550, (.int 917550 821)), (917551, (.int 917551 822)), (917552, (.int 917552 823)), (917553, (.int 917553 824))]
noncomputable def tS19 (b : Bool) : SetTable := ⟨127, #[1, 32, 33, 34, 35, 36, 37, 38, 39, 40, 41, 42, 43, 44, 45, 46, 47, 48, 49], #[], 0, b, 2, true⟩
noncomputable def setOb (es : Array (Int × Value)) (ep : Nat) (t : SetTable) : Obj := ⟨.type "set", none, .set es ep t, #[]⟩
noncomputable def itO (n : Nat) : Obj := ⟨.type "list_iterator", none, .fields (List.toArray [.ref 268, .int (Int.ofNat n) 0]), #[]⟩
noncomputable def SX (n tk : Nat) (o : Obj) (w : World) (os : OsState) : SharedT := ⟨((tree_m1778 w.params).set 269 (fun _ => o)).set 270 (fun _ => itO n), 271, {}, #[], {}, tk, os⟩
noncomputable def nxP (pr : Program) (w : World) (n : Nat) (s : SharedT) (a : Value) (K : Option Value → Sem Fin) (c : Code) (p : Pos) (st : List Frame) : Option (SharedT × Thread) := segGoT treeTable pr w 28 (some (.ref 6)) 1 n s ⟨Sem.bind (pyNext a) K, c, p, st⟩
noncomputable def hsP (pr : Program) (w : World) (n : Nat) (s : SharedT) (x : Value) (K : Int → Sem Fin) (c : Code) (p : Pos) (st : List Frame) : Option (SharedT × Thread) := segGoT treeTable pr w 28 (some (.ref 6)) 1 n s ⟨Sem.bind (pyHash x) K, c, p, st⟩
noncomputable def K1 : Option Value → Sem Fin := fun r => match r with
  | some x => Sem.bind (holding [x] (setAdd 269 x)) fun _ => again cS
  | none => ret .none
noncomputable def SY (n ep : Nat) (es : Array (Int × Value)) (t : Bool → SetTable) (w : World) (os : OsState) : SharedT := SX n (903 + n) (setOb es ep (t (!w.params.followText "set-order"))) w os
noncomputable def L_y (n st ep : Nat) (es : Array (Int × Value)) (t : Bool → SetTable) (w : World) (os : OsState) (k : Result → Sem Fin) (h : Option Value) (g : Bool) (l : List Value) (c : Code) (p : Pos) (kept : List Value) (F : Frame) (r : List Frame) : Option (SharedT × Thread) × Option (SharedT × Thread) := (go (wA false w) st (SY n ep es t w os) (tS (.ret k h g l c p kept :: F :: r)), go (wA true w) st (SY n ep es t w os) (tS (.ret k h g l c p kept :: F :: r)))
noncomputable def R_y (m ep : Nat) (es : Array (Int × Value)) (t : Bool → SetTable) (w : World) (os : OsState) (k : Result → Sem Fin) (h : Option Value) (g : Bool) (l : List Value) (c : Code) (p : Pos) (kept : List Value) (F : Frame) (r : List Frame) : Option (SharedT × Thread) × Option (SharedT × Thread) := (some (SY m ep es t w os, tS (.ret k h g l c p kept :: F :: r)), some (SY m ep es t w os, tS (.ret k h g l c p kept :: F :: r)))
noncomputable def tb76 (b : Bool) : SetTable := tN 75 127 2 b
noncomputable def tb77 (b : Bool) : SetTable := tN 76 511 3 b
noncomputable def L_ya := L_y 0 384 0 esS0 tS0
noncomputable def R_ya := R_y 19 21 esS19 tS19
noncomputable def L_yb := L_y 76 22 78 (esN 75) tb76
noncomputable def R_yb := R_y 77 80 (esN 76) tb77
lay_quick nxP hsP
noncomputable def lent : Option Builtin := entryFor treeTable "set.update.loop"
noncomputable def rent : Option Builtin := some Builtin.«set.update.loop»
theorem ent : lent = rent := by kernel_rfl
theorem d_eq : denote treeTable cS = Sem.bind (pyNext (.ref 270)) K1 := by
  show (match lent with | some b => b ⟨[.ref 269, .ref 270], []⟩ | none => unsupported ((withoutEnding? "set.update.loop" "#data").getD "set.update.loop")) = _
  rw [ent]
  show Builtin.«set.update.loop» ⟨[.ref 269, .ref 270], []⟩ = _
  unfold Builtin.«set.update.loop»
  dsimp only
  refine congrArg (Sem.bind (pyNext (.ref 270))) (funext fun r => ?_)
  cases r with
  | none => rfl
  | some x => rfl
theorem bt_set (P : Params) (o i : Obj) (f : Obj → Obj) : (((tree_m1778 P).set 269 (fun _ => o)).set 270 (fun _ => i)).set 269 f = ((tree_m1778 P).set 269 (fun _ => f o)).set 270 (fun _ => i) := by kernel_rfl
theorem bt_get (P : Params) (o i : Obj) : (((tree_m1778 P).set 269 (fun _ => o)).set 270 (fun _ => i)).get 269 = some o := by kernel_rfl
noncomputable def PN (n : Nat) (x : Value) : Prop := ∀ (o : Obj) (w : World) (os : OsState) (K : Option Value → Sem Fin) (k : Result → Sem Fin) (h : Option Value) (g : Bool) (l : List Value) (c : Code) (p : Pos) (kept : List Value) (F : Frame) (r : List Frame), PySem.W.Fast.tw8995145889498703905 pw w 10 (SX n (903 + n) o w os) (.ref 270) K cS ⟨48, 9, 48, 52⟩ (.ret k h g l c p kept :: F :: r) = some (SX (n + 1) (903 + n) o w os, ⟨K (some x), cS, ⟨48, 9, 48, 52⟩, (.ret k h g l c p kept :: F :: r)⟩)
noncomputable def PH (x : Value) (hv : Int) : Prop := ∀ (w : World) (T : BT) (N : Nat) (life : Life) (gens : Array GenState) (drawn : Drawn) (toks : Nat) (os : OsState) (K : Int → Sem Fin) (id : String) (args : Args) (ps : Pos) (k : Result → Sem Fin) (h : Option Value) (g : Bool) (l : List Value) (c : Code) (p : Pos) (kept : List Value) (F : Frame) (r : List Frame), (PySem.W.Fast.tw7302801816541890530 pw (wA false w) 5 ⟨T, N, life, gens, drawn, toks, os⟩ x K (.builtin id args) ps (.ret k h g l c p kept :: F :: r), PySem.W.Fast.tw7302801816541890530 pw (wA true w) 5 ⟨T, N, life, gens, drawn, toks, os⟩ x K (.builtin id args) ps (.ret k h g l c p kept :: F :: r)) = (some (⟨T, N, life, gens, drawn, toks + 1, os⟩, ⟨K hv, .builtin id args, ps, (.ret k h g l c p kept :: F :: r)⟩), some (⟨T, N, life, gens, drawn, toks + 1, os⟩, ⟨K hv, .builtin id args, ps, (.ret k h g l c p kept :: F :: r)⟩))
theorem PN.at {n : Nat} {x : Value} (H : PN n x) (o : Obj) (w : World) (os : OsState) (K : Option Value → Sem Fin) (k : Result → Sem Fin) (h : Option Value) (g : Bool) (l : List Value) (c : Code) (p : Pos) (kept : List Value) (F : Frame) (r : List Frame) : segGoT treeTable pw w 28 (some (.ref 6)) 1 10 (SX n (903 + n) o w os) ⟨Sem.bind (pyNext (.ref 270)) K, cS, ⟨48, 9, 48, 52⟩, (.ret k h g l c p kept :: F :: r)⟩ = some (SX (n + 1) (903 + n) o w os, ⟨K (some x), cS, ⟨48, 9, 48, 52⟩, (.ret k h g l c p kept :: F :: r)⟩) := by
  show nxP pw w 10 (SX n (903 + n) o w os) (.ref 270) K cS ⟨48, 9, 48, 52⟩ (.ret k h g l c p kept :: F :: r) = _
  rw [show @nxP = _ from PySem.W.Fast.te8995145889498703905]
  exact H o w os K k h g l c p kept F r
theorem PH.at {x : Value} {hv : Int} (H : PH x hv) (w : World) (T : BT) (N : Nat) (life : Life) (gens : Array GenState) (drawn : Drawn) (toks : Nat) (os : OsState) (K : Int → Sem Fin) (id : String) (args : Args) (ps : Pos) (k : Result → Sem Fin) (h : Option Value) (g : Bool) (l : List Value) (c : Code) (p : Pos) (kept : List Value) (F : Frame) (r : List Frame) : segGoT treeTable pw w 28 (some (.ref 6)) 1 5 ⟨T, N, life, gens, drawn, toks, os⟩ ⟨Sem.bind (pyHash x) K, .builtin id args, ps, (.ret k h g l c p kept :: F :: r)⟩ = some (⟨T, N, life, gens, drawn, toks + 1, os⟩, ⟨K hv, .builtin id args, ps, (.ret k h g l c p kept :: F :: r)⟩) := by
  refine pick (f := fun v => hsP pw v 5 ⟨T, N, life, gens, drawn, toks, os⟩ x K (.builtin id args) ps (.ret k h g l c p kept :: F :: r)) ?_
  rw [show @hsP = _ from PySem.W.Fast.te7302801816541890530]
  exact H w T N life gens drawn toks os K id args ps k h g l c p kept F r
theorem n0 : PN 0 (.int 917505 801) := by
  intro _ _ _ _ _ _ _ _ _ _ _ _ _
  kernel_rfl
theorem h0 : PH (.int 917505 801) 917505 := by
  intro _ _ _ _ _ _ _ _ _ _ _ _ _ _ _ _ _ _ _ _ _
  kernel_rfl
theorem n1 : PN 1 (.int 917536 807) := by
  intro _ _ _ _ _ _ _ _ _ _ _ _ _
  kernel_rfl
theorem h1 : PH (.int 917536 807) 917536 := by
  intro _ _ _ _ _ _ _ _ _ _ _ _ _ _ _ _ _ _ _ _ _
  kernel_rfl
theorem n2 : PN 2 (.int 917537 808) := by
  intro _ _ _ _ _ _ _ _ _ _ _ _ _
  kernel_rfl
theorem h2 : PH (.int 917537 808) 917537 := by
  intro _ _ _ _ _ _ _ _ _ _ _ _ _ _ _ _ _ _ _ _ _
  kernel_rfl
theorem n3 : PN 3 (.int 917538 809) := by
  intro _ _ _ _ _ _ _ _ _ _ _ _ _
  kernel_rfl
theorem h3 : PH (.int 917538 809) 917538 := by
  intro _ _ _ _ _ _ _ _ _ _ _ _ _ _ _ _ _ _ _ _ _
  kernel_rfl
theorem n4 : PN 4 (.int 917539 810) := by
  intro _ _ _ _ _ _ _ _ _ _ _ _ _
  kernel_rfl
theorem h4 : PH (.int 917539 810) 917539 := by
  intro _ _ _ _ _ _ _ _ _ _ _ _ _ _ _ _ _ _ _ _ _
  kernel_rfl
theorem n5 : PN 5 (.int 917540 811) := by
  intro _ _ _ _ _ _ _ _ _ _ _ _ _
  kernel_rfl
theorem h5 : PH (.int 917540 811) 917540 := by
  intro _ _ _ _ _ _ _ _ _ _ _ _ _ _ _ _ _ _ _ _ _
  kernel_rfl
theorem n6 : PN 6 (.int 917541 812) := by
  intro _ _ _ _ _ _ _ _ _ _ _ _ _
  kernel_rfl
theorem h6 : PH (.int 917541 812) 917541 := by
  intro _ _ _ _ _ _ _ _ _ _ _ _ _ _ _ _ _ _ _ _ _
  kernel_rfl
theorem n7 : PN 7 (.int 917542 813) := by
  intro _ _ _ _ _ _ _ _ _ _ _ _ _
  kernel_rfl
theorem h7 : PH (.int 917542 813) 917542 := by
  intro _ _ _ _ _ _ _ _ _ _ _ _ _ _ _ _ _ _ _ _ _
  kernel_rfl
theorem n8 : PN 8 (.int 917543 814) := by
  intro _ _ _ _ _ _ _ _ _ _ _ _ _
  kernel_rfl
theorem h8 : PH (.int 917543 814) 917543 := by
  intro _ _ _ _ _ _ _ _ _ _ _ _ _ _ _ _ _ _ _ _ _
  kernel_rfl
theorem n9 : PN 9 (.int 917544 815) := by
  intro _ _ _ _ _ _ _ _ _ _ _ _ _
  kernel_rfl
theorem h9 : PH (.int 917544 815) 917544 := by
  intro _ _ _ _ _ _ _ _ _ _ _ _ _ _ _ _ _ _ _ _ _
  kernel_rfl
theorem n10 : PN 10 (.int 917545 816) := by
  intro _ _ _ _ _ _ _ _ _ _ _ _ _
  kernel_rfl
theorem h10 : PH (.int 917545 816) 917545 := by
  intro _ _ _ _ _ _ _ _ _ _ _ _ _ _ _ _ _ _ _ _ _
  kernel_rfl
theorem n11 : PN 11 (.int 917546 817) := by
  intro _ _ _ _ _ _ _ _ _ _ _ _ _
  kernel_rfl
theorem h11 : PH (.int 917546 817) 917546 := by
  intro _ _ _ _ _ _ _ _ _ _ _ _ _ _ _ _ _ _ _ _ _
  kernel_rfl
theorem n12 : PN 12 (.int 917547 818) := by
  intro _ _ _ _ _ _ _ _ _ _ _ _ _
  kernel_rfl
theorem h12 : PH (.int 917547 818) 917547 := by
  intro _ _ _ _ _ _ _ _ _ _ _ _ _ _ _ _ _ _ _ _ _
  kernel_rfl
theorem n13 : PN 13 (.int 917548 819) := by
  intro _ _ _ _ _ _ _ _ _ _ _ _ _
  kernel_rfl
theorem h13 : PH (.int 917548 819) 917548 := by
  intro _ _ _ _ _ _ _ _ _ _ _ _ _ _ _ _ _ _ _ _ _
  kernel_rfl
theorem n14 : PN 14 (.int 917549 820) := by
  intro _ _ _ _ _ _ _ _ _ _ _ _ _
  kernel_rfl
theorem h14 : PH (.int 917549 820) 917549 := by
  intro _ _ _ _ _ _ _ _ _ _ _ _ _ _ _ _ _ _ _ _ _
  kernel_rfl
theorem n15 : PN 15 (.int 917550 821) := by
  intro _ _ _ _ _ _ _ _ _ _ _ _ _
  kernel_rfl
theorem h15 : PH (.int 917550 821) 917550 := by
  intro _ _ _ _ _ _ _ _ _ _ _ _ _ _ _ _ _ _ _ _ _
  kernel_rfl
theorem n16 : PN 16 (.int 917551 822) := by
  intro _ _ _ _ _ _ _ _ _ _ _ _ _
  kernel_rfl
theorem h16 : PH (.int 917551 822) 917551 := by
  intro _ _ _ _ _ _ _ _ _ _ _ _ _ _ _ _ _ _ _ _ _
  kernel_rfl
theorem n17 : PN 17 (.int 917552 823) := by
  intro _ _ _ _ _ _ _ _ _ _ _ _ _
  kernel_rfl
theorem h17 : PH (.int 917552 823) 917552 := by
  intro _ _ _ _ _ _ _ _ _ _ _ _ _ _ _ _ _ _ _ _ _
  kernel_rfl
theorem n18 : PN 18 (.int 917553 824) := by
  intro _ _ _ _ _ _ _ _ _ _ _ _ _
  kernel_rfl
theorem h18 : PH (.int 917553 824) 917553 := by
  intro _ _ _ _ _ _ _ _ _ _ _ _ _ _ _ _ _ _ _ _ _
  kernel_rfl
theorem n19 : PN 19 (.int 917554 825) := by
  intro _ _ _ _ _ _ _ _ _ _ _ _ _
  kernel_rfl
theorem h19 : PH (.int 917554 825) 917554 := by
  intro _ _ _ _ _ _ _ _ _ _ _ _ _ _ _ _ _ _ _ _ _
  kernel_rfl
theorem n20 : PN 20 (.int 917555 826) := by
  intro _ _ _ _ _ _ _ _ _ _ _ _ _
  kernel_rfl
theorem h20 : PH (.int 917555 826) 917555 := by
  intro _ _ _ _ _ _ _ _ _ _ _ _ _ _ _ _ _ _ _ _ _
  kernel_rfl
theorem n21 : PN 21 (.int 917556 827) := by
  intro _ _ _ _ _ _ _ _ _ _ _ _ _
  kernel_rfl
theorem h21 : PH (.int 917556 827) 917556 := by
  intro _ _ _ _ _ _ _ _ _ _ _ _ _ _ _ _ _ _ _ _ _
  kernel_rfl
theorem n22 : PN 22 (.int 917557 828) := by
  intro _ _ _ _ _ _ _ _ _ _ _ _ _
  kernel_rfl
theorem h22 : PH (.int 917557 828) 917557 := by
  intro _ _ _ _ _ _ _ _ _ _ _ _ _ _ _ _ _ _ _ _ _
  kernel_rfl
theorem n23 : PN 23 (.int 917558 829) := by
  intro _ _ _ _ _ _ _ _ _ _ _ _ _
  kernel_rfl
theorem h23 : PH (.int 917558 829) 917558 := by
  intro _ _ _ _ _ _ _ _ _ _ _ _ _ _ _ _ _ _ _ _ _
  kernel_rfl
theorem n24 : PN 24 (.int 917559 830) := by
  intro _ _ _ _ _ _ _ _ _ _ _ _ _
  kernel_rfl
theorem h24 : PH (.int 917559 830) 917559 := by
  intro _ _ _ _ _ _ _ _ _ _ _ _ _ _ _ _ _ _ _ _ _
  kernel_rfl
theorem n25 : PN 25 (.int 917560 831) := by
  intro _ _ _ _ _ _ _ _ _ _ _ _ _
  kernel_rfl
theorem h25 : PH (.int 917560 831) 917560 := by
  intro _ _ _ _ _ _ _ _ _ _ _ _ _ _ _ _ _ _ _ _ _
  kernel_rfl
theorem n26 : PN 26 (.int 917561 832) := by
  intro _ _ _ _ _ _ _ _ _ _ _ _ _
  kernel_rfl
theorem h26 : PH (.int 917561 832) 917561 := by
  intro _ _ _ _ _ _ _ _ _ _ _ _ _ _ _ _ _ _ _ _ _
  kernel_rfl
theorem n27 : PN 27 (.int 917562 833) := by
  intro _ _ _ _ _ _ _ _ _ _ _ _ _
  kernel_rfl
theorem h27 : PH (.int 917562 833) 917562 := by
  intro _ _ _ _ _ _ _ _ _ _ _ _ _ _ _ _ _ _ _ _ _
  kernel_rfl
theorem n28 : PN 28 (.int 917563 834) := by
  intro _ _ _ _ _ _ _ _ _ _ _ _ _
  kernel_rfl
theorem h28 : PH (.int 917563 834) 917563 := by
  intro _ _ _ _ _ _ _ _ _ _ _ _ _ _ _ _ _ _ _ _ _
  kernel_rfl
theorem n29 : PN 29 (.int 917564 835) := by
  intro _ _ _ _ _ _ _ _ _ _ _ _ _
  kernel_rfl
theorem h29 : PH (.int 917564 835) 917564 := by
  intro _ _ _ _ _ _ _ _ _ _ _ _ _ _ _ _ _ _ _ _ _
  kernel_rfl
theorem n30 : PN 30 (.int 917565 836) := by
  intro _ _ _ _ _ _ _ _ _ _ _ _ _
  kernel_rfl
theorem h30 : PH (.int 917565 836) 917565 := by
  intro _ _ _ _ _ _ _ _ _ _ _ _ _ _ _ _ _ _ _ _ _
  kernel_rfl
theorem n31 : PN 31 (.int 917566 837) := by
  intro _ _ _ _ _ _ _ _ _ _ _ _ _
  kernel_rfl
theorem h31 : PH (.int 917566 837) 917566 := by
  intro _ _ _ _ _ _ _ _ _ _ _ _ _ _ _ _ _ _ _ _ _
  kernel_rfl
theorem n32 : PN 32 (.int 917567 838) := by
  intro _ _ _ _ _ _ _ _ _ _ _ _ _
  kernel_rfl
theorem h32 : PH (.int 917567 838) 917567 := by
  intro _ _ _ _ _ _ _ _ _ _ _ _ _ _ _ _ _ _ _ _ _
  kernel_rfl
theorem n33 : PN 33 (.int 917568 839) := by
  intro _ _ _ _ _ _ _ _ _ _ _ _ _
  kernel_rfl
theorem h33 : PH (.int 917568 839) 917568 := by
  intro _ _ _ _ _ _ _ _ _ _ _ _ _ _ _ _ _ _ _ _ _
  kernel_rfl
theorem n34 : PN 34 (.int 917569 840) := by
  intro _ _ _ _ _ _ _ _ _ _ _ _ _
  kernel_rfl
theorem h34 : PH (.int 917569 840) 917569 := by
  intro _ _ _ _ _ _ _ _ _ _ _ _ _ _ _ _ _ _ _ _ _
  kernel_rfl
theorem n35 : PN 35 (.int 917570 841) := by
  intro _ _ _ _ _ _ _ _ _ _ _ _ _
  kernel_rfl
theorem h35 : PH (.int 917570 841) 917570 := by
  intro _ _ _ _ _ _ _ _ _ _ _ _ _ _ _ _ _ _ _ _ _
  kernel_rfl
theorem n36 : PN 36 (.int 917571 842) := by
  intro _ _ _ _ _ _ _ _ _ _ _ _ _
  kernel_rfl
theorem h36 : PH (.int 917571 842) 917571 := by
  intro _ _ _ _ _ _ _ _ _ _ _ _ _ _ _ _ _ _ _ _ _
  kernel_rfl
theorem n37 : PN 37 (.int 917572 843) := by
  intro _ _ _ _ _ _ _ _ _ _ _ _ _
  kernel_rfl
theorem h37 : PH (.int 917572 843) 917572 := by
  intro _ _ _ _ _ _ _ _ _ _ _ _ _ _ _ _ _ _ _ _ _
  kernel_rfl
theorem n38 : PN 38 (.int 917573 844) := by
  intro _ _ _ _ _ _ _ _ _ _ _ _ _
  kernel_rfl
theorem h38 : PH (.int 917573 844) 917573 := by
  intro _ _ _ _ _ _ _ _ _ _ _ _ _ _ _ _ _ _ _ _ _
  kernel_rfl
theorem n39 : PN 39 (.int 917574 845) := by
  intro _ _ _ _ _ _ _ _ _ _ _ _ _
  kernel_rfl
theorem h39 : PH (.int 917574 845) 917574 := by
  intro _ _ _ _ _ _ _ _ _ _ _ _ _ _ _ _ _ _ _ _ _
  kernel_rfl
theorem n40 : PN 40 (.int 917575 846) := by
  intro _ _ _ _ _ _ _ _ _ _ _ _ _
  kernel_rfl
theorem h40 : PH (.int 917575 846) 917575 := by
  intro _ _ _ _ _ _ _ _ _ _ _ _ _ _ _ _ _ _ _ _ _
  kernel_rfl
theorem n41 : PN 41 (.int 917576 847) := by
  intro _ _ _ _ _ _ _ _ _ _ _ _ _
  kernel_rfl
theorem h41 : PH (.int 917576 847) 917576 := by
  intro _ _ _ _ _ _ _ _ _ _ _ _ _ _ _ _ _ _ _ _ _
  kernel_rfl
theorem n42 : PN 42 (.int 917577 848) := by
  intro _ _ _ _ _ _ _ _ _ _ _ _ _
  kernel_rfl
theorem h42 : PH (.int 917577 848) 917577 := by
  intro _ _ _ _ _ _ _ _ _ _ _ _ _ _ _ _ _ _ _ _ _
  kernel_rfl
theorem n43 : PN 43 (.int 917578 849) := by
  intro _ _ _ _ _ _ _ _ _ _ _ _ _
  kernel_rfl
theorem h43 : PH (.int 917578 849) 917578 := by
  intro _ _ _ _ _ _ _ _ _ _ _ _ _ _ _ _ _ _ _ _ _
  kernel_rfl
theorem n44 : PN 44 (.int 917579 850) := by
  intro _ _ _ _ _ _ _ _ _ _ _ _ _
  kernel_rfl
theorem h44 : PH (.int 917579 850) 917579 := by
  intro _ _ _ _ _ _ _ _ _ _ _ _ _ _ _ _ _ _ _ _ _
  kernel_rfl
theorem n45 : PN 45 (.int 917580 851) := by
  intro _ _ _ _ _ _ _ _ _ _ _ _ _
  kernel_rfl
theorem h45 : PH (.int 917580 851) 917580 := by
  intro _ _ _ _ _ _ _ _ _ _ _ _ _ _ _ _ _ _ _ _ _
  kernel_rfl
theorem n46 : PN 46 (.int 917581 852) := by
  intro _ _ _ _ _ _ _ _ _ _ _ _ _
  kernel_rfl
theorem h46 : PH (.int 917581 852) 917581 := by
  intro _ _ _ _ _ _ _ _ _ _ _ _ _ _ _ _ _ _ _ _ _
  kernel_rfl
theorem n47 : PN 47 (.int 917582 853) := by
  intro _ _ _ _ _ _ _ _ _ _ _ _ _
  kernel_rfl
theorem h47 : PH (.int 917582 853) 917582 := by
  intro _ _ _ _ _ _ _ _ _ _ _ _ _ _ _ _ _ _ _ _ _
  kernel_rfl
theorem n48 : PN 48 (.int 917583 854) := by
  intro _ _ _ _ _ _ _ _ _ _ _ _ _
  kernel_rfl
theorem h48 : PH (.int 917583 854) 917583 := by
  intro _ _ _ _ _ _ _ _ _ _ _ _ _ _ _ _ _ _ _ _ _
  kernel_rfl
theorem n49 : PN 49 (.int 917584 855) := by
  intro _ _ _ _ _ _ _ _ _ _ _ _ _
  kernel_rfl
theorem h49 : PH (.int 917584 855) 917584 := by
  intro _ _ _ _ _ _ _ _ _ _ _ _ _ _ _ _ _ _ _ _ _
  kernel_rfl
theorem n50 : PN 50 (.int 917585 856) := by
  intro _ _ _ _ _ _ _ _ _ _ _ _ _
  kernel_rfl
theorem h50 : PH (.int 917585 856) 917585 := by
  intro _ _ _ _ _ _ _ _ _ _ _ _ _ _ _ _ _ _ _ _ _
  kernel_rfl
theorem n51 : PN 51 (.int 917586 857) := by
  intro _ _ _ _ _ _ _ _ _ _ _ _ _
  kernel_rfl
theorem h51 : PH (.int 917586 857) 917586 := by
  intro _ _ _ _ _ _ _ _ _ _ _ _ _ _ _ _ _ _ _ _ _
  kernel_rfl
theorem n52 : PN 52 (.int 917587 858) := by
  intro _ _ _ _ _ _ _ _ _ _ _ _ _
  kernel_rfl
theorem h52 : PH (.int 917587 858) 917587 := by
  intro _ _ _ _ _ _ _ _ _ _ _ _ _ _ _ _ _ _ _ _ _
  kernel_rfl
theorem n53 : PN 53 (.int 917588 859) := by
  intro _ _ _ _ _ _ _ _ _ _ _ _ _
  kernel_rfl
theorem h53 : PH (.int 917588 859) 917588 := by
  intro _ _ _ _ _ _ _ _ _ _ _ _ _ _ _ _ _ _ _ _ _
  kernel_rfl
theorem n54 : PN 54 (.int 917589 860) := by
  intro _ _ _ _ _ _ _ _ _ _ _ _ _
  kernel_rfl
theorem h54 : PH (.int 917589 860) 917589 := by
  intro _ _ _ _ _ _ _ _ _ _ _ _ _ _ _ _ _ _ _ _ _
  kernel_rfl
theorem n55 : PN 55 (.int 917590 861) := by
  intro _ _ _ _ _ _ _ _ _ _ _ _ _
  kernel_rfl
theorem h55 : PH (.int 917590 861) 917590 := by
  intro _ _ _ _ _ _ _ _ _ _ _ _ _ _ _ _ _ _ _ _ _
  kernel_rfl
theorem n56 : PN 56 (.int 917591 862) := by
  intro _ _ _ _ _ _ _ _ _ _ _ _ _
  kernel_rfl
theorem h56 : PH (.int 917591 862) 917591 := by
  intro _ _ _ _ _ _ _ _ _ _ _ _ _ _ _ _ _ _ _ _ _
  kernel_rfl
theorem n57 : PN 57 (.int 917592 863) := by
  intro _ _ _ _ _ _ _ _ _ _ _ _ _
  kernel_rfl
theorem h57 : PH (.int 917592 863) 917592 := by
  intro _ _ _ _ _ _ _ _ _ _ _ _ _ _ _ _ _ _ _ _ _
  kernel_rfl
theorem n58 : PN 58 (.int 917593 864) := by
  intro _ _ _ _ _ _ _ _ _ _ _ _ _
  kernel_rfl
theorem h58 : PH (.int 917593 864) 917593 := by
  intro _ _ _ _ _ _ _ _ _ _ _ _ _ _ _ _ _ _ _ _ _
  kernel_rfl
theorem n59 : PN 59 (.int 917594 865) := by
  intro _ _ _ _ _ _ _ _ _ _ _ _ _
  kernel_rfl
theorem h59 : PH (.int 917594 865) 917594 := by
  intro _ _ _ _ _ _ _ _ _ _ _ _ _ _ _ _ _ _ _ _ _
  kernel_rfl
theorem n60 : PN 60 (.int 917595 866) := by
  intro _ _ _ _ _ _ _ _ _ _ _ _ _
  kernel_rfl
theorem h60 : PH (.int 917595 866) 917595 := by
  intro _ _ _ _ _ _ _ _ _ _ _ _ _ _ _ _ _ _ _ _ _
  kernel_rfl
theorem n61 : PN 61 (.int 917596 867) := by
  intro _ _ _ _ _ _ _ _ _ _ _ _ _
  kernel_rfl
theorem h61 : PH (.int 917596 867) 917596 := by
  intro _ _ _ _ _ _ _ _ _ _ _ _ _ _ _ _ _ _ _ _ _
  kernel_rfl
theorem n62 : PN 62 (.int 917597 868) := by
  intro _ _ _ _ _ _ _ _ _ _ _ _ _
  kernel_rfl
theorem h62 : PH (.int 917597 868) 917597 := by
  intro _ _ _ _ _ _ _ _ _ _ _ _ _ _ _ _ _ _ _ _ _
  kernel_rfl
theorem n63 : PN 63 (.int 917598 869) := by
  intro _ _ _ _ _ _ _ _ _ _ _ _ _
  kernel_rfl
theorem h63 : PH (.int 917598 869) 917598 := by
  intro _ _ _ _ _ _ _ _ _ _ _ _ _ _ _ _ _ _ _ _ _
  kernel_rfl
theorem n64 : PN 64 (.int 917599 870) := by
  intro _ _ _ _ _ _ _ _ _ _ _ _ _
  kernel_rfl
theorem h64 : PH (.int 917599 870) 917599 := by
  intro _ _ _ _ _ _ _ _ _ _ _ _ _ _ _ _ _ _ _ _ _
  kernel_rfl
theorem n65 : PN 65 (.int 917600 871) := by
  intro _ _ _ _ _ _ _ _ _ _ _ _ _
  kernel_rfl
theorem h65 : PH (.int 917600 871) 917600 := by
  intro _ _ _ _ _ _ _ _ _ _ _ _ _ _ _ _ _ _ _ _ _
  kernel_rfl
theorem n66 : PN 66 (.int 917601 872) := by
  intro _ _ _ _ _ _ _ _ _ _ _ _ _
  kernel_rfl
theorem h66 : PH (.int 917601 872) 917601 := by
  intro _ _ _ _ _ _ _ _ _ _ _ _ _ _ _ _ _ _ _ _ _
  kernel_rfl
theorem n67 : PN 67 (.int 917602 873) := by
  intro _ _ _ _ _ _ _ _ _ _ _ _ _
  kernel_rfl
theorem h67 : PH (.int 917602 873) 917602 := by
  intro _ _ _ _ _ _ _ _ _ _ _ _ _ _ _ _ _ _ _ _ _
  kernel_rfl
theorem n68 : PN 68 (.int 917603 874) := by
  intro _ _ _ _ _ _ _ _ _ _ _ _ _
  kernel_rfl
theorem h68 : PH (.int 917603 874) 917603 := by
  intro _ _ _ _ _ _ _ _ _ _ _ _ _ _ _ _ _ _ _ _ _
  kernel_rfl
theorem n69 : PN 69 (.int 917604 875) := by
  intro _ _ _ _ _ _ _ _ _ _ _ _ _
  kernel_rfl
theorem h69 : PH (.int 917604 875) 917604 := by
  intro _ _ _ _ _ _ _ _ _ _ _ _ _ _ _ _ _ _ _ _ _
  kernel_rfl
theorem n70 : PN 70 (.int 917605 876) := by
  intro _ _ _ _ _ _ _ _ _ _ _ _ _
  kernel_rfl
theorem h70 : PH (.int 917605 876) 917605 := by
  intro _ _ _ _ _ _ _ _ _ _ _ _ _ _ _ _ _ _ _ _ _
  kernel_rfl
theorem n71 : PN 71 (.int 917606 877) := by
  intro _ _ _ _ _ _ _ _ _ _ _ _ _
  kernel_rfl
theorem h71 : PH (.int 917606 877) 917606 := by
  intro _ _ _ _ _ _ _ _ _ _ _ _ _ _ _ _ _ _ _ _ _
  kernel_rfl
theorem n72 : PN 72 (.int 917607 878) := by
  intro _ _ _ _ _ _ _ _ _ _ _ _ _
  kernel_rfl
theorem h72 : PH (.int 917607 878) 917607 := by
  intro _ _ _ _ _ _ _ _ _ _ _ _ _ _ _ _ _ _ _ _ _
  kernel_rfl
theorem n73 : PN 73 (.int 917608 879) := by
  intro _ _ _ _ _ _ _ _ _ _ _ _ _
  kernel_rfl
theorem h73 : PH (.int 917608 879) 917608 := by
  intro _ _ _ _ _ _ _ _ _ _ _ _ _ _ _ _ _ _ _ _ _
  kernel_rfl
theorem n74 : PN 74 (.int 917609 880) := by
  intro _ _ _ _ _ _ _ _ _ _ _ _ _
  kernel_rfl
theorem h74 : PH (.int 917609 880) 917609 := by
  intro _ _ _ _ _ _ _ _ _ _ _ _ _ _ _ _ _ _ _ _ _
  kernel_rfl
theorem n75 : PN 75 (.int 917610 881) := by
  intro _ _ _ _ _ _ _ _ _ _ _ _ _
  kernel_rfl
theorem h75 : PH (.int 917610 881) 917610 := by
  intro _ _ _ _ _ _ _ _ _ _ _ _ _ _ _ _ _ _ _ _ _
  kernel_rfl
theorem n76 : PN 76 (.int 917611 882) := by
  intro _ _ _ _ _ _ _ _ _ _ _ _ _
  kernel_rfl
theorem h76 : PH (.int 917611 882) 917611 := by
  intro _ _ _ _ _ _ _ _ _ _ _ _ _ _ _ _ _ _ _ _ _
  kernel_rfl
theorem n77 : PN 77 (.int 917612 883) := by
  intro _ _ _ _ _ _ _ _ _ _ _ _ _
  kernel_rfl
theorem h77 : PH (.int 917612 883) 917612 := by
  intro _ _ _ _ _ _ _ _ _ _ _ _ _ _ _ _ _ _ _ _ _
  kernel_rfl
theorem n78 : PN 78 (.int 917613 884) := by
  intro _ _ _ _ _ _ _ _ _ _ _ _ _
  kernel_rfl
theorem h78 : PH (.int 917613 884) 917613 := by
  intro _ _ _ _ _ _ _ _ _ _ _ _ _ _ _ _ _ _ _ _ _
  kernel_rfl
theorem n79 : PN 79 (.int 917614 885) := by
  intro _ _ _ _ _ _ _ _ _ _ _ _ _
  kernel_rfl
theorem h79 : PH (.int 917614 885) 917614 := by
  intro _ _ _ _ _ _ _ _ _ _ _ _ _ _ _ _ _ _ _ _ _
  kernel_rfl
theorem n80 : PN 80 (.int 917615 886) := by
  intro _ _ _ _ _ _ _ _ _ _ _ _ _
  kernel_rfl
theorem h80 : PH (.int 917615 886) 917615 := by
  intro _ _ _ _ _ _ _ _ _ _ _ _ _ _ _ _ _ _ _ _ _
  kernel_rfl
theorem n81 : PN 81 (.int 917616 887) := by
  intro _ _ _ _ _ _ _ _ _ _ _ _ _
  kernel_rfl
theorem h81 : PH (.int 917616 887) 917616 := by
  intro _ _ _ _ _ _ _ _ _ _ _ _ _ _ _ _ _ _ _ _ _
  kernel_rfl
theorem n82 : PN 82 (.int 917617 888) := by
  intro _ _ _ _ _ _ _ _ _ _ _ _ _
  kernel_rfl
theorem h82 : PH (.int 917617 888) 917617 := by
  intro _ _ _ _ _ _ _ _ _ _ _ _ _ _ _ _ _ _ _ _ _
  kernel_rfl
theorem n83 : PN 83 (.int 917618 889) := by
  intro _ _ _ _ _ _ _ _ _ _ _ _ _
  kernel_rfl
theorem h83 : PH (.int 917618 889) 917618 := by
  intro _ _ _ _ _ _ _ _ _ _ _ _ _ _ _ _ _ _ _ _ _
  kernel_rfl
theorem n84 : PN 84 (.int 917619 890) := by
  intro _ _ _ _ _ _ _ _ _ _ _ _ _
  kernel_rfl
theorem h84 : PH (.int 917619 890) 917619 := by
  intro _ _ _ _ _ _ _ _ _ _ _ _ _ _ _ _ _ _ _ _ _
  kernel_rfl
theorem n85 : PN 85 (.int 917620 891) := by
  intro _ _ _ _ _ _ _ _ _ _ _ _ _
  kernel_rfl
theorem h85 : PH (.int 917620 891) 917620 := by
  intro _ _ _ _ _ _ _ _ _ _ _ _ _ _ _ _ _ _ _ _ _
  kernel_rfl
theorem n86 : PN 86 (.int 917621 892) := by
  intro _ _ _ _ _ _ _ _ _ _ _ _ _
  kernel_rfl
theorem h86 : PH (.int 917621 892) 917621 := by
  intro _ _ _ _ _ _ _ _ _ _ _ _ _ _ _ _ _ _ _ _ _
  kernel_rfl
theorem n87 : PN 87 (.int 917622 893) := by
  intro _ _ _ _ _ _ _ _ _ _ _ _ _
  kernel_rfl
theorem h87 : PH (.int 917622 893) 917622 := by
  intro _ _ _ _ _ _ _ _ _ _ _ _ _ _ _ _ _ _ _ _ _
  kernel_rfl
theorem n88 : PN 88 (.int 917623 894) := by
  intro _ _ _ _ _ _ _ _ _ _ _ _ _
  kernel_rfl
theorem h88 : PH (.int 917623 894) 917623 := by
  intro _ _ _ _ _ _ _ _ _ _ _ _ _ _ _ _ _ _ _ _ _
  kernel_rfl
theorem n89 : PN 89 (.int 917624 895) := by
  intro _ _ _ _ _ _ _ _ _ _ _ _ _
  kernel_rfl
theorem h89 : PH (.int 917624 895) 917624 := by
  intro _ _ _ _ _ _ _ _ _ _ _ _ _ _ _ _ _ _ _ _ _
  kernel_rfl
theorem n90 : PN 90 (.int 917625 896) := by
  intro _ _ _ _ _ _ _ _ _ _ _ _ _
  kernel_rfl
theorem h90 : PH (.int 917625 896) 917625 := by
  intro _ _ _ _ _ _ _ _ _ _ _ _ _ _ _ _ _ _ _ _ _
  kernel_rfl
theorem n91 : PN 91 (.int 917626 897) := by
  intro _ _ _ _ _ _ _ _ _ _ _ _ _
  kernel_rfl
theorem h91 : PH (.int 917626 897) 917626 := by
  intro _ _ _ _ _ _ _ _ _ _ _ _ _ _ _ _ _ _ _ _ _
  kernel_rfl
theorem n92 : PN 92 (.int 917627 898) := by
  intro _ _ _ _ _ _ _ _ _ _ _ _ _
  kernel_rfl
theorem h92 : PH (.int 917627 898) 917627 := by
  intro _ _ _ _ _ _ _ _ _ _ _ _ _ _ _ _ _ _ _ _ _
  kernel_rfl
theorem n93 : PN 93 (.int 917628 899) := by
  intro _ _ _ _ _ _ _ _ _ _ _ _ _
  kernel_rfl
theorem h93 : PH (.int 917628 899) 917628 := by
  intro _ _ _ _ _ _ _ _ _ _ _ _ _ _ _ _ _ _ _ _ _
  kernel_rfl
theorem n94 : PN 94 (.int 917629 900) := by
  intro _ _ _ _ _ _ _ _ _ _ _ _ _
  kernel_rfl
theorem h94 : PH (.int 917629 900) 917629 := by
  intro _ _ _ _ _ _ _ _ _ _ _ _ _ _ _ _ _ _ _ _ _
  kernel_rfl
theorem n95 : PN 95 (.int 917630 901) := by
  intro _ _ _ _ _ _ _ _ _ _ _ _ _
  kernel_rfl
theorem h95 : PH (.int 917630 901) 917630 := by
  intro _ _ _ _ _ _ _ _ _ _ _ _ _ _ _ _ _ _ _ _ _
  kernel_rfl
theorem n96 : PN 96 (.int 917631 902) := by
  intro _ _ _ _ _ _ _ _ _ _ _ _ _
  kernel_rfl
theorem h96 : PH (.int 917631 902) 917631 := by
  intro _ _ _ _ _ _ _ _ _ _ _ _ _ _ _ _ _ _ _ _ _
  kernel_rfl
theorem goT_add {tb : String → Option Builtin} {p : Program} {w : World} {n₀ : Nat} {ann : Option Value} {b : Nat} : ∀ {n m : Nat} {s s' : SharedT} {t t' : Thread} {r : Option (SharedT × Thread)}, segGoT tb p w n₀ ann b n s t = some (s', t') → segGoT tb p w n₀ ann b m s' t' = r → segGoT tb p w n₀ ann b (n + m) s t = r
  | 0, m, s, s', t, t', r, h, k => by
    obtain ⟨rfl, rfl⟩ : s = s' ∧ t = t' := by simpa [segGoT] using h
    rw [Nat.zero_add]; exact k
  | n + 1, m, s, s', t, t', r, h, k => by
    rw [show n + 1 + m = n + m + 1 by omega]
    unfold segGoT at h ⊢
    cases he : endAt b t with
    | some f => rw [he] at h; cases h
    | none =>
      rw [he] at h
      cases hk : stepOk n₀ ann t with
      | false => rw [hk] at h; cases h
      | true =>
        rw [hk] at h
        cases hs : stepT (denote tb) p w s t with
        | none => rw [hs] at h; cases h
        | some x => obtain ⟨s₂, t₂⟩ := x; rw [hs] at h; exact goT_add h k
structure Adds (es : Array (Int × Value)) (t : SetTable) (i : Int) (tk : Nat) (es' : Array (Int × Value)) (t' : SetTable) : Prop where
  h1 : (t.place.size != es.size || decide (t.fill > t.mask)) = false
  h2 : byScan (.int i tk) es = true
  h3 : setScanFrom 269 (.int i tk) i true es.toList 0 = pure .absent
  h4 : layNew t es i (.int i tk) = (es', t', false, false)
  h5 : t'.plain = true
  h7 : ¬ es'.size > sizeLine
theorem again_S (w : World) (T : BT) (N : Nat) (life : Life) (gens : Array GenState) (drawn : Drawn) (toks : Nat) (os : OsState) (k : Result → Sem Fin) (h : Option Value) (g : Bool) (l : List Value) (c : Code) (p : Pos) (kept : List Value) (F : Frame) (r : List Frame) : segGoT treeTable pw w 28 (some (.ref 6)) 1 1 ⟨T, N, life, gens, drawn, toks, os⟩ ⟨again cS, .builtin "set.update.loop" ⟨[.ref 269, .ref 270], []⟩, ⟨48, 9, 48, 52⟩, (.ret k h g l c p kept :: F :: r)⟩ = some (⟨T, N, life, gens, drawn, toks, os⟩, ⟨denote treeTable cS, cS, ⟨48, 9, 48, 52⟩, (.ret k h g l c p kept :: F :: r)⟩) := by kernel_rfl
theorem turn {n : Nat} {i : Int} {tk : Nat} {es es' : Array (Int × Value)} {ep : Nat} {t t' : SetTable} (hN : PN n (.int i tk)) (hH : PH (.int i tk) i) (A : Adds es t i tk es' t') (h6 : t'.tooFull = false) (w : World) (os : OsState) (k : Result → Sem Fin) (h : Option Value) (g : Bool) (l : List Value) (c : Code) (p : Pos) (kept : List Value) (F : Frame) (r : List Frame) :
    go w 20 (SX n (903 + n) (setOb es ep t) w os) (tS (.ret k h g l c p kept :: F :: r)) = some (SX (n + 1) (903 + (n + 1)) (setOb es' (ep + 1) t') w os, tS (.ret k h g l c p kept :: F :: r)) := by
  rw [show tS (.ret k h g l c p kept :: F :: r) = ⟨Sem.bind (pyNext (.ref 270)) K1, cS, ⟨48, 9, 48, 52⟩, (.ret k h g l c p kept :: F :: r)⟩ from by unfold tS thP; rw [d_eq]]
  refine goT_add (n := 10) (m := 10) (hN.at (setOb es ep t) w os K1 k h g l c p kept F r) ?_
  have e : K1 (some (.int i tk)) = Sem.bind (pyHash (.int i tk)) (fun h => Sem.bind (setAddHashed 269 (.int i tk) h) fun _ => again cS) := Sem.bind_assoc _ _ _
  rw [e]
  refine goT_add (n := 5) (m := 5) (hH.at w _ _ _ _ _ _ _ (fun h => Sem.bind (setAddHashed 269 (.int i tk) h) fun _ => again cS) "set.update.loop" ⟨[.ref 269, .ref 270], []⟩ _ k h g l c p kept F r) ?_
  refine addX (n := 1) rfl (bt_get _ _ _) rfl A.h1 A.h2 A.h3 A.h4 A.h5 h6 A.h7 ?_
  rw [bt_set]
  refine (again_S _ _ _ _ _ _ _ _ k h g l c p kept F r).trans ?_
  rw [d_eq]
  rfl
theorem adds_N {m mask moves : Nat} {b : Bool} (hb : Int.ofNat (Nat.add 917536 m) % (2 ^ 64 : Int) = Int.ofNat (Nat.add 917536 m)) (hm : (917536 + m) % (mask + 1) = 32 + m) (hf : m + 2 ≤ mask) (hl : m + 1 < 4096) :
    Adds (esN m) (tN m mask moves b) (Int.ofNat (Nat.add 917536 m)) (Nat.add 807 m) (esN (m + 1)) (tN (m + 1) mask moves b) := by
  refine ⟨?_, scan_ok m hl, scan_absent _ _ hash_ne, lay_new hb hm hf, rfl, ?_⟩
  · unfold SetTable.fill
    rw [tN_size, esN_size]
    show (m + 1 != m + 1 || decide (m + 1 + 0 > mask)) = false
    rw [bne_self_eq_false, decide_eq_false (by omega)]; rfl
  · rw [esN_size, sizeLine_eq]; omega
theorem full_N {m mask moves : Nat} {b : Bool} (h : ¬ (m + 1) * 5 ≥ mask * 3) : (tN m mask moves b).tooFull = false := by
  unfold SetTable.tooFull SetTable.fill
  rw [tN_size]
  exact decide_eq_false h
theorem eq19 : esS19 = esN 18 := by kernel_rfl
theorem tq19 (b : Bool) : tS19 b = tN 18 127 2 b := by kernel_rfl
theorem q_ya (w : World) (os : OsState) (k : Result → Sem Fin) (h : Option Value) (g : Bool) (l : List Value) (c : Code) (p : Pos) (kept : List Value) (F : Frame) (r : List Frame) : L_ya w os k h g l c p kept F r = R_ya w os k h g l c p kept F r := by
  delta L_ya R_ya L_y R_y go tS
  rw [show @goP = _ from PySem.W.Fast.te2558842495915502910, show @thP = _ from PySem.W.Fast.te7106528859377955411]
  kernel_rfl
theorem p_ya (w : World) (os : OsState) (k : Result → Sem Fin) (h : Option Value) (g : Bool) (l : List Value) (c : Code) (p : Pos) (kept : List Value) (F : Frame) (r : List Frame) : segGoT treeTable pw w 28 (some (.ref 6)) 1 384 (SY 0 0 esS0 tS0 w os) (tS (.ret k h g l c p kept :: F :: r)) = some (SY 19 21 esS19 tS19 w os, tS (.ret k h g l c p kept :: F :: r)) :=
  pick (f := fun v => go v 384 (SY 0 0 esS0 tS0 w os) (tS (.ret k h g l c p kept :: F :: r))) (q_ya w os k h g l c p kept F r)
theorem q_yb (w : World) (os : OsState) (k : Result → Sem Fin) (h : Option Value) (g : Bool) (l : List Value) (c : Code) (p : Pos) (kept : List Value) (F : Frame) (r : List Frame) : L_yb w os k h g l c p kept F r = R_yb w os k h g l c p kept F r := by
  delta L_yb R_yb L_y R_y go tS
  rw [show @goP = _ from PySem.W.Fast.te2558842495915502910, show @thP = _ from PySem.W.Fast.te7106528859377955411]
  kernel_rfl
theorem p_yb (w : World) (os : OsState) (k : Result → Sem Fin) (h : Option Value) (g : Bool) (l : List Value) (c : Code) (p : Pos) (kept : List Value) (F : Frame) (r : List Frame) : segGoT treeTable pw w 28 (some (.ref 6)) 1 22 (SY 76 78 (esN 75) tb76 w os) (tS (.ret k h g l c p kept :: F :: r)) = some (SY 77 80 (esN 76) tb77 w os, tS (.ret k h g l c p kept :: F :: r)) :=
  pick (f := fun v => go v 22 (SY 76 78 (esN 75) tb76 w os) (tS (.ret k h g l c p kept :: F :: r))) (q_yb w os k h g l c p kept F r)
theorem set_loop (w : World) (os : OsState) (k : Result → Sem Fin) (h : Option Value) (g : Bool) (l : List Value) (c : Code) (p : Pos) (kept : List Value) (F : Frame) (r : List Frame) : segGoT treeTable pw w 28 (some (.ref 6)) 1 1946 (SY 0 0 esS0 tS0 w os) (tS (.ret k h g l c p kept :: F :: r)) = some (SX 97 1000 (setOb (esN 96) 100 (tN 96 511 3 (!w.params.followText "set-order"))) w os, tS (.ret k h g l c p kept :: F :: r)) := by
  refine goT_add (n := 384) (m := 1562) (p_ya w os k h g l c p kept F r) ?_
  unfold SY
  rw [eq19, tq19]
  refine goT_add (n := 20) (m := 1542) (turn (n := 19) (ep := 21) n19 h19 (adds_N (m := 18) (mask := 127) (moves := 2) (b := !w.params.followText "set-order") (by decide) (by decide) (by decide) (by decide)) (full_N (by decide)) w os k h g l c p kept F r) ?_
  refine goT_add (n := 20) (m := 1522) (turn (n := 20) (ep := 22) n20 h20 (adds_N (m := 19) (mask := 127) (moves := 2) (b := !w.params.followText "set-order") (by decide) (by decide) (by decide) (by decide)) (full_N (by decide)) w os k h g l c p kept F r) ?_
  refine goT_add (n := 20) (m := 1502) (turn (n := 21) (ep := 23) n21 h21 (adds_N (m := 20) (mask := 127) (moves := 2) (b := !w.params.followText "set-order") (by decide) (by decide) (by decide) (by decide)) (full_N (by decide)) w os k h g l c p kept F r) ?_
  refine goT_add (n := 20) (m := 1482) (turn (n := 22) (ep := 24) n22 h22 (adds_N (m := 21) (mask := 127) (moves := 2) (b := !w.params.followText "set-order") (by decide) (by decide) (by decide) (by decide)) (full_N (by decide)) w os k h g l c p kept F r) ?_
  refine goT_add (n := 20) (m := 1462) (turn (n := 23) (ep := 25) n23 h23 (adds_N (m := 22) (mask := 127) (moves := 2) (b := !w.params.followText "set-order") (by decide) (by decide) (by decide) (by decide)) (full_N (by decide)) w os k h g l c p kept F r) ?_
  refine goT_add (n := 20) (m := 1442) (turn (n := 24) (ep := 26) n24 h24 (adds_N (m := 23) (mask := 127) (moves := 2) (b := !w.params.followText "set-order") (by decide) (by decide) (by decide) (by decide)) (full_N (by decide)) w os k h g l c p kept F r) ?_
  refine goT_add (n := 20) (m := 1422) (turn (n := 25) (ep := 27) n25 h25 (adds_N (m := 24) (mask := 127) (moves := 2) (b := !w.params.followText "set-order") (by decide) (by decide) (by decide) (by decide)) (full_N (by decide)) w os k h g l c p kept F r) ?_
  refine goT_add (n := 20) (m := 1402) (turn (n := 26) (ep := 28) n26 h26 (adds_N (m := 25) (mask := 127) (moves := 2) (b := !w.params.followText "set-order") (by decide) (by decide) (by decide) (by decide)) (full_N (by decide)) w os k h g l c p kept F r) ?_
  refine goT_add (n := 20) (m := 1382) (turn (n := 27) (ep := 29) n27 h27 (adds_N (m := 26) (mask := 127) (moves := 2) (b := !w.params.followText "set-order") (by decide) (by decide) (by decide) (by decide)) (full_N (by decide)) w os k h g l c p kept F r) ?_
  refine goT_add (n := 20) (m := 1362) (turn (n := 28) (ep := 30) n28 h28 (adds_N (m := 27) (mask := 127) (moves := 2) (b := !w.params.followText "set-order") (by decide) (by decide) (by decide) (by decide)) (full_N (by decide)) w os k h g l c p kept F r) ?_
  refine goT_add (n := 20) (m := 1342) (turn (n := 29) (ep := 31) n29 h29 (adds_N (m := 28) (mask := 127) (moves := 2) (b := !w.params.followText "set-order") (by decide) (by decide) (by decide) (by decide)) (full_N (by decide)) w os k h g l c p kept F r) ?_
  refine goT_add (n := 20) (m := 1322) (turn (n := 30) (ep := 32) n30 h30 (adds_N (m := 29) (mask := 127) (moves := 2) (b := !w.params.followText "set-order") (by decide) (by decide) (by decide) (by decide)) (full_N (by decide)) w os k h g l c p kept F r) ?_
  refine goT_add (n := 20) (m := 1302) (turn (n := 31) (ep := 33) n31 h31 (adds_N (m := 30) (mask := 127) (moves := 2) (b := !w.params.followText "set-order") (by decide) (by decide) (by decide) (by decide)) (full_N (by decide)) w os k h g l c p kept F r) ?_
  refine goT_add (n := 20) (m := 1282) (turn (n := 32) (ep := 34) n32 h32 (adds_N (m := 31) (mask := 127) (moves := 2) (b := !w.params.followText "set-order") (by decide) (by decide) (by decide) (by decide)) (full_N (by decide)) w os k h g l c p kept F r) ?_
  refine goT_add (n := 20) (m := 1262) (turn (n := 33) (ep := 35) n33 h33 (adds_N (m := 32) (mask := 127) (moves := 2) (b := !w.params.followText "set-order") (by decide) (by decide) (by decide) (by decide)) (full_N (by decide)) w os k h g l c p kept F r) ?_
  refine goT_add (n := 20) (m := 1242) (turn (n := 34) (ep := 36) n34 h34 (adds_N (m := 33) (mask := 127) (moves := 2) (b := !w.params.followText "set-order") (by decide) (by decide) (by decide) (by decide)) (full_N (by decide)) w os k h g l c p kept F r) ?_
  refine goT_add (n := 20) (m := 1222) (turn (n := 35) (ep := 37) n35 h35 (adds_N (m := 34) (mask := 127) (moves := 2) (b := !w.params.followText "set-order") (by decide) (by decide) (by decide) (by decide)) (full_N (by decide)) w os k h g l c p kept F r) ?_
  refine goT_add (n := 20) (m := 1202) (turn (n := 36) (ep := 38) n36 h36 (adds_N (m := 35) (mask := 127) (moves := 2) (b := !w.params.followText "set-order") (by decide) (by decide) (by decide) (by decide)) (full_N (by decide)) w os k h g l c p kept F r) ?_
  refine goT_add (n := 20) (m := 1182) (turn (n := 37) (ep := 39) n37 h37 (adds_N (m := 36) (mask := 127) (moves := 2) (b := !w.params.followText "set-order") (by decide) (by decide) (by decide) (by decide)) (full_N (by decide)) w os k h g l c p kept F r) ?_
  refine goT_add (n := 20) (m := 1162) (turn (n := 38) (ep := 40) n38 h38 (adds_N (m := 37) (mask := 127) (moves := 2) (b := !w.params.followText "set-order") (by decide) (by decide) (by decide) (by decide)) (full_N (by decide)) w os k h g l c p kept F r) ?_
  refine goT_add (n := 20) (m := 1142) (turn (n := 39) (ep := 41) n39 h39 (adds_N (m := 38) (mask := 127) (moves := 2) (b := !w.params.followText "set-order") (by decide) (by decide) (by decide) (by decide)) (full_N (by decide)) w os k h g l c p kept F r) ?_
  refine goT_add (n := 20) (m := 1122) (turn (n := 40) (ep := 42) n40 h40 (adds_N (m := 39) (mask := 127) (moves := 2) (b := !w.params.followText "set-order") (by decide) (by decide) (by decide) (by decide)) (full_N (by decide)) w os k h g l c p kept F r) ?_
  refine goT_add (n := 20) (m := 1102) (turn (n := 41) (ep := 43) n41 h41 (adds_N (m := 40) (mask := 127) (moves := 2) (b := !w.params.followText "set-order") (by decide) (by decide) (by decide) (by decide)) (full_N (by decide)) w os k h g l c p kept F r) ?_
  refine goT_add (n := 20) (m := 1082) (turn (n := 42) (ep := 44) n42 h42 (adds_N (m := 41) (mask := 127) (moves := 2) (b := !w.params.followText "set-order") (by decide) (by decide) (by decide) (by decide)) (full_N (by decide)) w os k h g l c p kept F r) ?_
  refine goT_add (n := 20) (m := 1062) (turn (n := 43) (ep := 45) n43 h43 (adds_N (m := 42) (mask := 127) (moves := 2) (b := !w.params.followText "set-order") (by decide) (by decide) (by decide) (by decide)) (full_N (by decide)) w os k h g l c p kept F r) ?_
  refine goT_add (n := 20) (m := 1042) (turn (n := 44) (ep := 46) n44 h44 (adds_N (m := 43) (mask := 127) (moves := 2) (b := !w.params.followText "set-order") (by decide) (by decide) (by decide) (by decide)) (full_N (by decide)) w os k h g l c p kept F r) ?_
  refine goT_add (n := 20) (m := 1022) (turn (n := 45) (ep := 47) n45 h45 (adds_N (m := 44) (mask := 127) (moves := 2) (b := !w.params.followText "set-order") (by decide) (by decide) (by decide) (by decide)) (full_N (by decide)) w os k h g l c p kept F r) ?_
  refine goT_add (n := 20) (m := 1002) (turn (n := 46) (ep := 48) n46 h46 (adds_N (m := 45) (mask := 127) (moves := 2) (b := !w.params.followText "set-order") (by decide) (by decide) (by decide) (by decide)) (full_N (by decide)) w os k h g l c p kept F r) ?_
  refine goT_add (n := 20) (m := 982) (turn (n := 47) (ep := 49) n47 h47 (adds_N (m := 46) (mask := 127) (moves := 2) (b := !w.params.followText "set-order") (by decide) (by decide) (by decide) (by decide)) (full_N (by decide)) w os k h g l c p kept F r) ?_
  refine goT_add (n := 20) (m := 962) (turn (n := 48) (ep := 50) n48 h48 (adds_N (m := 47) (mask := 127) (moves := 2) (b := !w.params.followText "set-order") (by decide) (by decide) (by decide) (by decide)) (full_N (by decide)) w os k h g l c p kept F r) ?_
  refine goT_add (n := 20) (m := 942) (turn (n := 49) (ep := 51) n49 h49 (adds_N (m := 48) (mask := 127) (moves := 2) (b := !w.params.followText "set-order") (by decide) (by decide) (by decide) (by decide)) (full_N (by decide)) w os k h g l c p kept F r) ?_
  refine goT_add (n := 20) (m := 922) (turn (n := 50) (ep := 52) n50 h50 (adds_N (m := 49) (mask := 127) (moves := 2) (b := !w.params.followText "set-order") (by decide) (by decide) (by decide) (by decide)) (full_N (by decide)) w os k h g l c p kept F r) ?_
  refine goT_add (n := 20) (m := 902) (turn (n := 51) (ep := 53) n51 h51 (adds_N (m := 50) (mask := 127) (moves := 2) (b := !w.params.followText "set-order") (by decide) (by decide) (by decide) (by decide)) (full_N (by decide)) w os k h g l c p kept F r) ?_
  refine goT_add (n := 20) (m := 882) (turn (n := 52) (ep := 54) n52 h52 (adds_N (m := 51) (mask := 127) (moves := 2) (b := !w.params.followText "set-order") (by decide) (by decide) (by decide) (by decide)) (full_N (by decide)) w os k h g l c p kept F r) ?_
  refine goT_add (n := 20) (m := 862) (turn (n := 53) (ep := 55) n53 h53 (adds_N (m := 52) (mask := 127) (moves := 2) (b := !w.params.followText "set-order") (by decide) (by decide) (by decide) (by decide)) (full_N (by decide)) w os k h g l c p kept F r) ?_
  refine goT_add (n := 20) (m := 842) (turn (n := 54) (ep := 56) n54 h54 (adds_N (m := 53) (mask := 127) (moves := 2) (b := !w.params.followText "set-order") (by decide) (by decide) (by decide) (by decide)) (full_N (by decide)) w os k h g l c p kept F r) ?_
  refine goT_add (n := 20) (m := 822) (turn (n := 55) (ep := 57) n55 h55 (adds_N (m := 54) (mask := 127) (moves := 2) (b := !w.params.followText "set-order") (by decide) (by decide) (by decide) (by decide)) (full_N (by decide)) w os k h g l c p kept F r) ?_
  refine goT_add (n := 20) (m := 802) (turn (n := 56) (ep := 58) n56 h56 (adds_N (m := 55) (mask := 127) (moves := 2) (b := !w.params.followText "set-order") (by decide) (by decide) (by decide) (by decide)) (full_N (by decide)) w os k h g l c p kept F r) ?_
  refine goT_add (n := 20) (m := 782) (turn (n := 57) (ep := 59) n57 h57 (adds_N (m := 56) (mask := 127) (moves := 2) (b := !w.params.followText "set-order") (by decide) (by decide) (by decide) (by decide)) (full_N (by decide)) w os k h g l c p kept F r) ?_
  refine goT_add (n := 20) (m := 762) (turn (n := 58) (ep := 60) n58 h58 (adds_N (m := 57) (mask := 127) (moves := 2) (b := !w.params.followText "set-order") (by decide) (by decide) (by decide) (by decide)) (full_N (by decide)) w os k h g l c p kept F r) ?_
  refine goT_add (n := 20) (m := 742) (turn (n := 59) (ep := 61) n59 h59 (adds_N (m := 58) (mask := 127) (moves := 2) (b := !w.params.followText "set-order") (by decide) (by decide) (by decide) (by decide)) (full_N (by decide)) w os k h g l c p kept F r) ?_
  refine goT_add (n := 20) (m := 722) (turn (n := 60) (ep := 62) n60 h60 (adds_N (m := 59) (mask := 127) (moves := 2) (b := !w.params.followText "set-order") (by decide) (by decide) (by decide) (by decide)) (full_N (by decide)) w os k h g l c p kept F r) ?_
  refine goT_add (n := 20) (m := 702) (turn (n := 61) (ep := 63) n61 h61 (adds_N (m := 60) (mask := 127) (moves := 2) (b := !w.params.followText "set-order") (by decide) (by decide) (by decide) (by decide)) (full_N (by decide)) w os k h g l c p kept F r) ?_
  refine goT_add (n := 20) (m := 682) (turn (n := 62) (ep := 64) n62 h62 (adds_N (m := 61) (mask := 127) (moves := 2) (b := !w.params.followText "set-order") (by decide) (by decide) (by decide) (by decide)) (full_N (by decide)) w os k h g l c p kept F r) ?_
  refine goT_add (n := 20) (m := 662) (turn (n := 63) (ep := 65) n63 h63 (adds_N (m := 62) (mask := 127) (moves := 2) (b := !w.params.followText "set-order") (by decide) (by decide) (by decide) (by decide)) (full_N (by decide)) w os k h g l c p kept F r) ?_
  refine goT_add (n := 20) (m := 642) (turn (n := 64) (ep := 66) n64 h64 (adds_N (m := 63) (mask := 127) (moves := 2) (b := !w.params.followText "set-order") (by decide) (by decide) (by decide) (by decide)) (full_N (by decide)) w os k h g l c p kept F r) ?_
  refine goT_add (n := 20) (m := 622) (turn (n := 65) (ep := 67) n65 h65 (adds_N (m := 64) (mask := 127) (moves := 2) (b := !w.params.followText "set-order") (by decide) (by decide) (by decide) (by decide)) (full_N (by decide)) w os k h g l c p kept F r) ?_
  refine goT_add (n := 20) (m := 602) (turn (n := 66) (ep := 68) n66 h66 (adds_N (m := 65) (mask := 127) (moves := 2) (b := !w.params.followText "set-order") (by decide) (by decide) (by decide) (by decide)) (full_N (by decide)) w os k h g l c p kept F r) ?_
  refine goT_add (n := 20) (m := 582) (turn (n := 67) (ep := 69) n67 h67 (adds_N (m := 66) (mask := 127) (moves := 2) (b := !w.params.followText "set-order") (by decide) (by decide) (by decide) (by decide)) (full_N (by decide)) w os k h g l c p kept F r) ?_
  refine goT_add (n := 20) (m := 562) (turn (n := 68) (ep := 70) n68 h68 (adds_N (m := 67) (mask := 127) (moves := 2) (b := !w.params.followText "set-order") (by decide) (by decide) (by decide) (by decide)) (full_N (by decide)) w os k h g l c p kept F r) ?_
  refine goT_add (n := 20) (m := 542) (turn (n := 69) (ep := 71) n69 h69 (adds_N (m := 68) (mask := 127) (moves := 2) (b := !w.params.followText "set-order") (by decide) (by decide) (by decide) (by decide)) (full_N (by decide)) w os k h g l c p kept F r) ?_
  refine goT_add (n := 20) (m := 522) (turn (n := 70) (ep := 72) n70 h70 (adds_N (m := 69) (mask := 127) (moves := 2) (b := !w.params.followText "set-order") (by decide) (by decide) (by decide) (by decide)) (full_N (by decide)) w os k h g l c p kept F r) ?_
  refine goT_add (n := 20) (m := 502) (turn (n := 71) (ep := 73) n71 h71 (adds_N (m := 70) (mask := 127) (moves := 2) (b := !w.params.followText "set-order") (by decide) (by decide) (by decide) (by decide)) (full_N (by decide)) w os k h g l c p kept F r) ?_
  refine goT_add (n := 20) (m := 482) (turn (n := 72) (ep := 74) n72 h72 (adds_N (m := 71) (mask := 127) (moves := 2) (b := !w.params.followText "set-order") (by decide) (by decide) (by decide) (by decide)) (full_N (by decide)) w os k h g l c p kept F r) ?_
  refine goT_add (n := 20) (m := 462) (turn (n := 73) (ep := 75) n73 h73 (adds_N (m := 72) (mask := 127) (moves := 2) (b := !w.params.followText "set-order") (by decide) (by decide) (by decide) (by decide)) (full_N (by decide)) w os k h g l c p kept F r) ?_
  refine goT_add (n := 20) (m := 442) (turn (n := 74) (ep := 76) n74 h74 (adds_N (m := 73) (mask := 127) (moves := 2) (b := !w.params.followText "set-order") (by decide) (by decide) (by decide) (by decide)) (full_N (by decide)) w os k h g l c p kept F r) ?_
  refine goT_add (n := 20) (m := 422) (turn (n := 75) (ep := 77) n75 h75 (adds_N (m := 74) (mask := 127) (moves := 2) (b := !w.params.followText "set-order") (by decide) (by decide) (by decide) (by decide)) (full_N (by decide)) w os k h g l c p kept F r) ?_
  refine goT_add (n := 22) (m := 400) (p_yb w os k h g l c p kept F r) ?_
  refine goT_add (n := 20) (m := 380) (turn (n := 77) (ep := 80) n77 h77 (adds_N (m := 76) (mask := 511) (moves := 3) (b := !w.params.followText "set-order") (by decide) (by decide) (by decide) (by decide)) (full_N (by decide)) w os k h g l c p kept F r) ?_
  refine goT_add (n := 20) (m := 360) (turn (n := 78) (ep := 81) n78 h78 (adds_N (m := 77) (mask := 511) (moves := 3) (b := !w.params.followText "set-order") (by decide) (by decide) (by decide) (by decide)) (full_N (by decide)) w os k h g l c p kept F r) ?_
  refine goT_add (n := 20) (m := 340) (turn (n := 79) (ep := 82) n79 h79 (adds_N (m := 78) (mask := 511) (moves := 3) (b := !w.params.followText "set-order") (by decide) (by decide) (by decide) (by decide)) (full_N (by decide)) w os k h g l c p kept F r) ?_
  refine goT_add (n := 20) (m := 320) (turn (n := 80) (ep := 83) n80 h80 (adds_N (m := 79) (mask := 511) (moves := 3) (b := !w.params.followText "set-order") (by decide) (by decide) (by decide) (by decide)) (full_N (by decide)) w os k h g l c p kept F r) ?_
  refine goT_add (n := 20) (m := 300) (turn (n := 81) (ep := 84) n81 h81 (adds_N (m := 80) (mask := 511) (moves := 3) (b := !w.params.followText "set-order") (by decide) (by decide) (by decide) (by decide)) (full_N (by decide)) w os k h g l c p kept F r) ?_
  refine goT_add (n := 20) (m := 280) (turn (n := 82) (ep := 85) n82 h82 (adds_N (m := 81) (mask := 511) (moves := 3) (b := !w.params.followText "set-order") (by decide) (by decide) (by decide) (by decide)) (full_N (by decide)) w os k h g l c p kept F r) ?_
  refine goT_add (n := 20) (m := 260) (turn (n := 83) (ep := 86) n83 h83 (adds_N (m := 82) (mask := 511) (moves := 3) (b := !w.params.followText "set-order") (by decide) (by decide) (by decide) (by decide)) (full_N (by decide)) w os k h g l c p kept F r) ?_
  refine goT_add (n := 20) (m := 240) (turn (n := 84) (ep := 87) n84 h84 (adds_N (m := 83) (mask := 511) (moves := 3) (b := !w.params.followText "set-order") (by decide) (by decide) (by decide) (by decide)) (full_N (by decide)) w os k h g l c p kept F r) ?_
  refine goT_add (n := 20) (m := 220) (turn (n := 85) (ep := 88) n85 h85 (adds_N (m := 84) (mask := 511) (moves := 3) (b := !w.params.followText "set-order") (by decide) (by decide) (by decide) (by decide)) (full_N (by decide)) w os k h g l c p kept F r) ?_
  refine goT_add (n := 20) (m := 200) (turn (n := 86) (ep := 89) n86 h86 (adds_N (m := 85) (mask := 511) (moves := 3) (b := !w.params.followText "set-order") (by decide) (by decide) (by decide) (by decide)) (full_N (by decide)) w os k h g l c p kept F r) ?_
  refine goT_add (n := 20) (m := 180) (turn (n := 87) (ep := 90) n87 h87 (adds_N (m := 86) (mask := 511) (moves := 3) (b := !w.params.followText "set-order") (by decide) (by decide) (by decide) (by decide)) (full_N (by decide)) w os k h g l c p kept F r) ?_
  refine goT_add (n := 20) (m := 160) (turn (n := 88) (ep := 91) n88 h88 (adds_N (m := 87) (mask := 511) (moves := 3) (b := !w.params.followText "set-order") (by decide) (by decide) (by decide) (by decide)) (full_N (by decide)) w os k h g l c p kept F r) ?_
  refine goT_add (n := 20) (m := 140) (turn (n := 89) (ep := 92) n89 h89 (adds_N (m := 88) (mask := 511) (moves := 3) (b := !w.params.followText "set-order") (by decide) (by decide) (by decide) (by decide)) (full_N (by decide)) w os k h g l c p kept F r) ?_
  refine goT_add (n := 20) (m := 120) (turn (n := 90) (ep := 93) n90 h90 (adds_N (m := 89) (mask := 511) (moves := 3) (b := !w.params.followText "set-order") (by decide) (by decide) (by decide) (by decide)) (full_N (by decide)) w os k h g l c p kept F r) ?_
  refine goT_add (n := 20) (m := 100) (turn (n := 91) (ep := 94) n91 h91 (adds_N (m := 90) (mask := 511) (moves := 3) (b := !w.params.followText "set-order") (by decide) (by decide) (by decide) (by decide)) (full_N (by decide)) w os k h g l c p kept F r) ?_
  refine goT_add (n := 20) (m := 80) (turn (n := 92) (ep := 95) n92 h92 (adds_N (m := 91) (mask := 511) (moves := 3) (b := !w.params.followText "set-order") (by decide) (by decide) (by decide) (by decide)) (full_N (by decide)) w os k h g l c p kept F r) ?_
  refine goT_add (n := 20) (m := 60) (turn (n := 93) (ep := 96) n93 h93 (adds_N (m := 92) (mask := 511) (moves := 3) (b := !w.params.followText "set-order") (by decide) (by decide) (by decide) (by decide)) (full_N (by decide)) w os k h g l c p kept F r) ?_
  refine goT_add (n := 20) (m := 40) (turn (n := 94) (ep := 97) n94 h94 (adds_N (m := 93) (mask := 511) (moves := 3) (b := !w.params.followText "set-order") (by decide) (by decide) (by decide) (by decide)) (full_N (by decide)) w os k h g l c p kept F r) ?_
  refine goT_add (n := 20) (m := 20) (turn (n := 95) (ep := 98) n95 h95 (adds_N (m := 94) (mask := 511) (moves := 3) (b := !w.params.followText "set-order") (by decide) (by decide) (by decide) (by decide)) (full_N (by decide)) w os k h g l c p kept F r) ?_
  refine goT_add (n := 20) (m := 0) (turn (n := 96) (ep := 99) n96 h96 (adds_N (m := 95) (mask := 511) (moves := 3) (b := !w.params.followText "set-order") (by decide) (by decide) (by decide) (by decide)) (full_N (by decide)) w os k h g l c p kept F r) ?_
  rfl
end Mine
end
/- part HeadR -/
section
open PySem PySem.W PyProof.Rows
set_option maxRecDepth 100000
set_option maxHeartbeats 0
set_option linter.unusedVariables false
namespace Mine
noncomputable def L_e12 (c : Bool) (w : World) (os : OsState) : Option (Flow × SharedT × Code × Pos) × Option (Flow × SharedT × Code × Pos) := (rn (wA false (wO c w)) 27 (SX 97 1000 (setOb (esN 96) 100 (tN 96 511 3 (!(wO c w).params.followText "set-order"))) (wO c w) os) (tS (stS12 c w os)), rn (wA true (wO c w)) 27 (SX 97 1000 (setOb (esN 96) 100 (tN 96 511 3 (!(wO c w).params.followText "set-order"))) (wO c w) os) (tS (stS12 c w os)))
noncomputable def R_e12 (c : Bool) (w : World) (os : OsState) : Option (Flow × SharedT × Code × Pos) × Option (Flow × SharedT × Code × Pos) := (some (.next, S_c (wO c w) os, cB, ⟨48, 0, 48, 6⟩), some (.next, S_c (wO c w) os, cB, ⟨48, 0, 48, 6⟩))
noncomputable def L_s0 (w : World) (os : OsState) : SharedT := S_m1778 w os
noncomputable def R_s0 (w : World) (os : OsState) : SharedT := SY 0 0 esS0 tS0 w os
theorem q_e12f (w : World) (os : OsState) : L_e12 false w os = R_e12 false w os := by
  delta L_e12 R_e12 tS stS12 tE stE12 t12 go rn
  rw [show @goP = _ from PySem.W.Fast.te2558842495915502910, show @rnP = _ from PySem.W.Fast.te17108258986547353078, show @thP = _ from PySem.W.Fast.te7106528859377955411]
  kernel_rfl
theorem q_e12t (w : World) (os : OsState) : L_e12 true w os = R_e12 true w os := by
  delta L_e12 R_e12 tS stS12 tE stE12 t12 go rn
  rw [show @goP = _ from PySem.W.Fast.te2558842495915502910, show @rnP = _ from PySem.W.Fast.te17108258986547353078, show @thP = _ from PySem.W.Fast.te7106528859377955411]
  kernel_rfl
theorem q_s0 (w : World) (os : OsState) : L_s0 w os = R_s0 w os := by
  kernel_rfl
theorem q_e12 (c : Bool) (w : World) (os : OsState) : L_e12 c w os = R_e12 c w os := by cases c; exact q_e12f w os; exact q_e12t w os
theorem p_e12 (c : Bool) (w : World) (os : OsState) : rn (wO c w) 27 (SX 97 1000 (setOb (esN 96) 100 (tN 96 511 3 (!(wO c w).params.followText "set-order"))) (wO c w) os) (tS (stS12 c w os)) = some (.next, S_c (wO c w) os, cB, ⟨48, 0, 48, 6⟩) :=
  pick (f := fun v => rn v 27 (SX 97 1000 (setOb (esN 96) 100 (tN 96 511 3 (!(wO c w).params.followText "set-order"))) (wO c w) os) (tS (stS12 c w os))) (q_e12 c w os)
noncomputable abbrev nSix : Nat := (50 + (1024 + (1967 + (1774 + (1750 + (2016 + 19))))))
noncomputable abbrev nC9 : Nat := (1719 + (59 + (1946 + 27)))
theorem six_run (w : World) (os : OsState) : segRun treeTable pw w 28 (some (.ref 6)) 1 nSix (S_p5 w os).abs t6 = some (.next, (S_p6 w os).abs, cB, ⟨36, 12, 36, 49⟩) := by
  have a1 := p_a6 w os
  obtain ⟨k, h, g, l, c, p, kept, F, r, ea⟩ := big_is (g_a6 w os)
  have b1 := p_b6 w os
  obtain ⟨k', g', l', c', p', kept', eb⟩ := one_is (g_b6 w os)
  have z1 := p_z6 w os
  rw [ea] at a1 b1
  rw [eb] at b1 z1
  refine seg_go (segGo_of a1) ?_
  refine seg_go (segGo_of (p_e50 w os k h g l c p kept F r)) ?_
  refine seg_go (segGo_of b1) ?_
  refine seg_go (segGo_of (p_f3041 w os k' g' l' c' p' kept')) ?_
  refine seg_go (segGo_of (p_f4815 w os k' g' l' c' p' kept')) ?_
  refine seg_go (segGo_of (p_f6565 w os k' g' l' c' p' kept')) ?_
  exact segRun_of z1
theorem c9_at (b : Bool) (w : World) (os : OsState) : segRun treeTable pw (wO b w) 28 (some (.ref 6)) 1 nC9 (S_k (wO b w) os).abs t12 = some (.next, (S_c (wO b w) os).abs, cB, ⟨48, 0, 48, 6⟩) := by
  have a1 := p_a12 (wO b w) os
  obtain ⟨k, h, g, l, c, p, kept, F, r, ea⟩ := big_is (g_a12 (wO b w) os)
  have b1 := p_c12 b w os
  obtain ⟨k', h', g', l', c', p', kept', F', r', eb⟩ := big_is (g_c12 b w os)
  have z1 := p_e12 b w os
  rw [ea] at a1 b1
  rw [eb] at b1 z1
  refine seg_go (segGo_of a1) ?_
  refine seg_go (segGo_of b1) ?_
  rw [show S_m1778 (wO b w) os = SY 0 0 esS0 tS0 (wO b w) os from q_s0 _ _]
  refine seg_go (segGo_of (set_loop (wO b w) os k' h' g' l' c' p' kept' F' r')) ?_
  exact segRun_of z1
theorem c9_run (w : World) (os : OsState) : segRun treeTable pw w 28 (some (.ref 6)) 1 nC9 (S_k w os).abs t12 = some (.next, (S_c w os).abs, cB, ⟨48, 0, 48, 6⟩) := by
  have h := c9_at (w.params.followText "set-order") w os
  rw [show wO (w.params.followText "set-order") w = w from World.withFollow_self w _] at h
  exact h
theorem body_eq : bB = sts_p4 ++ (sts_p5 ++ (sts_6 ++ (sts_k ++ (sts_c ++ (sts_d ++ []))))) := by kernel_rfl
noncomputable abbrev nAll : Nat := 12 + (1 + (133 + (847 + (nSix + (164 + (nC9 + (279 + 2)))))))
theorem rest_run (w : World) (os : OsState) : topRun treeTable pw w 28 (some (.ref 6)) (133 + (847 + (nSix + (164 + (nC9 + (279 + 2)))))) (S_b w os).abs (restOf (sts_p4 ++ (sts_p5 ++ (sts_6 ++ (sts_k ++ (sts_c ++ (sts_d ++ [])))))) envT cB ⟨0, 0, 0, 0⟩ [topFrame qB]) = some (S_d w os).abs := by
  refine piece_app (n := 133) (segRun_of (p_p4 w os)) ?_
  refine piece_app (n := 847) (segRun_of (p_p5 w os)) ?_
  refine piece_app (n := nSix) (six_run w os) ?_
  refine piece_app (n := 164) (segRun_of (p_k w os)) ?_
  refine piece_app (n := nC9) (c9_run w os) ?_
  refine piece_app (n := 279) (segRun_of (p_d w os)) ?_
  exact q_f w os
theorem run_all (w : World) (os : OsState) : topRun treeTable pw w 28 (some (.ref 6)) nAll ⟨H_o w.params, #[], {}, 276, os⟩ (topStub pw) = some (S_d w os).abs := by
  refine go_top (n := 12) (q_p w os) ?_
  refine piece_block (n := 1) (q_b w os) ?_
  rw [body_eq]
  exact rest_run w os
end Mine
end
/- part HeadK -/
section
open PySem PySem.W PyProof.Rows
set_option maxRecDepth 100000
set_option maxHeartbeats 0
set_option linter.unusedVariables false
namespace Mine
noncomputable def Kd (P : Params) : Frag := (nat_lit 2, (ob_ox2 P)) :: (nat_lit 3, (ob_dx3 P)) :: (nat_lit 6, (PySem.W.boot_o_6 P)) :: (nat_lit 11, (ob_ox11 P)) :: (nat_lit 12, (ob_ox12 P)) :: (nat_lit 32, (ob_p4x32 P)) :: (nat_lit 34, (ob_p4x34 P)) :: (nat_lit 35, (ob_p4x35 P)) :: (nat_lit 37, (ob_p4x37 P)) :: (nat_lit 38, (ob_p4x38 P)) :: (nat_lit 39, (ob_p4x39 P)) :: (nat_lit 41, (ob_p4x41 P)) :: (nat_lit 42, (ob_p4x42 P)) :: (nat_lit 44, (ob_p4x44 P)) :: (nat_lit 45, (ob_p4x45 P)) :: (nat_lit 46, (ob_p4x46 P)) :: (nat_lit 48, (ob_p4x48 P)) :: (nat_lit 49, (ob_p4x49 P)) :: (nat_lit 51, (ob_p4x51 P)) :: (nat_lit 52, (ob_p4x52 P)) :: (nat_lit 53, (ob_p4x53 P)) :: (nat_lit 55, (ob_p4x55 P)) :: (nat_lit 56, (ob_p4x56 P)) :: (nat_lit 58, (ob_p4x58 P)) :: (nat_lit 59, (ob_p4x59 P)) :: (nat_lit 60, (ob_f8581x60 P)) :: (nat_lit 251, (ob_kx251 P)) :: (nat_lit 252, (ob_kx252 P)) :: (nat_lit 253, (ob_kx253 P)) :: (nat_lit 254, (ob_kx254 P)) :: (nat_lit 255, (ob_kx255 P)) :: (nat_lit 257, (ob_kx257 P)) :: (nat_lit 258, (ob_kx258 P)) :: (nat_lit 260, (ob_kx260 P)) :: (nat_lit 261, (ob_kx261 P)) :: (nat_lit 269, (ob_cx269 P)) :: (nat_lit 273, (ob_dx273 P)) :: (nat_lit 275, (ob_dx275 P)) :: (nat_lit 276, (ob_dx276 P)) :: (nat_lit 278, (ob_dx278 P)) :: (nat_lit 279, (ob_dx279 P)) :: (nat_lit 280, (ob_dx280 P)) :: (nat_lit 282, (ob_dx282 P)) :: (nat_lit 283, (ob_dx283 P)) :: (nat_lit 285, (ob_dx285 P)) :: (nat_lit 286, (ob_dx286 P)) :: (nat_lit 287, (ob_dx287 P)) :: (nat_lit 289, (ob_dx289 P)) :: (nat_lit 290, (ob_dx290 P)) :: (nat_lit 292, (ob_dx292 P)) :: (nat_lit 293, (ob_dx293 P)) :: (nat_lit 294, (ob_dx294 P)) :: (nat_lit 297, (ob_dx297 P)) :: (nat_lit 298, (ob_dx298 P)) :: (nat_lit 299, (ob_dx299 P)) :: (nat_lit 301, (ob_dx301 P)) :: (nat_lit 302, (ob_dx302 P)) :: (nat_lit 304, (ob_dx304 P)) :: (nat_lit 305, (ob_dx305 P)) :: (nat_lit 306, (ob_dx306 P)) :: (nat_lit 309, (ob_dx309 P)) :: (nat_lit 310, (ob_dx310 P)) :: (nat_lit 311, (ob_dx311 P)) :: (nat_lit 313, (ob_dx313 P)) :: (nat_lit 314, (ob_dx314 P)) :: (nat_lit 316, (ob_dx316 P)) :: (nat_lit 317, (ob_dx317 P)) :: (nat_lit 318, (ob_dx318 P)) :: (nat_lit 320, (ob_dx320 P)) :: (nat_lit 321, (ob_dx321 P)) :: (nat_lit 323, (ob_dx323 P)) :: (nat_lit 324, (ob_dx324 P)) :: (nat_lit 325, (ob_dx325 P)) :: (nat_lit 328, (ob_dx328 P)) :: (nat_lit 329, (ob_dx329 P)) :: []
noncomputable def Ka : List Nat := [nat_lit 2, nat_lit 3, nat_lit 6, nat_lit 11, nat_lit 12, nat_lit 32, nat_lit 34, nat_lit 35, nat_lit 37, nat_lit 38, nat_lit 39, nat_lit 41, nat_lit 42, nat_lit 44, nat_lit 45, nat_lit 46, nat_lit 48, nat_lit 49, nat_lit 51, nat_lit 52, nat_lit 53, nat_lit 55, nat_lit 56, nat_lit 58, nat_lit 59, nat_lit 60, nat_lit 251, nat_lit 252, nat_lit 253, nat_lit 254, nat_lit 255, nat_lit 257, nat_lit 258, nat_lit 260, nat_lit 261, nat_lit 269, nat_lit 273, nat_lit 275, nat_lit 276, nat_lit 278, nat_lit 279, nat_lit 280, nat_lit 282, nat_lit 283, nat_lit 285, nat_lit 286, nat_lit 287, nat_lit 289, nat_lit 290, nat_lit 292, nat_lit 293, nat_lit 294, nat_lit 297, nat_lit 298, nat_lit 299, nat_lit 301, nat_lit 302, nat_lit 304, nat_lit 305, nat_lit 306, nat_lit 309, nat_lit 310, nat_lit 311, nat_lit 313, nat_lit 314, nat_lit 316, nat_lit 317, nat_lit 318, nat_lit 320, nat_lit 321, nat_lit 323, nat_lit 324, nat_lit 325, nat_lit 328, nat_lit 329]
noncomputable def Qv : Program := view pw [0, 1, 3, 4, 5, 6, 10, 11, 13, 14, 16, 17, 18, 19, 20, 21, 22, 23]
noncomputable def loose3 : List Str := [.ofString "locale_encoding_alias", .ofString "Flags", .ofString "c9_set"]
noncomputable def Xv (s : Shared) : Bool := xlAt Qv [] s && recOk (RowW.records (OpenRow.toRowW (OpenLaw.row PySem.Challenge.rw_kl0204_01))) s
noncomputable def S1 (w : World) (os : OsState) : Shared := ⟨absHeap (tree_d w.params) 330 {}, #[], {}, 1080, os⟩
noncomputable def vwP (pr : Program) (l : List Nat) : Program := view pr l
noncomputable def ahP (t : BT) (n : Nat) (l : Life) : Heap := absHeap t n l
noncomputable def k1P (pr : Program) (h : Heap) (s : Shared) : Bool := staticsOk (importedModules pr.main.body) h s.heap && namesBound pr s.heap && gensDone s && laidKept h s.heap
noncomputable def k2P (pr q : Program) (ls : List Str) (r : WRecords) (s : Shared) := openSeen q ls (importedModules pr.main.body) (fun s => xlAt q [] s && recOk r s) true s
noncomputable def ogP (q : Program) (ls : List Str) := openGood q ls
noncomputable def rcs : WRecords := RowW.records (OpenRow.toRowW (OpenLaw.row PySem.Challenge.rw_kl0204_01))
lay_quick vwP ahP k1P k2P ogP
theorem t_k1 (w : World) (os : OsState) : k1P pw (H_o w.params) ⟨ahP (tree_d w.params) 330 {}, #[], {}, 1080, os⟩ = true := by
  rw [show @k1P = _ from PySem.W.Fast.te3385810297472080899, show @ahP = _ from PySem.W.Fast.te10927291257526426525]
  kernel_rfl
theorem q_k1 (w : World) (os : OsState) : (staticsOk (importedModules pw.main.body) (H_o w.params) (S1 w os).heap && namesBound pw (S1 w os).heap && gensDone (S1 w os) && laidKept (H_o w.params) (S1 w os).heap) = true := t_k1 w os
theorem t_k2 (w : World) (os : OsState) : k2P pw (vwP pw [0, 1, 3, 4, 5, 6, 10, 11, 13, 14, 16, 17, 18, 19, 20, 21, 22, 23]) loose3 rcs ⟨ahP (tree_d w.params) 330 {}, #[], {}, 1080, os⟩ = ogP (vwP pw [0, 1, 3, 4, 5, 6, 10, 11, 13, 14, 16, 17, 18, 19, 20, 21, 22, 23]) loose3 := by
  rw [show @k2P = _ from PySem.W.Fast.te887086882571201316, show @ahP = _ from PySem.W.Fast.te10927291257526426525, show @vwP = _ from PySem.W.Fast.te9351334239530208867, show @ogP = _ from PySem.W.Fast.te13356491146570052252]
  kernel_rfl
theorem q_k2 (w : World) (os : OsState) : openSeen Qv loose3 (importedModules pw.main.body) Xv true (S1 w os) = openGood Qv loose3 := t_k2 w os
theorem t_k3 (w : World) (os : OsState) : Ka.map (ahP (tree_d w.params) 330 {}).get? = (Kd w.params).map fun p => some p.2 := by
  rw [show @ahP = _ from PySem.W.Fast.te10927291257526426525]
  kernel_rfl
theorem q_k3 (w : World) (os : OsState) : Ka.map (S1 w os).heap.get? = (Kd w.params).map fun p => some p.2 := t_k3 w os
theorem q_ka (P : Params) : Ka = (Kd P).map (·.1) := by kernel_rfl
noncomputable def Hk : Hook := kHook Kd Ka q_ka
theorem left : LeftO pw Qv loose3 Xv Hk.obs Hk.val 30000 :=
  LeftO.of_pieces (H₀ := H_o) (H₁ := fun P => absHeap (tree_d P) 330 {}) (gs₀ := #[]) (gs₁ := #[]) (d₀ := {}) (d₁ := {}) (k₀ := 276) (k₁ := 1080) (m₀ := 28) (ann := some (.ref 6)) (M := nAll)
    q_o q_z run_all (by decide) (fun w => funext fun os => Prod.ext (q_k1 w os) (Prod.ext (q_k2 w os) (q_k3 w os)))
end Mine
end
/- part P1 -/
section
open PySem PySem.Builtin PySem.Builtin.Str PySem.StrLaws
namespace Mine
theorem at_one (z : PySem.Str) : At (PySem.Str.ofString "C." ++ z) (PySem.Str.ofString ".") (PySem.Str.ofString "C." ++ z).length 1 := by
  have e : (PySem.Str.ofString "C." ++ z).cps.toList = [67, 46] ++ z.cps.toList := by
    rw [PySem.Str.cps_append, Array.toList_append]
    rfl
  have l : (PySem.Str.ofString "C." ++ z).length = 2 + z.length := by rw [PySem.Str.length_append]; rfl
  refine ⟨by rw [l]; show 1 + 1 ≤ _; omega, ?_⟩
  rw [subAt_eq, e]
  rfl
theorem not_at_zero (z : PySem.Str) : ¬ At (PySem.Str.ofString "C." ++ z) (PySem.Str.ofString ".") (PySem.Str.ofString "C." ++ z).length 0 := by
  have e : (PySem.Str.ofString "C." ++ z).cps.toList = [67, 46] ++ z.cps.toList := by
    rw [PySem.Str.cps_append, Array.toList_append]
    rfl
  intro h
  have := h.2
  rw [subAt_eq, e] at this
  revert this
  show ¬ (([67] : List Nat) == [46]) = true
  decide
theorem occ_C (z : PySem.Str) : ∃ r, occurrences (PySem.Str.ofString "C." ++ z) (PySem.Str.ofString ".") 0 (PySem.Str.ofString "C." ++ z).length 1 = 1 :: r := by
  rcases occ_head (PySem.Str.ofString "C." ++ z) (PySem.Str.ofString ".") 1 (Nat.le_refl 1) with ⟨_, h⟩ | ⟨i, r, h1, h2, h3⟩
  · exact absurd (at_one z) (h 1)
  · match i, h1, h2, h3 with
    | 0, _, h2, _ => exact absurd h2 (not_at_zero z)
    | 1, h1, _, _ => exact ⟨r, h1⟩
    | i + 2, _, _, h3 => exact absurd (at_one z) (h3 1 (by omega))
theorem part_C (z : PySem.Str) : (Txt.partition (PySem.Str.ofString "C." ++ z) (PySem.Str.ofString ".")).2.2 = z := by
  obtain ⟨r, h⟩ := occ_C z
  unfold Txt.partition
  rw [h]
  show strSub (PySem.Str.ofString "C." ++ z) (1 + 1) (PySem.Str.ofString "C." ++ z).length = z
  apply PySem.Str.ext'
  have e : (PySem.Str.ofString "C." ++ z).cps.toList = [67, 46] ++ z.cps.toList := by
    rw [PySem.Str.cps_append, Array.toList_append]
    rfl
  have l : (PySem.Str.ofString "C." ++ z).length = 2 + z.length := by rw [PySem.Str.length_append]; rfl
  apply Array.toList_inj.mp
  rw [strSub_toList, e, l]
  simp only [PySem.Str.length]
  show (z.cps.toList).take (2 + z.cps.size - 2) = _
  exact List.take_of_length_le (by rw [Array.length_toList]; omega)
end Mine
end
/- part W1 -/
section
open PySem PySem.W PySem.Calls PyProof.Rows
set_option maxRecDepth 100000
set_option maxHeartbeats 4000000
set_option linter.unusedVariables false
namespace Mine
noncomputable abbrev L3 : List Str := looseW Qv [.ofString "locale_encoding_alias", .ofString "Flags", .ofString "c9_set"]
/-- what every call stands on -/
structure Ok (w : World) (mean : ExcName → Option Value) (mg mb : Str → Option Value) (h : Heap) : Prop where
  K : (Kd w.params).In h
  T : Top Qv L3 mean mg mb h
theorem Ok.keeps {w : World} {mean : ExcName → Option Value} {mg mb : Str → Option Value} {h h' : Heap} (x : Ok w mean mg mb h) (k : ∀ b o, h.get? b = some o → h'.get? b = some o) : Ok w mean mg mb h' := ⟨x.K.keeps k, x.T.keeps k⟩
/-- the room that a call wants -/
structure Room (A : Around) : Prop where
  hh : A.handled = none
  hd : A.depth + 4 < recursionLimit
  hu : A.units + 40 < cLine
theorem news_nil {h₀ h : Heap} {L : Addr} : News h₀ L h [] := fun _ h => nomatch h
section
variable {w : World} {A : Around} {R : Result → Shared → Prop} {s : Shared} {mg mb : Str → Option Value} {mean : ExcName → Option Value}
theorem am_name {a b : Str} {t1 t2 : Tok} (hA : Room A) (C : Ok w mean mg mb s.heap)
    (hb : b ≠ .ofString "euro") (hl : a.length ≤ 100) (hl' : b.length ≤ 100)
    (h : ∀ h' n' t, s.heap.StaysIn h' → R (.ok (.ret (.str (a ++ .ofString "@" ++ b) t))) { s with heap := h', toks := n' }) :
    codeAny (model pw w) A (.call (.ref 59) ⟨[.str a t1, .str b t2], []⟩) R s := by
  obtain ⟨KX, T⟩ := C
  obtain ⟨hd, dp, fr, gd, un⟩ := A
  obtain ⟨hh, hroom, hun⟩ := hA
  dsimp only at hh hroom hun
  subst hh
  refine call_plain_ret (show dp < recursionLimit by omega) (KX 59 _ rfl) (name := .ofString "_append_modifier") (pm := _) (doc := .none) (cd := .ref 58) rfl T.nolimit (codeRec_of KX (by kernel_rfl)) (binds := [(.ofString "code", .str a t1), (.ofString "modifier", .str b t2)]) (by rfl) (locs (by rfl)) (fun h₁ F => ?_)
  k_fill
  have N := news_nil (h₀ := s.heap) (L := s.heap.objs.size) (h := h₁)
  k_steps
  all_goals (try dsimp only)
  all_goals first | exact absurd (eq_of_beq (by assumption)) hb | skip
  exact h _ _ _ F.keep
theorem am_C {t1 t2 : Tok} (hA : Room A) (C : Ok w mean mg mb s.heap)
    (h : ∀ h' n' t, s.heap.StaysIn h' → R (.ok (.ret (.str (.ofString "C.ISO8859-15") t))) { s with heap := h', toks := n' }) :
    codeAny (model pw w) A (.call (.ref 59) ⟨[.str (.ofString "C") t1, .str (.ofString "euro") t2], []⟩) R s := by
  obtain ⟨KX, T⟩ := C
  obtain ⟨hd, dp, fr, gd, un⟩ := A
  obtain ⟨hh, hroom, hun⟩ := hA
  dsimp only at hh hroom hun
  subst hh
  refine call_plain_ret (show dp < recursionLimit by omega) (KX 59 _ rfl) (name := .ofString "_append_modifier") (pm := _) (doc := .none) (cd := .ref 58) rfl T.nolimit (codeRec_of KX (by kernel_rfl)) (binds := [(.ofString "code", .str (.ofString "C") t1), (.ofString "modifier", .str (.ofString "euro") t2)]) (by rfl) (locs (by rfl)) (fun h₁ F => ?_)
  k_fill
  have N := news_nil (h₀ := s.heap) (L := s.heap.objs.size) (h := h₁)
  k_steps
  all_goals (try dsimp only)
  · exact h _ _ _ F.keep
  · exact absurd (by assumption : (Builtin.Str.occurrences (PySem.Str.ofString "C") (PySem.Str.ofString ".") 0 (PySem.Str.ofString "C").length 1).isEmpty = false) (by decide +kernel)
theorem am_euro {z : Str} {t1 t2 : Tok} (hA : Room A) (C : Ok w mean mg mb s.heap) (hz : z ≠ .ofString "ISO8859-1") (hl : z.length ≤ 100)
    (h : ∀ h' n' t, s.heap.StaysIn h' → R (.ok (.ret (.str (if z = .ofString "ISO8859-15" ∨ z = .ofString "UTF-8" then .ofString "C." ++ z else .ofString "C." ++ z ++ .ofString "@" ++ .ofString "euro") t))) { s with heap := h', toks := n' }) :
    codeAny (model pw w) A (.call (.ref 59) ⟨[.str (.ofString "C." ++ z) t1, .str (.ofString "euro") t2], []⟩) R s := by
  obtain ⟨KX, T⟩ := C
  obtain ⟨hd, dp, fr, gd, un⟩ := A
  obtain ⟨hh, hroom, hun⟩ := hA
  dsimp only at hh hroom hun
  subst hh
  generalize hx : PySem.Str.ofString "C." ++ z = x at h ⊢
  have hxl : x.length ≤ 102 := by subst hx; rw [Str.length_append]; have : (PySem.Str.ofString "C.").length = 2 := by decide +kernel
                                  omega
  refine call_plain_ret (show dp < recursionLimit by omega) (KX 59 _ rfl) (name := .ofString "_append_modifier") (pm := _) (doc := .none) (cd := .ref 58) rfl T.nolimit (codeRec_of KX (by kernel_rfl)) (binds := [(.ofString "code", .str x t1), (.ofString "modifier", .str (.ofString "euro") t2)]) (by rfl) (locs (by rfl)) (fun h₁ F => ?_)
  k_fill
  have N := news_nil (h₀ := s.heap) (L := s.heap.objs.size) (h := h₁)
  k_steps
  all_goals (try dsimp only at *)
  all_goals k_steps
  all_goals (try dsimp only)
  · exfalso
    obtain ⟨r, e⟩ := occ_C z
    rw [hx] at e
    rename List.isEmpty _ = true => q
    rw [e] at q
    exact nomatch q
  · rename List.any _ _ = true => q
    subst hx
    rw [part_C] at q
    have q' : z = PySem.Str.ofString "ISO8859-15" ∨ z = PySem.Str.ofString "UTF-8" := by
      simp only [List.any_cons, List.any_nil, Bool.or_false, Bool.or_eq_true, beq_iff_eq] at q
      exact q.imp Eq.symm Eq.symm
    rw [if_pos q'] at h
    exact h _ _ _ (Fr.keep (by assumption))
  · exfalso
    rename (_ == _) = true => q
    subst hx
    rw [part_C] at q
    exact hz (eq_of_beq q)
  · rename List.any _ _ = false => q
    subst hx
    rw [part_C] at q
    have q' : ¬ (z = PySem.Str.ofString "ISO8859-15" ∨ z = PySem.Str.ofString "UTF-8") := by
      simp only [List.any_cons, List.any_nil, Bool.or_false, Bool.or_eq_false_iff, beq_eq_false_iff_ne] at q
      exact fun e => e.elim (fun e => q.1 e.symm) fun e => q.2 e.symm
    rw [if_neg q'] at h
    exact h _ _ _ (Fr.keep (by assumption))
end
end Mine
end
/- part W4 -/
section
open PySem PySem.W PySem.Calls PyProof.Rows
set_option maxRecDepth 100000
set_option maxHeartbeats 4000000
set_option linter.unusedVariables false
namespace Mine
theorem ob269 (P : Params) : ob_cx269 P = setOb (esN 96) 100 (tN 96 511 3 (!P.followText "set-order")) := by kernel_rfl
theorem entL_has : ∀ (m k j : Nat), k ≤ j → j < k + m → (Int.ofNat (Nat.add 917536 j), Value.int (Int.ofNat (Nat.add 917536 j)) (Nat.add 807 j)) ∈ entL m k
  | 0, k, j, h1, h2 => by omega
  | m + 1, k, j, h1, h2 => by
    by_cases e : j = k
    · subst e; exact .head _
    · exact .tail _ (entL_has m (k + 1) j (by omega) (by omega))
noncomputable def inC9 (k : Int) : Bool := decide (k = 917505 ∨ (917536 ≤ k ∧ k < 917632))
theorem hash_small {j : Nat} (h : j < 96) : hashInt (Int.ofNat (Nat.add 917536 j)) = Int.ofNat (Nat.add 917536 j) := by
  have : ((917536 + j : Nat) : Int) < 2 ^ 63 := by omega
  show hashInt ((917536 + j : Nat) : Int) = ((917536 + j : Nat) : Int)
  have e : rawHash ((917536 + j : Nat) : Int) = ((917536 + j : Nat) : Int) := by
    have h1 : ((917536 + j : Nat) : Int).natAbs % (2 ^ 61 - 1) = 917536 + j := by
      rw [Int.natAbs_natCast]
      exact Nat.mod_eq_of_lt (by omega)
    have hn : ¬ (((917536 + j : Nat) : Int) < 0) := by omega
    have hm : ¬ ((((917536 + j : Nat) : Int) == -1) = true) := fun q => by have := eq_of_beq q; omega
    show (if ((if ((917536 + j : Nat) : Int) < 0 then -(((((917536 + j : Nat) : Int).natAbs % (2 ^ 61 - 1) : Nat)) : Int) else (((((917536 + j : Nat) : Int).natAbs % (2 ^ 61 - 1) : Nat)) : Int)) == -1) = true then -2 else (if ((917536 + j : Nat) : Int) < 0 then -(((((917536 + j : Nat) : Int).natAbs % (2 ^ 61 - 1) : Nat)) : Int) else (((((917536 + j : Nat) : Int).natAbs % (2 ^ 61 - 1) : Nat)) : Int))) = _
    rw [h1, if_neg hn, if_neg hm]
  unfold hashInt
  rw [e, if_neg]
  intro q
  have := eq_of_beq q
  omega
theorem setOf9 {prog : Program} {w : World} {h : Heap} (KX : (Kd w.params).In h) : h.SetOf (intKind prog w) 269 inC9 97 := by
  refine ⟨_, esN 96, 100, tN 96 511 3 (!w.params.followText "set-order"), (KX 269 (ob_cx269 w.params) (by rfl)).trans (congrArg some (ob269 _)), ⟨rfl, rfl, rfl⟩, rfl, ?_, ?_, ?_, ?_, ?_⟩
  · intro e he
    have he' : e ∈ (917505, Value.int 917505 801) :: entL 96 0 := he
    rcases List.mem_cons.mp he' with q | q
    · subst q; exact ⟨⟨917505, by rfl, by rfl⟩, rfl⟩
    · obtain ⟨j, _, h2, h3⟩ := entL_mem q
      subst h3
      exact ⟨⟨_, intKind_is _ _ _ _, (hash_small (by omega)).symm⟩, rfl⟩
  · intro k
    unfold inC9
    rw [decide_eq_true_iff]
    constructor
    · rintro (rfl | ⟨h1, h2⟩)
      · exact ⟨_, List.Mem.head _, by rfl⟩
      · refine ⟨_, List.Mem.tail _ (entL_has 96 0 (k.toNat - 917536) (by omega) (by omega)), ?_⟩
        have : Int.ofNat (Nat.add 917536 (k.toNat - 917536)) = k := by
          show ((917536 + (k.toNat - 917536) : Nat) : Int) = k
          omega
        rw [this]
        exact intKind_is _ _ _ _
    · rintro ⟨e, he, hk⟩
      have he' : e ∈ (917505, Value.int 917505 801) :: entL 96 0 := he
      rcases List.mem_cons.mp he' with q | q
      · subst q
        left
        exact ((intKind prog w).inj _ _ _ (intKind_is prog w 917505 801) hk).symm
      · obtain ⟨j, _, h2, h3⟩ := entL_mem q
        subst h3
        have := (intKind prog w).inj _ _ _ (intKind_is prog w _ _) hk
        right
        rw [← this]
        show (917536 : Int) ≤ ((917536 + j : Nat) : Int) ∧ ((917536 + j : Nat) : Int) < 917632
        omega
  · rw [esN_size]; decide
  · unfold SetTable.fits SetTable.fill
    rw [tN_size, esN_size]; rfl
  · rw [esN_size]
end Mine
end
/- part P2 -/
section
open PySem PySem.Sre
namespace Mine
noncomputable def RC : Array Nat := #[14, 4, 0, 8, 4294967295, 24, 5, 0, 4294967295, 2, 1, 16, 70, 16, 76, 16, 65, 16, 71, 16, 83, 16, 32, 16, 40, 17, 0, 24, 6, 0, 4294967295, 20, 41, 1, 17, 1, 16, 41, 1]
noncomputable def St (t : Array Nat) (pc pos hd : Nat) (marks : Array (Option Nat)) (lm li : Int) (fr : List Sre.Frame) (wt : Nat) (ans : Option Bool) (sn : Seen) : M :=
  { code := RC, text := t, lim := t.size, start := 0, lastStart := 0, wholeText := false, mustAdvance := false, pc := pc, pos := pos, handed := hd, outermost := true, marks := marks, lastmark := lm, lastindex := li, loops := #[], inner := none, frames := fr, weight := wt, answer := ans, seen := sn, outcome := none }
noncomputable def Ends (b : Nat) (Q : M → Prop) (m : M) : Prop := ∃ k, k ≤ b ∧ (M.runFor k m).outcome.isSome = true ∧ Q (M.runFor k m)
theorem Ends.le {a b : Nat} {Q : M → Prop} {m : M} (h : Ends a Q m) (l : a ≤ b) : Ends b Q m := let ⟨k, h0, h1⟩ := h; ⟨k, Nat.le_trans h0 l, h1⟩
theorem ends_step {b : Nat} {Q : M → Prop} {m : M} (h : m.outcome = none) (e : Ends b Q m.step) : Ends (b + 1) Q m := by
  obtain ⟨k, h0, h1, h2⟩ := e
  refine ⟨k + 1, Nat.succ_le_succ h0, ?_⟩
  have : M.runFor (k + 1) m = M.runFor k m.step := by
    show (if m.outcome.isSome = true then m else M.runFor k m.step) = _
    rw [h]; rfl
  rw [this]
  exact ⟨h1, h2⟩
section
variable {b : Nat} {Q : M → Prop} {t : Array Nat} {pc pos hd : Nat} {marks : Array (Option Nat)} {lm li : Int} {fr : List Sre.Frame} {wt : Nat} {sn : Seen}
theorem lit_ok {ch : Nat} (h1 : ops[RC.getD pc 0]? = some .LITERAL) (hw : RC.getD (pc + 1) 0 = ch) (hpc : pc < 39) (hp : pos < t.size) (hc : t.getD pos 0 = ch)
    (e : ∀ sn, Ends b Q (St t (pc + 2) (pos + 1) hd marks lm li fr wt none sn)) : Ends (b + 1) Q (St t pc pos hd marks lm li fr wt none sn) := by
  refine ends_step rfl ?_
  have hs : ∃ sn', (St t pc pos hd marks lm li fr wt none sn).step = St t (pc + 2) (pos + 1) hd marks lm li fr wt none sn' := by
    refine ⟨sn.add (RC.getD pc 0), ?_⟩
    show (if pc < 39 then M.exec _ else _) = _
    rw [if_pos hpc]
    unfold M.exec
    simp only [M.word, St, Nat.add_zero, h1]
    refine Eq.trans (if_neg (show ¬ (pos ≥ t.size) from Nat.not_le.mpr hp)) ?_
    simp only [accepts, h1, hw, hc, beq_self_eq_true, itemWidth]
  obtain ⟨sn', hs⟩ := hs
  rw [hs]
  exact e sn'
theorem lit_no {ch : Nat} (h1 : ops[RC.getD pc 0]? = some .LITERAL) (hw : RC.getD (pc + 1) 0 = ch) (hpc : pc < 39) (hc : pos < t.size → t.getD pos 0 ≠ ch)
    (e : ∀ sn, Ends b Q (St t pc pos hd marks lm li fr wt (some false) sn)) : Ends (b + 1) Q (St t pc pos hd marks lm li fr wt none sn) := by
  refine ends_step rfl ?_
  have hs : ∃ sn', (St t pc pos hd marks lm li fr wt none sn).step = St t pc pos hd marks lm li fr wt (some false) sn' := by
    refine ⟨sn.add (RC.getD pc 0), ?_⟩
    show (if pc < 39 then M.exec _ else _) = _
    rw [if_pos hpc]
    unfold M.exec
    simp only [M.word, St, Nat.add_zero, h1]
    by_cases hp : pos < t.size
    · refine Eq.trans (if_neg (show ¬ (pos ≥ t.size) from Nat.not_le.mpr hp)) ?_
      simp only [accepts, h1, hw, show (t.getD pos 0 == ch) = false from beq_eq_false_iff_ne.mpr (hc hp)]
      rfl
    · refine Eq.trans (if_pos (show pos ≥ t.size from Nat.not_lt.mp hp)) ?_
      rfl
  obtain ⟨sn', hs⟩ := hs
  rw [hs]
  exact e sn'
/-- how far a run of the item at i goes from p, of n signs at most -/
noncomputable def far (t : Array Nat) (f : Nat → Bool) : Nat → Nat → Nat
  | 0, _ => 0
  | n + 1, p => if f (t.getD p 0) then far t f n (p + 1) + 1 else 0
theorem run_is {i : Nat} {f : Nat → Bool} (hf : ∀ c sn, accepts RC i c sn = .ok (f c, sn)) : ∀ (n p k : Nat) (sn : Seen), Sre.run RC t i n p k sn = .ok (k + far t f n p, sn)
  | 0, p, k, sn => rfl
  | n + 1, p, k, sn => by
    unfold Sre.run far
    rw [hf]
    cases h : f (t.getD p 0) with
    | true =>
      show Sre.run RC t i n (p + 1) (k + 1) sn = _
      rw [run_is hf n (p + 1) (k + 1) sn]
      simp only [if_true]
      rw [show k + 1 + far t f n (p + 1) = k + (far t f n (p + 1) + 1) by omega]
    | false => rfl
theorem acc_any (c : Nat) (sn : Seen) : accepts RC 9 c sn = .ok (c != 10, sn) := rfl
theorem acc_not (c : Nat) (sn : Seen) : accepts RC 31 c sn = .ok (c != 41, sn) := rfl
/-- the frame that gives back -/
noncomputable def Fg (pc pos : Nat) (n : Int) (lm li : Int) : Sre.Frame := { wait := .giveBack, pc := pc, pos := pos, outermost := true, count := n, kept := { lastmark := lm, lastindex := li, whole := false, marks := #[] } }
theorem rep_go {f : Nat → Bool} {skip : Nat} (h1 : ops[RC.getD pc 0]? = some .REPEAT_ONE) (hpc : pc < 39) (hw1 : RC.getD (pc + 1) 0 = skip) (hw2 : RC.getD (pc + 2) 0 = 0) (hw3 : RC.getD (pc + 3) 0 = 4294967295)
    (hf : ∀ c sn, accepts RC (pc + 4) c sn = .ok (f c, sn)) (hp : pos ≤ t.size) (hs : t.size < 4294967295) (hwt : wt + 1 ≤ 16777216)
    (e : ∀ sn, Ends b Q (St t (pc + 1 + skip) (pos + far t f (t.size - pos) pos) (pos + far t f (t.size - pos) pos) marks lm li (Fg pc (pos + far t f (t.size - pos) pos) (far t f (t.size - pos) pos) lm li :: fr) (wt + 1) none sn)) :
    Ends (b + 1) Q (St t pc pos hd marks lm li fr wt none sn) := by
  refine ends_step rfl ?_
  have hs : (St t pc pos hd marks lm li fr wt none sn).step = St t (pc + 1 + skip) (pos + far t f (t.size - pos) pos) (pos + far t f (t.size - pos) pos) marks lm li (Fg pc (pos + far t f (t.size - pos) pos) (far t f (t.size - pos) pos) lm li :: fr) (wt + 1) none ((sn.add (RC.getD pc 0)).add (RC.getD (pc + 4) 0)) := by
    show (if pc < 39 then M.exec _ else _) = _
    rw [if_pos hpc]
    unfold M.exec
    simp only [M.word, St, Nat.add_zero, h1, hw2, hw3]
    refine Eq.trans (if_neg (show ¬ (((0 : Nat) : Int) > (t.size : Int) - (pos : Int)) from by omega)) ?_
    have hm : min 4294967295 ((t.size : Int) - (pos : Int)).toNat = t.size - pos := by omega
    simp only [Bool.false_eq_true, if_false, hm, run_is hf, Nat.zero_add]
    refine Eq.trans (if_neg (show ¬ (far t f (t.size - pos) pos < 0) from Nat.not_lt_zero _)) ?_
    unfold M.afterRun M.attempt M.keep M.frame
    simp only [M.word, hw1]
    refine Eq.trans (if_neg ?_) ?_
    · show ¬ (wt + 1 + 0 > 16777216); omega
    · rfl
  rw [hs]
  exact e _
theorem mark_go {i : Nat} (h1 : ops[RC.getD pc 0]? = some .MARK) (hpc : pc < 39) (hw : RC.getD (pc + 1) 0 = i)
    (e : ∀ sn, Ends b Q { (St t pc pos hd marks lm li fr wt none sn).mark i with seen := sn }) : Ends (b + 1) Q (St t pc pos hd marks lm li fr wt none sn) := by
  refine ends_step rfl ?_
  have hs : (St t pc pos hd marks lm li fr wt none sn).step = { (St t pc pos hd marks lm li fr wt none (sn.add (RC.getD pc 0))).mark i with seen := sn.add (RC.getD pc 0) } := by
    show (if pc < 39 then M.exec _ else _) = _
    rw [if_pos hpc]
    unfold M.exec
    simp only [M.word, St, Nat.add_zero, h1, hw]
    rfl
  rw [hs]
  exact e _
theorem ok_go (h1 : ops[RC.getD pc 0]? = some .SUCCESS) (hpc : pc < 39)
    (e : ∀ sn, Ends b Q (St t pc pos pos marks lm li fr wt (some true) sn)) : Ends (b + 1) Q (St t pc pos hd marks lm li fr wt none sn) := by
  refine ends_step rfl ?_
  have hs : (St t pc pos hd marks lm li fr wt none sn).step = St t pc pos pos marks lm li fr wt (some true) (sn.add (RC.getD pc 0)) := by
    show (if pc < 39 then M.exec _ else _) = _
    rw [if_pos hpc]
    unfold M.exec
    simp only [M.word, St, Nat.add_zero, h1]
    rfl
  rw [hs]
  exact e _
/-- the answer yes goes through a frame that gives back -/
theorem yes_go {pc' pos' : Nat} {n lm' li' : Int} (e : Ends b Q (St t pc' pos' hd marks lm li fr (wt - 1) (some true) sn)) : Ends (b + 1) Q (St t pc pos hd marks lm li (Fg pc' pos' n lm' li' :: fr) wt (some true) sn) := by
  refine ends_step rfl ?_
  exact e
/-- the last answer -/
theorem yes_end (e : ∀ m, m = { St t pc pos hd marks lm li [] wt (some true) sn with outcome := some .matched } → Q m) : Ends (b + 1) Q (St t pc pos hd marks lm li [] wt (some true) sn) :=
  ⟨1, Nat.le_add_left 1 b, rfl, e _ rfl⟩
theorem no_end (e : ∀ m, m = { St t pc pos hd marks lm li [] wt (some false) sn with outcome := some .failed } → Q m) : Ends (b + 1) Q (St t pc pos hd marks lm li [] wt (some false) sn) :=
  ⟨1, Nat.le_add_left 1 b, rfl, e _ rfl⟩
/-- the answer no: the frame gives one back -/
theorem no_go {pc' pos' skip : Nat} {n lm' li' : Int} (hw1 : RC.getD (pc' + 1) 0 = skip) (hw2 : RC.getD (pc' + 2) 0 = 0) (hn : 0 < n) (hwt : wt ≤ 16777216) (hw0 : 0 < wt)
    (e : Ends b Q (St t (pc' + 1 + skip) (pos' - 1) (pos' - 1) marks lm' li' (Fg pc' (pos' - 1) (n - 1) lm' li' :: fr) wt none sn)) : Ends (b + 1) Q (St t pc pos hd marks lm li (Fg pc' pos' n lm' li' :: fr) wt (some false) sn) := by
  refine ends_step rfl ?_
  have hs : (St t pc pos hd marks lm li (Fg pc' pos' n lm' li' :: fr) wt (some false) sn).step = St t (pc' + 1 + skip) (pos' - 1) (pos' - 1) marks lm' li' (Fg pc' (pos' - 1) (n - 1) lm' li' :: fr) wt none sn := by
    unfold M.step
    simp only [St, Option.isSome_none, Bool.false_eq_true, if_false]
    unfold M.resume
    simp only [Fg, M.putBack, M.word, hw2, Bool.false_eq_true, if_false]
    refine Eq.trans (if_neg (show ¬ (n - 1 < ((0 : Nat) : Int)) from by omega)) ?_
    unfold M.afterRun M.attempt M.frame
    simp only [M.word, hw1]
    refine Eq.trans (if_neg ?_) ?_
    · show ¬ (wt - (1 + 0) + 1 + 0 > 16777216); omega
    · show M.mk .. = M.mk ..
      congr 1
      show wt - (1 + 0) + 1 + 0 = wt
      omega
  rw [hs]
  exact e
theorem no_more {pc' pos' : Nat} {n lm' li' : Int} (hw2 : RC.getD (pc' + 2) 0 = 0) (hn : n ≤ 0)
    (e : Ends b Q (St t pc' pos' hd marks lm' li' fr (wt - 1) (some false) sn)) : Ends (b + 1) Q (St t pc pos hd marks lm li (Fg pc' pos' n lm' li' :: fr) wt (some false) sn) := by
  refine ends_step rfl ?_
  have hs : (St t pc pos hd marks lm li (Fg pc' pos' n lm' li' :: fr) wt (some false) sn).step = St t pc' pos' hd marks lm' li' fr (wt - 1) (some false) sn := by
    unfold M.step
    simp only [St, Option.isSome_none, Bool.false_eq_true, if_false]
    unfold M.resume
    simp only [Fg, M.putBack, M.word, hw2, Bool.false_eq_true, if_false]
    refine Eq.trans (if_pos (show n - 1 < ((0 : Nat) : Int) from by omega)) ?_
    rfl
  rw [hs]
  exact e
end
end Mine
end
/- part P3 -/
section
open PySem PySem.Sre
namespace Mine
section
variable {b : Nat} {Q : M → Prop} {t : Array Nat} {pc pos hd : Nat} {marks : Array (Option Nat)} {lm li : Int} {fr : List Sre.Frame} {wt : Nat} {sn : Seen}
theorem mark0 (hpc : pc = 25) (e : ∀ sn, Ends b Q (St t 27 pos hd (marks.setIfInBounds 0 (some pos)) 0 li fr wt none sn)) : Ends (b + 1) Q (St t pc pos hd marks (-1) li fr wt none sn) := by
  subst hpc
  exact mark_go (i := 0) rfl (by decide) rfl fun sn => e sn
theorem mark1 (hpc : pc = 34) (e : ∀ sn, Ends b Q (St t 36 pos hd (marks.setIfInBounds 1 (some pos)) 1 1 fr wt none sn)) : Ends (b + 1) Q (St t pc pos hd marks 0 li fr wt none sn) := by
  subst hpc
  exact mark_go (i := 1) rfl (by decide) rfl fun sn => e sn
/-- the seven signs «FLAGS (» stand at p -/
noncomputable def wordAt (t : Array Nat) (p : Nat) : Bool := decide (p + 7 ≤ t.size) && t.getD p 0 == 70 && t.getD (p + 1) 0 == 76 && t.getD (p + 2) 0 == 65 && t.getD (p + 3) 0 == 71 && t.getD (p + 4) 0 == 83 && t.getD (p + 5) 0 == 32 && t.getD (p + 6) 0 == 40
theorem word_ok (h : wordAt t pos = true) (e : ∀ sn, Ends b Q (St t 25 (pos + 7) hd marks lm li fr wt none sn)) : Ends (b + 7) Q (St t 11 pos hd marks lm li fr wt none sn) := by
  simp only [wordAt, Bool.and_eq_true, decide_eq_true_eq, beq_iff_eq] at h
  obtain ⟨⟨⟨⟨⟨⟨⟨h0, h1⟩, h2⟩, h3⟩, h4⟩, h5⟩, h6⟩, h7⟩ := h
  refine lit_ok (ch := 70) rfl rfl (by decide) (by omega) h1 fun sn => ?_
  refine lit_ok (ch := 76) rfl rfl (by decide) (by omega) h2 fun sn => ?_
  refine lit_ok (ch := 65) rfl rfl (by decide) (by omega) h3 fun sn => ?_
  refine lit_ok (ch := 71) rfl rfl (by decide) (by omega) h4 fun sn => ?_
  refine lit_ok (ch := 83) rfl rfl (by decide) (by omega) h5 fun sn => ?_
  refine lit_ok (ch := 32) rfl rfl (by decide) (by omega) h6 fun sn => ?_
  refine lit_ok (ch := 40) rfl rfl (by decide) (by omega) h7 fun sn => ?_
  exact e sn
theorem lit_or {ch : Nat} (h1 : ops[RC.getD pc 0]? = some .LITERAL) (hw : RC.getD (pc + 1) 0 = ch) (hpc : pc < 39)
    (y : pos < t.size → t.getD pos 0 = ch → ∀ sn, Ends b Q (St t (pc + 2) (pos + 1) hd marks lm li fr wt none sn))
    (e : ∀ pc pos sn, Ends b Q (St t pc pos hd marks lm li fr wt (some false) sn)) : Ends (b + 1) Q (St t pc pos hd marks lm li fr wt none sn) := by
  by_cases hp : pos < t.size
  · by_cases hc : t.getD pos 0 = ch
    · exact lit_ok h1 hw hpc hp hc (y hp hc)
    · exact lit_no h1 hw hpc (fun _ => hc) (e _ _)
  · exact lit_no h1 hw hpc (fun q => absurd q hp) (e _ _)
theorem word_no (h : wordAt t pos = false) (e : ∀ pc pos sn, Ends b Q (St t pc pos hd marks lm li fr wt (some false) sn)) : Ends (b + 7) Q (St t 11 pos hd marks lm li fr wt none sn) := by
  refine lit_or (b := b + 6) (ch := 70) rfl rfl (by decide) (fun _ h1 sn => ?_) fun pc pos sn => (e pc pos sn).le (by omega)
  refine lit_or (b := b + 5) (ch := 76) rfl rfl (by decide) (fun _ h2 sn => ?_) fun pc pos sn => (e pc pos sn).le (by omega)
  refine lit_or (b := b + 4) (ch := 65) rfl rfl (by decide) (fun _ h3 sn => ?_) fun pc pos sn => (e pc pos sn).le (by omega)
  refine lit_or (b := b + 3) (ch := 71) rfl rfl (by decide) (fun _ h4 sn => ?_) fun pc pos sn => (e pc pos sn).le (by omega)
  refine lit_or (b := b + 2) (ch := 83) rfl rfl (by decide) (fun _ h5 sn => ?_) fun pc pos sn => (e pc pos sn).le (by omega)
  refine lit_or (b := b + 1) (ch := 32) rfl rfl (by decide) (fun _ h6 sn => ?_) fun pc pos sn => (e pc pos sn).le (by omega)
  refine lit_or (b := b + 0) (ch := 40) rfl rfl (by decide) (fun h0 h7 sn => ?_) fun pc pos sn => (e pc pos sn).le (by omega)
  exfalso
  have : wordAt t pos = true := by
    simp only [wordAt, Bool.and_eq_true, decide_eq_true_eq, beq_iff_eq]
    exact ⟨⟨⟨⟨⟨⟨⟨by omega, h1⟩, h2⟩, h3⟩, h4⟩, h5⟩, h6⟩, h7⟩
  rw [this] at h
  exact absurd h Bool.true_eq_false.mp
/-- behind the class: nothing left to give back: no -/
theorem inner_no : ∀ (n p : Nat) {pc' hd' : Nat} {marks : Array (Option Nat)} {lm' li' : Int} {pos' : Nat} {sn : Seen}, marks.size = 2 → (∀ j, j < n → p + j < t.size → t.getD (p + j) 0 ≠ 41) → wt + 1 ≤ 16777216 →
    (∀ marks pc pos hd sn, Array.size marks = 2 → Ends b Q (St t pc pos hd marks 0 li fr wt (some false) sn)) →
    Ends (b + 3 * n + 1) Q (St t pc' pos' hd' marks lm' li' (Fg 27 (p + n) (n : Int) 0 li :: fr) (wt + 1) (some false) sn)
  | 0, p, pc', hd', marks, lm', li', pos', sn, hm, _, _, e => by
    refine no_more rfl (by decide) ?_
    exact e _ _ _ _ _ hm
  | n + 1, p, pc', hd', marks, lm', li', pos', sn, hm, h, hwt, e => by
    rw [show b + 3 * (n + 1) + 1 = b + 3 * n + 1 + 1 + 1 + 1 by omega]
    refine no_go (skip := 6) rfl rfl (by omega) hwt (by omega) ?_
    refine mark1 rfl fun sn => ?_
    refine lit_no (ch := 41) rfl rfl (by decide) (fun q => ?_) fun sn => ?_
    · have := h n (by omega)
      rw [show p + (n + 1) - 1 = p + n by omega] at q ⊢
      exact this q
    · rw [show p + (n + 1) - 1 = p + n by omega, show ((n + 1 : Nat) : Int) - 1 = (n : Int) by omega]
      exact inner_no n p (by rw [Array.size_setIfInBounds]; exact hm) (fun j hj => h j (by omega)) hwt e
theorem far_le {f : Nat → Bool} : ∀ (n p : Nat), far t f n p ≤ n
  | 0, p => Nat.le_refl _
  | n + 1, p => by
    unfold far
    split
    · have := @far_le f n (p + 1); omega
    · omega
theorem far_in {f : Nat → Bool} : ∀ (n p j : Nat), j < far t f n p → f (t.getD (p + j) 0) = true
  | 0, p, j, h => absurd h (Nat.not_lt_zero _)
  | n + 1, p, j, h => by
    unfold far at h
    split at h
    · rename_i q
      cases j with
      | zero => exact q
      | succ j =>
        have := far_in (f := f) n (p + 1) j (by omega)
        rw [show p + (j + 1) = p + 1 + j by omega]; exact this
    · exact absurd h (Nat.not_lt_zero _)
theorem far_end {f : Nat → Bool} : ∀ (n p : Nat), far t f n p < n → f (t.getD (p + far t f n p) 0) = false
  | 0, p, h => absurd h (Nat.not_lt_zero _)
  | n + 1, p, h => by
    unfold far at h ⊢
    split
    · rename_i q
      rw [if_pos q] at h
      have := @far_end f n (p + 1) (by omega)
      rw [show p + (far t f n (p + 1) + 1) = p + 1 + far t f n (p + 1) by omega]; exact this
    · rename_i q
      rw [Nat.add_zero]
      exact Bool.not_eq_true _ ▸ q
/-- how far the class [^)]* goes behind «FLAGS (» at p -/
noncomputable def cls (t : Array Nat) (p : Nat) : Nat := far t (fun c => c != 41) (t.size - (p + 7)) (p + 7)
noncomputable def hit (t : Array Nat) (p : Nat) : Bool := wordAt t p && decide (p + 7 + cls t p < t.size)
/-- the machine at its end: matched, the group from b to e -/
noncomputable def Won (t : Array Nat) (b e : Nat) (m : M) : Prop := m.outcome = some .matched ∧ m.start = 0 ∧ m.handed = e + 1 ∧ m.lastmark = 1 ∧ m.lastindex = 1 ∧ m.marks.getD 0 none = some b ∧ m.marks.getD 1 none = some e
theorem hit_go {p : Nat} (hs : t.size < 4294967295) (hm : marks.size = 2) (h : hit t p = true) : Ends 30 (Won t (p + 7) (p + 7 + cls t p)) (St t 11 p hd marks (-1) (-1) [Fg 5 p p (-1) (-1)] 1 none sn) := by
  unfold hit at h
  rw [Bool.and_eq_true, decide_eq_true_eq] at h
  obtain ⟨hw, hc⟩ := h
  have hw7 : p + 7 ≤ t.size := by omega
  refine Ends.le (a := 15) ?_ (by decide)
  refine word_ok (b := 8) hw fun sn => ?_
  refine mark0 rfl fun sn => ?_
  refine rep_go (skip := 6) (f := fun c => c != 41) rfl (by decide) rfl rfl rfl acc_not hw7 hs (by omega) fun sn => ?_
  refine mark1 rfl fun sn => ?_
  have h41 : t.getD (p + 7 + cls t p) 0 = 41 := by
    have := far_end (t := t) (f := fun c => c != 41) (t.size - (p + 7)) (p + 7) (by unfold cls at hc; omega)
    exact bne_eq_false_iff_eq.mp this
  refine lit_ok (ch := 41) rfl rfl (by decide) hc h41 fun sn => ?_
  refine ok_go rfl (by decide) fun sn => ?_
  refine yes_go (b := 2) ?_
  refine yes_go (b := 1) ?_
  refine yes_end (b := 0) fun m e => ?_
  subst e
  refine ⟨rfl, rfl, rfl, rfl, rfl, ?_, ?_⟩
  · show ((marks.setIfInBounds 0 (some (p + 7))).setIfInBounds 1 (some (p + 7 + cls t p))).getD 0 none = _
    rw [Array.getD_eq_getD_getElem?, Array.getElem?_setIfInBounds_ne (by decide), Array.getElem?_setIfInBounds_self_of_lt (by omega)]; rfl
  · show ((marks.setIfInBounds 0 (some (p + 7))).setIfInBounds 1 (some (p + 7 + cls t p))).getD 1 none = _
    rw [Array.getD_eq_getD_getElem?, Array.getElem?_setIfInBounds_self_of_lt (by rw [Array.size_setIfInBounds]; omega)]; rfl
theorem miss_go {p : Nat} (hs : t.size < 4294967295) (hm : marks.size = 2) (h : hit t p = false)
    (e : ∀ marks pc pos hd lm li sn, Array.size marks = 2 → Ends b Q (St t pc pos hd marks lm li [Fg 5 p p (-1) (-1)] 1 (some false) sn)) : Ends (b + (3 * t.size + 30)) Q (St t 11 p hd marks (-1) (-1) [Fg 5 p p (-1) (-1)] 1 none sn) := by
  cases hw : wordAt t p with
  | false => exact Ends.le (word_no hw fun pc pos sn => e _ _ _ _ _ _ _ hm) (by omega)
  | true =>
    have hc : ¬ (p + 7 + cls t p < t.size) := by
      intro q
      unfold hit at h
      rw [hw, decide_eq_true q] at h
      cases h
    have hw7 : p + 7 ≤ t.size := by
      simp only [wordAt, Bool.and_eq_true, decide_eq_true_eq] at hw
      exact hw.1.1.1.1.1.1.1
    have hle : cls t p ≤ t.size - (p + 7) := far_le _ _
    refine Ends.le (a := b + 3 * cls t p + 1 + 1 + 1 + 1 + 1 + 7) ?_ (by omega)
    refine word_ok hw fun sn => ?_
    refine mark0 rfl fun sn => ?_
    refine rep_go (skip := 6) (f := fun c => c != 41) rfl (by decide) rfl rfl rfl acc_not hw7 hs (by omega) fun sn => ?_
    refine mark1 rfl fun sn => ?_
    refine lit_no (ch := 41) rfl rfl (by decide) (fun q => absurd q hc) fun sn => ?_
    refine inner_no (cls t p) (p + 7) (by rw [Array.size_setIfInBounds, Array.size_setIfInBounds]; exact hm) (fun j hj _ => ?_) (by omega) fun marks pc pos hd sn hm => e _ _ _ _ _ _ _ hm
    have := far_in (t := t) (f := fun c => c != 41) (t.size - (p + 7)) (p + 7) j hj
    simpa using this
end
end Mine
end
/- part P4 -/
section
open PySem PySem.Sre
namespace Mine
section
variable {b : Nat} {Q : M → Prop} {t : Array Nat}
theorem outer_ok (hs : t.size < 4294967295) {q : Nat} (hq : hit t q = true) : ∀ (d : Nat) {hd : Nat} {marks : Array (Option Nat)} {sn : Seen}, marks.size = 2 → (∀ j, q < j → j ≤ q + d → hit t j = false) →
    Ends ((d + 1) * (3 * t.size + 40)) (Won t (q + 7) (q + 7 + cls t q)) (St t 11 (q + d) hd marks (-1) (-1) [Fg 5 (q + d) ((q + d : Nat) : Int) (-1) (-1)] 1 none sn)
  | 0, hd, marks, sn, hm, _ => (hit_go hs hm hq).le (by omega)
  | d + 1, hd, marks, sn, hm, h => by
    refine Ends.le (a := ((d + 1) * (3 * t.size + 40) + 1) + (3 * t.size + 30)) ?_ (by rw [Nat.succ_mul (d + 1)]; omega)
    refine miss_go hs hm (h _ (by omega) (Nat.le_refl _)) fun marks pc pos hd lm li sn hm => ?_
    refine no_go (skip := 5) rfl rfl (by omega) (by omega) (by omega) ?_
    rw [show q + (d + 1) - 1 = q + d by omega, show ((q + (d + 1) : Nat) : Int) - 1 = ((q + d : Nat) : Int) by omega]
    exact outer_ok hs hq d hm fun j h1 h2 => h j h1 (by omega)
theorem outer_no (hs : t.size < 4294967295) : ∀ (d : Nat) {hd : Nat} {marks : Array (Option Nat)} {sn : Seen}, marks.size = 2 → (∀ j, j ≤ d → hit t j = false) →
    Ends ((d + 1) * (3 * t.size + 40)) (fun m => m.outcome = some .failed) (St t 11 d hd marks (-1) (-1) [Fg 5 d ((d : Nat) : Int) (-1) (-1)] 1 none sn)
  | 0, hd, marks, sn, hm, h => by
    refine Ends.le (a := 1 + 1 + (3 * t.size + 30)) ?_ (by omega)
    refine miss_go hs hm (h _ (Nat.le_refl _)) fun marks pc pos hd lm li sn hm => ?_
    refine no_more rfl (by decide) ?_
    exact no_end (b := 0) fun m e => by subst e; rfl
  | d + 1, hd, marks, sn, hm, h => by
    refine Ends.le (a := ((d + 1) * (3 * t.size + 40) + 1) + (3 * t.size + 30)) ?_ (by rw [Nat.succ_mul (d + 1)]; omega)
    refine miss_go hs hm (h _ (Nat.le_refl _)) fun marks pc pos hd lm li sn hm => ?_
    refine no_go (skip := 5) rfl rfl (by omega) (by omega) (by omega) ?_
    rw [show d + 1 - 1 = d by omega, show ((d + 1 : Nat) : Int) - 1 = ((d : Nat) : Int) by omega]
    exact outer_no hs d hm fun j h2 => h j (by omega)
/-- how far the first line goes -/
noncomputable def row1 (t : Array Nat) : Nat := far t (fun c => c != 10) t.size 0
theorem start_go (hs : t.size < 4294967295) (h8 : 8 ≤ t.size) (e : ∀ sn, Ends b Q (St t 11 (row1 t) (row1 t) (Array.replicate 2 none) (-1) (-1) [Fg 5 (row1 t) ((row1 t : Nat) : Int) (-1) (-1)] 1 none sn)) : Ends (b + 1) Q (forMatch RC t 1 0 t.size false false) := by
  have h0 : forMatch RC t 1 0 t.size false false = St t 5 0 0 (Array.replicate 2 none) (-1) (-1) [] 0 none (({} : Seen).add 14) := by
    unfold forMatch
    refine Eq.trans (if_neg ?_) rfl
    show ¬ ((((8 : Nat) != 0 && decide (0 ≤ t.size)) && decide (t.size - 0 < 8)) = true)
    rw [Nat.sub_zero, decide_eq_false (by omega : ¬ t.size < 8), Bool.and_false]
    exact Bool.false_ne_true
  rw [h0]
  refine rep_go (skip := 5) (f := fun c => c != 10) rfl (by decide) rfl rfl rfl acc_any (Nat.zero_le _) hs (by omega) fun sn => ?_
  rw [Nat.sub_zero, Nat.zero_add]
  exact e sn
/-- the match: the last hit in the first line -/
theorem match_ok (hs : t.size < 4294967295) (h8 : 8 ≤ t.size) {q : Nat} (hq : hit t q = true) (h1 : q ≤ row1 t) (h2 : ∀ j, q < j → j ≤ row1 t → hit t j = false) : Ends ((t.size + 1) * (3 * t.size + 40) + 1) (Won t (q + 7) (q + 7 + cls t q)) (forMatch RC t 1 0 t.size false false) := by
  refine start_go hs h8 fun sn => ?_
  have := outer_ok hs hq (row1 t - q) (hd := row1 t) (marks := Array.replicate 2 none) (sn := sn) (by simp) (fun j a b => h2 j a (by omega))
  rw [show q + (row1 t - q) = row1 t by omega] at this
  exact this.le (Nat.mul_le_mul_right _ (by have := far_le (t := t) (f := fun c => c != 10) t.size 0; unfold row1; omega))
theorem match_no (hs : t.size < 4294967295) (h8 : 8 ≤ t.size) (h2 : ∀ j, j ≤ row1 t → hit t j = false) : Ends ((t.size + 1) * (3 * t.size + 40) + 1) (fun m => m.outcome = some .failed) (forMatch RC t 1 0 t.size false false) := by
  refine start_go hs h8 fun sn => ?_
  exact (outer_no hs (row1 t) (by simp) h2).le (Nat.mul_le_mul_right _ (by have := far_le (t := t) (f := fun c => c != 10) t.size 0; unfold row1; omega))
end
end Mine
end
/- part P5 -/
section
open PySem PySem.Sre PySem.Builtin.Re
namespace Mine
theorem runFor_done : ∀ (n : Nat) {m : M}, m.outcome.isSome = true → M.runFor n m = m
  | 0, _, _ => rfl
  | n + 1, m, h => by
    show (if m.outcome.isSome = true then m else _) = m
    rw [if_pos h]
theorem runFor_add : ∀ (a b : Nat) (m : M), M.runFor (a + b) m = M.runFor b (M.runFor a m)
  | 0, b, m => by rw [Nat.zero_add]; rfl
  | a + 1, b, m => by
    rw [show a + 1 + b = (a + b) + 1 by omega]
    show (if m.outcome.isSome = true then m else M.runFor (a + b) m.step) = M.runFor b (if m.outcome.isSome = true then m else M.runFor a m.step)
    cases h : m.outcome.isSome with
    | true => simp only [if_true]; exact (runFor_done b h).symm
    | false => simp only [Bool.false_eq_true, if_false]; exact runFor_add a b m.step
theorem drive {Mo : Model} {A : Around} {E : Value → Shared → Prop} {s : Shared} {Q : M → Shared → Prop} : ∀ (T : Nat) (k : Nat) (m : M), k ≤ 4 * T → 0 < T → (M.runFor k m).outcome.isSome = true → Q (M.runFor k m) s → wpAny Mo A (reDrive T m) Q E s
  | 0, k, m, h, h0, _, _ => absurd h0 (Nat.lt_irrefl 0)
  | T + 1, k, m, h, h0, h1, h2 => by
    show wpAny Mo A (if (M.runFor 4 m).outcome.isSome = true then pure (M.runFor 4 m) else _) Q E s
    by_cases q : (M.runFor 4 m).outcome.isSome = true
    · rw [if_pos q]
      have : M.runFor 4 m = M.runFor k m := by
        rcases Nat.le_total k 4 with l | l
        · rw [show 4 = k + (4 - k) by omega, runFor_add, runFor_done _ h1]
        · rw [show k = 4 + (k - 4) by omega, runFor_add, runFor_done _ q]
      rw [this]
      exact wpAny_pure h2
    · rw [if_neg q]
      have hk : 4 < k := by
        rcases Nat.lt_or_ge 4 k with l | l
        · exact l
        · exfalso
          apply q
          rw [show 4 = k + (4 - k) by omega, runFor_add, runFor_done _ h1]
          exact h1
      have e : M.runFor k m = M.runFor (k - 4) (M.runFor 4 m) := by rw [← runFor_add]; congr 1; omega
      rw [e] at h1 h2
      exact wpAny_bind (wpAny_rule (drive T (k - 4) (M.runFor 4 m) (by omega) (by omega) h1 h2))
theorem seen_rules {Mo : Model} {A : Around} {E : Value → Shared → Prop} {s : Shared} {m : M} {Q : PUnit → Shared → Prop} : ∀ (l : List Nat), Q ⟨⟩ s → wpAny Mo A (forIn l PUnit.unit (fun i _ => do if m.seen.has i = true then rule (Sre.names.getD i ""); pure (ForInStep.yield PUnit.unit) else pure (ForInStep.yield PUnit.unit))) Q E s
  | [], h => wpAny_pure h
  | i :: l, h => by
    rw [List.forIn_cons]
    refine wpAny_bind ?_
    split
    · exact wpAny_bind (wpAny_rule (wpAny_pure (seen_rules l h)))
    · exact wpAny_pure (seen_rules l h)
end Mine
namespace Mine
theorem run_won {Mo : Model} {A : Around} {E : Value → Shared → Prop} {s : Shared} {m : M} {b : Nat} {P : M → Prop} {Q : Option M → Shared → Prop} (hb : b ≤ 4 * 2 ^ 64) (e : Ends b P m) (hP : ∀ m, P m → m.outcome = some .matched) (h : ∀ m', P m' → Q (some m') s) : wpAny Mo A (reRunToEnd m) Q E s := by
  obtain ⟨k, h0, h1, h2⟩ := e
  unfold reRunToEnd
  refine wpAny_bind (drive (2 ^ 64) k m (Nat.le_trans h0 hb) (by decide) h1 ?_)
  refine wpAny_bind (seen_rules _ ?_)
  rw [hP _ h2]
  exact wpAny_pure (h _ h2)
theorem run_lost {Mo : Model} {A : Around} {E : Value → Shared → Prop} {s : Shared} {m : M} {b : Nat} {Q : Option M → Shared → Prop} (hb : b ≤ 4 * 2 ^ 64) (e : Ends b (fun m => m.outcome = some .failed) m) (h : Q none s) : wpAny Mo A (reRunToEnd m) Q E s := by
  obtain ⟨k, h0, h1, h2⟩ := e
  unfold reRunToEnd
  refine wpAny_bind (drive (2 ^ 64) k m (Nat.le_trans h0 hb) (by decide) h1 ?_)
  refine wpAny_bind (seen_rules _ ?_)
  have h2' : (M.runFor k m).outcome = some .failed := h2
  rw [h2']
  exact wpAny_pure h
end Mine
end
/- part P6 -/
section
open PySem PySem.Sre PySem.Builtin.Re
namespace Mine
theorem named (v : Value) : reNamed "re.Pattern.match" "match" ["string", "pos", "endpos"] 1 [v] [] = pure [some v, none, none] := by rfl
theorem textOf (b : Array UInt8) (t : Tok) : reTextOf (.bytes b t) = pure (b.map (·.toNat), 1) := by kernel_rfl
theorem noColl (b : Array UInt8) (t : Tok) : reNoCollectionInside (.bytes b t) 1 = pure () := by
  unfold reNoCollectionInside
  rfl
end Mine
end
/- part P7 -/
section
open PySem PySem.W PySem.Sre PySem.Builtin.Re
set_option maxRecDepth 100000
namespace Mine
section
variable {Mo : Model} {A : Around} {E : Value → Shared → Prop} {s : Shared} {w : World}
theorem target {b : Array UInt8} {t : Tok} {Q : ReTarget → Shared → Prop} (KX : (Kd w.params).In s.heap)
    (h : Q { pattern := .ref 254, string := .bytes b t, code := RC, text := b.map (·.toNat), kind := 1, groups := 1, pos := 0, lim := min (2 ^ 63 - 1) b.size } s) :
    wpAny Mo A (reTarget "re.Pattern.match" "match" ⟨[.ref 254, .bytes b t], []⟩) Q E s := by
  unfold reTarget
  dsimp only
  refine wpAny_bind (wpAny_of_eq (named _) ?_)
  dsimp only
  refine wpAny_bind (wpAny_pure ?_)
  refine wpAny_bind (wpAny_pure ?_)
  refine wpAny_bind (wpAny_fieldsOf (KX 254 (ob_kx254 w.params) rfl) rfl ?_)
  refine wpAny_bind (wpAny_of_eq (textOf b t) ?_)
  dsimp only
  rw [if_neg (by decide), if_neg (by decide)]
  refine wpAny_bind (wpAny_of_eq (noColl b t) ?_)
  refine wpAny_bind ?_
  show wpAny Mo A (do return ((← seqItems? (.ref 253)).getD #[]).map reRawOf) _ E s
  refine wpAny_bind (wpAny_seqItems (KX 253 (ob_kx253 w.params) rfl) rfl ?_)
  refine wpAny_pure ?_
  refine wpAny_pure ?_
  have e1 : (Array.map (fun x => x.toNat) b).size = b.size := Array.size_map ..
  have e2 : (min (2 ^ 63 - 1 : Int).toNat (Array.map (fun x => x.toNat) b).size) = min (2 ^ 63 - 1) b.size := by rw [e1]; rfl
  rw [e2]
  refine Eq.mp (congrArg (fun r => Q r s) ?_) h
  kernel_rfl
end
end Mine
end
/- part P8 -/
section
open PySem PySem.W PySem.Sre PySem.Builtin.Re
set_option maxRecDepth 100000
namespace Mine
noncomputable abbrev spanO (x y : Nat) : Obj := { cls := .type "tuple", data := .seq #[.int 0 0, .int ((y + 1 : Nat) : Int) 0, .int (x : Int) 0, .int (y : Int) 0] }
noncomputable abbrev matchO (b : Array UInt8) (t : Tok) (lim : Nat) (a : Addr) : Obj := { cls := .type "re.Match", data := .fields #[.bytes b t, .ref 254, .int ((0 : Nat) : Int) 0, .int (lim : Int) 0, .int 1 0, .ref a] }
section
variable {Mo : Model} {A : Around} {E : Value → Shared → Prop} {s : Shared} {w : World}
theorem newMatch {b : Array UInt8} {t : Tok} {lim x y : Nat} {tx : Array Nat} {m : M} {Q : Value → Shared → Prop} (hw : Won tx x y m) (hxy : x ≤ y)
    (h : Q (.ref (s.heap.objs.size + 1)) { s with heap := (s.heap.push (spanO x y)).push (matchO b t lim s.heap.objs.size) }) :
    wpAny Mo A (reNewMatch (.ref 254) (.bytes b t) 1 0 lim m) Q E s := by
  obtain ⟨h1, h2, h3, h4, h5, h6, h7⟩ := hw
  unfold reNewMatch
  have hr : List.range 1 = [0] := rfl
  simp only [hr, List.flatMap_cons, List.flatMap_nil, List.append_nil, List.any_cons, List.any_nil, Bool.or_false, Nat.mul_zero, Nat.zero_add, h4, h6, h7, h2, h3, h5]
  rw [if_neg (by rw [decide_eq_false (by omega : ¬ y < x), Bool.and_false]; exact Bool.false_ne_true)]
  refine wpAny_bind (wpAny_newObj_type ?_ (by show (4 : Nat) ≤ sizeLine; rw [sizeLine_eq]; omega))
  refine wpAny_newObj_type ?_ (by show (6 : Nat) ≤ sizeLine + 2; rw [sizeLine_eq]; omega)
  have e : (s.heap.push (spanO x y)).objs.size = s.heap.objs.size + 1 := by
    show (s.heap.objs.push _).size = _
    rw [Array.size_push]
  show Q (.ref (s.heap.push (spanO x y)).objs.size) _
  rw [e]
  exact h
noncomputable def tx (b : Array UInt8) : Array Nat := b.map (·.toNat)
theorem tx_size (b : Array UInt8) : (tx b).size = b.size := Array.size_map ..
theorem bound_ok {n : Nat} (h : n ≤ 100000) : (n + 1) * (3 * n + 40) + 1 ≤ 4 * 2 ^ 64 := by
  have : (n + 1) * (3 * n + 40) ≤ 100001 * 300040 := Nat.mul_le_mul (by omega) (by omega)
  omega
theorem body_ok {b : Array UInt8} {t : Tok} {q : Nat} {Q : PySem.Fin → Shared → Prop} (KX : (Kd w.params).In s.heap) (hl : b.size ≤ 100000) (h8 : 8 ≤ b.size)
    (hq : hit (tx b) q = true) (h1 : q ≤ row1 (tx b)) (h2 : ∀ j, q < j → j ≤ row1 (tx b) → hit (tx b) j = false)
    (h : Q (.done (.ret (.ref (s.heap.objs.size + 1)))) { s with heap := (s.heap.push (spanO (q + 7) (q + 7 + cls (tx b) q))).push (matchO b t b.size s.heap.objs.size) }) :
    wpAny Mo A (Builtin.«re.Pattern.match» ⟨[.ref 254, .bytes b t], []⟩) Q E s := by
  unfold Builtin.«re.Pattern.match»
  refine wpAny_bind (target KX ?_)
  have hm : min (2 ^ 63 - 1) b.size = b.size := by omega
  rw [hm]
  unfold reAnswer
  refine wpAny_bind ?_
  have e := match_ok (t := tx b) (by rw [tx_size]; omega) (by rw [tx_size]; omega) hq h1 h2
  rw [tx_size] at e
  refine run_won (bound_ok hl) e (fun m h => h.1) fun m' hw => ?_
  refine wpAny_bind (newMatch hw (by omega) ?_)
  exact wpAny_pure h
theorem body_no {b : Array UInt8} {t : Tok} {Q : PySem.Fin → Shared → Prop} (KX : (Kd w.params).In s.heap) (hl : b.size ≤ 100000) (h8 : 8 ≤ b.size)
    (h2 : ∀ j, j ≤ row1 (tx b) → hit (tx b) j = false) (h : Q (.done (.ret .none)) s) :
    wpAny Mo A (Builtin.«re.Pattern.match» ⟨[.ref 254, .bytes b t], []⟩) Q E s := by
  unfold Builtin.«re.Pattern.match»
  refine wpAny_bind (target KX ?_)
  have hm : min (2 ^ 63 - 1) b.size = b.size := by omega
  rw [hm]
  unfold reAnswer
  refine wpAny_bind ?_
  have e := match_no (t := tx b) (by rw [tx_size]; omega) (by rw [tx_size]; omega) h2
  rw [tx_size] at e
  refine run_lost (bound_ok hl) e ?_
  exact wpAny_pure h
end
end Mine
end
/- part P9 -/
section
open PySem PySem.W PySem.Sre PySem.Builtin.Re
set_option maxRecDepth 100000
namespace Mine
theorem pa_pattern : PlainAttrs "re.Pattern" :=
  ⟨⟨"object.__getattribute__", by rw [typeLookup_type, builtinLookup_eq_fast]; kernel_rfl, by decide +kernel⟩, by rw [typeLookup_type, builtinLookup_eq_fast]; kernel_rfl⟩
theorem pa_match : PlainAttrs "re.Match" :=
  ⟨⟨"object.__getattribute__", by rw [typeLookup_type, builtinLookup_eq_fast]; kernel_rfl, by decide +kernel⟩, by rw [typeLookup_type, builtinLookup_eq_fast]; kernel_rfl⟩
theorem slot_match : Slot "re.Pattern" "match" "re.Pattern.match" :=
  .of (owner := "re.Pattern") (n := "match") (by rw [typeLookup_type, builtinLookup_eq_fast]; kernel_rfl) (by decide +kernel) (by decide +kernel) (by decide +kernel)
    (by first | exact .inl (by decide +kernel) | exact .inr (by decide +kernel)) (by rw [isSubtype_type]; kernel_rfl)
theorem type_match : typeOf (.builtin "re.Pattern.match") = pure (.type "method_descriptor") := by show builtinType _ = _; rw [builtinType_eq_fast]; kernel_rfl
theorem entry_match : entryFor table "re.Pattern.match" = some Builtin.«re.Pattern.match» := entryFor_of_tree (by kernel_rfl)
theorem slot_group : Slot "re.Match" "group" "re.Match.group" :=
  .of (owner := "re.Match") (n := "group") (by rw [typeLookup_type, builtinLookup_eq_fast]; kernel_rfl) (by decide +kernel) (by decide +kernel) (by decide +kernel)
    (by first | exact .inl (by decide +kernel) | exact .inr (by decide +kernel)) (by rw [isSubtype_type]; kernel_rfl)
theorem type_group : typeOf (.builtin "re.Match.group") = pure (.type "method_descriptor") := by show builtinType _ = _; rw [builtinType_eq_fast]; kernel_rfl
theorem entry_group : entryFor table "re.Match.group" = some Builtin.«re.Match.group» := entryFor_of_tree (by kernel_rfl)
theorem args_group (a b : Value) : argsOk "re.Match.group" ⟨[a, b], []⟩ := by
  unfold argsOk; kernel_rfl
theorem args_match (a b : Value) : argsOk "re.Pattern.match" ⟨[a, b], []⟩ := by
  unfold argsOk; kernel_rfl
end Mine
end
/- part P10 -/
section
open PySem PySem.W PySem.Sre PySem.Builtin PySem.Builtin.Re PyProof.Rows
set_option maxRecDepth 100000
set_option linter.unusedVariables false
namespace Mine
section
variable {A : Around} {E : Value → Shared → Prop} {s : Shared} {w : World} {prog : Program}
noncomputable abbrev foundO (b : Array UInt8) (t : Tok) (lim : Nat) (a : Addr) (x y : Nat) : ReFound := { fields := #[.bytes b t, .ref 254, .int ((0 : Nat) : Int) 0, .int (lim : Int) 0, .int 1 0, .ref a], spans := #[0, ((y + 1 : Nat) : Int), (x : Int), (y : Int)] }
theorem found {b : Array UInt8} {t : Tok} {lim : Nat} {a c : Addr} {x y : Nat} {Q : ReFound → Shared → Prop} (hc : s.heap.get? c = some (matchO b t lim a)) (ha : s.heap.get? a = some (spanO x y))
    (h : Q (foundO b t lim a x y) s) : wpAny (model prog w) A (reFound (.ref c)) Q E s := by
  unfold reFound
  refine wpAny_bind (wpAny_fieldsOf hc rfl ?_)
  refine wpAny_bind ?_
  show wpAny _ A (do return ((← seqItems? (.ref a)).getD #[]).map reRawOf) _ E s
  refine wpAny_bind (wpAny_seqItems ha rfl ?_)
  refine wpAny_pure ?_
  refine wpAny_pure ?_
  refine Eq.mp (congrArg (fun r => Q r s) ?_) h
  kernel_rfl
theorem noIndex : typeLookup (.type "str") (Str.ofString "__index__") = pure none := by rw [typeLookup_type, builtinLookup_eq_fast]; kernel_rfl
theorem asIntNo (x : Str) (t : Tok) : asInt? (.str x t) = pure none := rfl
theorem number {b : Array UInt8} {t t' : Tok} {lim : Nat} {a : Addr} {x y : Nat} {Q : Nat → Shared → Prop} (KX : (Kd w.params).In s.heap)
    (h : Q 1 { s with toks := s.toks + 1 }) : wpAny (model prog w) A (reGroupNumber (foundO b t lim a x y) (.str (Str.ofString "flags") t')) Q E s := by
  unfold reGroupNumber
  refine wpAny_bind (wpAny_of_eq (asIntNo _ _) ?_)
  dsimp only
  rw [if_neg (by decide)]
  refine wpAny_bind (wpAny_specialOf (T := "str") (v := .str (Str.ofString "flags") t') (show s.TypeIs (.str (Str.ofString "flags") t') "str" from rfl) noIndex ?_)
  rw [if_neg (by decide)]
  refine wpAny_bind (wpAny_fieldsOf (KX 254 (ob_kx254 w.params) rfl) rfl ?_)
  refine wpAny_bind ?_
  unfold dictGet
  try with_reducible refine wpAny_holding ?_
  refine wpAny_bind (wpAny_pyHash_str (wpAny_bind (KTD.kt_dictFind_strs (s := { s with toks := s.toks + 1 }) (KX 251 (ob_kx251 w.params) rfl) rfl (by kernel_rfl) ?_)))
  have e0 : Array.findIdx? (fun e => e.key.isStr (Str.ofString "flags")) #[({ hash := PyData.keyHash w.params (Str.ofString "flags"), key := Value.str (Str.ofString "flags") 785, val := Value.int 1 786 } : DictEntry)] = some 0 := by kernel_rfl
  rw [e0]
  dsimp only
  refine wpAny_bind (wpAny_dictEntries (KX 251 (ob_kx251 w.params) rfl) rfl ?_)
  refine wpAny_pure ?_
  refine wpAny_bind (wpAny_of_eq (show asInt? (.int 1 786) = pure (some 1) from rfl) ?_)
  refine wpAny_bind (wpAny_pure ?_)
  rw [if_neg (by
    intro hc
    have := (Bool.or_eq_true _ _).mp hc
    rcases this with h1 | h1
    · exact absurd (of_decide_eq_true h1) (by decide)
    · have := of_decide_eq_true h1
      have e : ((#[0, ((y + 1 : Nat) : Int), (x : Int), (y : Int)] : Array Int).size : Int) = 4 := rfl
      rw [e] at this
      exact absurd this (by decide))]
  exact wpAny_pure h
theorem back (b : Array UInt8) (x y : Nat) : (Array.extract (b.map (·.toNat)) x y).map (·.toUInt8) = b.extract x y := by
  apply Array.toList_inj.mp
  simp [Array.toList_extract, List.extract, Function.comp_def]
theorem groupText {b : Array UInt8} {t : Tok} {lim : Nat} {a : Addr} {x y : Nat} {d : Value} {Q : Value → Shared → Prop} (hb : (b.extract x y).size ≤ sizeLine)
    (h : Q (.bytes (b.extract x y) s.toks) { s with toks := s.toks + 1 }) : wpAny (model prog w) A (reGroupText (foundO b t lim a x y) 1 d) Q E s := by
  unfold reGroupText
  show wpAny _ A (if ((decide ((x : Int) < 0)) || (decide ((y : Int) < 0))) = true then pure d else do
    let (text, kind) ← reTextOf (.bytes b t)
    reSlice text kind (x : Int).toNat (y : Int).toNat) Q E s
  rw [if_neg (by rw [decide_eq_false (by omega : ¬ (x : Int) < 0), decide_eq_false (by omega : ¬ (y : Int) < 0)]; decide)]
  refine wpAny_bind (wpAny_of_eq (textOf b t) ?_)
  dsimp only
  unfold reSlice
  rw [if_neg (by decide)]
  rw [Int.toNat_natCast, Int.toNat_natCast, back]
  exact wpAny_mkBytes h hb
theorem group_body {b : Array UInt8} {t t' : Tok} {lim : Nat} {a c : Addr} {x y : Nat} {Q : PySem.Fin → Shared → Prop} (KX : (Kd w.params).In s.heap)
    (hc : s.heap.get? c = some (matchO b t lim a)) (ha : s.heap.get? a = some (spanO x y)) (hb : (b.extract x y).size ≤ sizeLine)
    (h : Q (.done (.ret (.bytes (b.extract x y) (s.toks + 1)))) { s with toks := s.toks + 1 + 1 }) :
    wpAny (model prog w) A (Builtin.«re.Match.group» ⟨[.ref c, .str (Str.ofString "flags") t'], []⟩) Q E s := by
  unfold Builtin.«re.Match.group»
  refine wpAny_bind (wpAny_of_eq (show noKeywords "Match.group" ⟨[.ref c, .str (Str.ofString "flags") t'], []⟩ = pure () from rfl) ?_)
  refine wpAny_bind (found hc ha ?_)
  dsimp only
  refine wpAny_bind (number KX ?_)
  refine wpAny_bind (groupText (s := { s with toks := s.toks + 1 }) hb ?_)
  exact wpAny_pure h
theorem call_group {b : Array UInt8} {t t' : Tok} {lim : Nat} {a c : Addr} {x y : Nat} {Q E : Value → Shared → Prop} (KX : (Kd w.params).In s.heap)
    (hc : s.heap.get? c = some (matchO b t lim a)) (ha : s.heap.get? a = some (spanO x y)) (hb : (b.extract x y).size ≤ sizeLine)
    (h : Q (.bytes (b.extract x y) (s.toks + 1)) { s with toks := s.toks + 1 + 1 }) :
    wpAny (model prog w) A (call (.builtin "re.Match.group") [.ref c, .str (Str.ofString "flags") t']) Q E s := by
  refine wpAny_call (codeAny_call_builtin slot_group.plain entry_group (slot_group.check _ _ _ _ _ _ _ _ ⟨_, hc, rfl⟩ (args_group _ _) (group_body KX hc ha hb ?_)))
  exact h
theorem get_group {M : Model} {pl : Sem Bool} {b : Array UInt8} {t : Tok} {lim : Nat} {a c : Addr} {Q : Value × List Value → Shared → Prop} {E : Value → Shared → Prop} (hc : s.heap.get? c = some (matchO b t lim a)) (h : Q (.builtin "re.Match.group", [.ref c]) s) :
    wpAny M A (getMethod (.ref c) (Str.ofString "group") pl) Q E s :=
  getMethod_builtin ⟨_, hc, rfl⟩ pa_match slot_group type_group (fun a e => by cases e; exact ⟨_, hc, rfl⟩) h
end
end Mine
end
/- part P11 -/
section
open PySem PySem.W PySem.Sre PySem.Builtin PySem.Builtin.Re PyProof.Rows
set_option maxRecDepth 100000
set_option linter.unusedVariables false
namespace Mine
theorem slot_bsplit : Slot "bytes" "split" "bytes.split" :=
  .of (owner := "bytes") (n := "split") (by rw [typeLookup_type, builtinLookup_eq_fast]; kernel_rfl) (by decide +kernel) (by decide +kernel) (by decide +kernel)
    (by first | exact .inl (by decide +kernel) | exact .inr (by decide +kernel)) (by rw [isSubtype_type]; kernel_rfl)
theorem type_bsplit : typeOf (.builtin "bytes.split") = pure (.type "method_descriptor") := by show builtinType _ = _; rw [builtinType_eq_fast]; kernel_rfl
theorem entry_bsplit : entryFor table "bytes.split" = some Builtin.«bytes.split» := entryFor_of_tree (by kernel_rfl)
theorem args_bsplit (a : Value) : argsOk "bytes.split" ⟨[a], []⟩ := by
  unfold argsOk; rw [signature?_of (id := "bytes.split") (n := ['t', 'i', 'l', 'p', 's']) (o := ['s', 'e', 't', 'y', 'b']) (by kernel_rfl) FB.owner_bytes]; kernel_rfl
noncomputable def bytesAt : List (List UInt8) → Nat → List Value
  | [], _ => []
  | w :: r, k => .bytes w.toArray k :: bytesAt r (k + 1)
theorem bytesAt_len : ∀ (ws : List (List UInt8)) (k : Nat), (bytesAt ws k).length = ws.length
  | [], _ => rfl
  | w :: r, k => congrArg (· + 1) (bytesAt_len r (k + 1))
section
variable {A : Around} {E : Value → Shared → Prop} {w : World} {prog : Program} {M : Model}
theorem mk_all : ∀ (ws : List (List UInt8)) (s : Shared) (Q : List Value → Shared → Prop), (∀ x ∈ ws, x.length ≤ sizeLine) → Q (bytesAt ws s.toks) { s with toks := s.toks + ws.length } →
    wpAny M A (ws.mapM fun (w : List UInt8) => Bytes.Kind.new .bytes w.toArray) Q E s
  | [], s, Q, _, h => by
    rw [List.mapM_nil]
    exact wpAny_pure h
  | x :: xs, s, Q, hs, h => by
    rw [List.mapM_cons]
    refine wpAny_bind (wpAny_mkBytes ?_ (hs x (.head _)))
    refine wpAny_bind (mk_all xs _ _ (fun y hy => hs y (.tail _ hy)) ?_)
    refine wpAny_pure ?_
    have e : s.toks + 1 + xs.length = s.toks + (x :: xs).length := by rw [List.length_cons]; omega
    show Q (.bytes x.toArray s.toks :: bytesAt xs (s.toks + 1)) { s with toks := s.toks + 1 + xs.length }
    rw [e]
    exact h
variable {s : Shared}
theorem split_body {b : Array UInt8} {t : Tok} {ws : List (List UInt8)} {Q : PySem.Fin → Shared → Prop} (hb : (b.isEmpty || b.any Bytes.isSpace) = true) (hws : Bytes.words (b.size + 1) (b.size + 1) b.toList = ws)
    (hl : ws.length ≤ 100) (hz : ∀ x ∈ ws, x.length ≤ sizeLine)
    (h : Q (.done (.ret (.ref s.heap.objs.size))) { s with heap := s.heap.push { cls := .type "list", data := .seq (bytesAt ws s.toks).toArray }, toks := s.toks + ws.length }) :
    wpAny M A (Builtin.«bytes.split» ⟨[.bytes b t], []⟩) Q E s := by
  unfold Builtin.«bytes.split» Bytes.splitM
  dsimp only
  refine wpAny_bind (wpAny_of_eq (a := [none, none]) (by kernel_rfl) ?_)
  dsimp only
  refine wpAny_bind (wpAny_pure ?_)
  refine wpAny_bind (wpAny_of_eq (show Bytes.payload (.bytes b t) = pure b from rfl) ?_)
  refine wpAny_bind (wpAny_rule ?_)
  have e1 : (if (-1 : Int) < 0 then b.size + 1 else (-1 : Int).toNat) = b.size + 1 := if_pos (by decide)
  rw [e1, if_neg, if_neg Bool.false_ne_true, hws]
  · refine wpAny_bind (mk_all ws s _ hz ?_)
    refine wpAny_bind (wpAny_newList ?_ ?_)
    · exact wpAny_pure h
    · rw [bytesAt_len, sizeLine_eq]; omega
  · intro hc
    revert hb hc
    cases b.isEmpty <;> cases b.any Bytes.isSpace <;> simp
theorem call_bsplit {b : Array UInt8} {t : Tok} {ws : List (List UInt8)} {Q E : Value → Shared → Prop} (hb : (b.isEmpty || b.any Bytes.isSpace) = true) (hws : Bytes.words (b.size + 1) (b.size + 1) b.toList = ws)
    (hl : ws.length ≤ 100) (hz : ∀ x ∈ ws, x.length ≤ sizeLine)
    (h : Q (.ref s.heap.objs.size) { s with heap := s.heap.push { cls := .type "list", data := .seq (bytesAt ws s.toks).toArray }, toks := s.toks + ws.length }) :
    wpAny (model prog w) A (call (.builtin "bytes.split") [.bytes b t]) Q E s := by
  refine wpAny_call (codeAny_call_builtin slot_bsplit.plain entry_bsplit (slot_bsplit.check _ _ _ _ _ _ _ _ (typeIs_bytes _ _ _) (args_bsplit _) (split_body hb hws hl hz ?_)))
  exact h
theorem get_bsplit {pl : Sem Bool} {b : Array UInt8} {t : Tok} {Q : Value × List Value → Shared → Prop} (h : Q (.builtin "bytes.split", [.bytes b t]) s) :
    wpAny M A (getMethod (.bytes b t) (Str.ofString "split") pl) Q E s :=
  getMethod_builtin (typeIs_bytes _ _ _) FB.plainAttrs_bytes slot_bsplit type_bsplit (fun a e => by cases e) h
theorem match_noBool : typeLookup (.type "re.Match") "__bool__" = pure none := by rw [typeLookup_type, builtinLookup_eq_fast]; kernel_rfl
theorem match_noLen : typeLookup (.type "re.Match") "__len__" = pure none := by rw [typeLookup_type, builtinLookup_eq_fast]; kernel_rfl
theorem truthy_match {b : Array UInt8} {t : Tok} {lim : Nat} {a c : Addr} {Q : Bool → Shared → Prop} (hc : s.heap.get? c = some (matchO b t lim a)) (h : Q true s) :
    wpAny M A (truthy (.ref c)) Q E s := by
  have hT : s.TypeIs (.ref c) "re.Match" := ⟨_, hc, rfl⟩
  unfold truthy
  first
    | refine wpAny_bind (wpAny_callSpecial?_none (name := Str.ofString "__bool__") hT match_noBool ?_)
    | refine wpAny_bind (wpAny_pure (wpAny_bind (wpAny_callSpecial?_none (name := Str.ofString "__bool__") hT match_noBool ?_)))
  first
    | refine wpAny_bind (wpAny_specialOf (name := Str.ofString "__len__") hT match_noLen ?_)
    | refine wpAny_bind (wpAny_pure (wpAny_bind (wpAny_specialOf (name := Str.ofString "__len__") hT match_noLen ?_)))
  exact wpAny_pure h
end
end Mine
end
/- part P12 -/
section
open PySem PySem.W PySem.Calls PyProof.Rows
set_option maxRecDepth 100000
set_option linter.unusedVariables false
namespace Mine
inductive BytesAre : List Value → List (Array UInt8) → Prop
  | nil : BytesAre [] []
  | cons {b : Array UInt8} {t : Tok} {vs : List Value} {bs : List (Array UInt8)} : BytesAre vs bs → BytesAre (.bytes b t :: vs) (b :: bs)
theorem BytesAre.length : ∀ {vs : List Value} {bs : List (Array UInt8)}, BytesAre vs bs → vs.length = bs.length
  | _, _, .nil => rfl
  | _, _, .cons h => congrArg (· + 1) h.length
theorem BytesAre.get : ∀ {vs : List Value} {bs : List (Array UInt8)}, BytesAre vs bs → ∀ i, i < bs.length → ∃ t, vs[i]? = some (.bytes (bs.getD i #[]) t)
  | _, _, .nil, i, h => absurd h (Nat.not_lt_zero _)
  | _, _, .cons (t := t) _, 0, _ => ⟨t, rfl⟩
  | _, _, .cons h, i + 1, hi => h.get i (Nat.lt_of_succ_lt_succ hi)
section
variable {prog : Program} {w : World} {A : Around} {E : Value → Shared → Prop} {s : Shared} {h₀ : Heap} {L : Addr} {news : List (Addr × Obj)}
/-- which of the written bytes -/
noncomputable def pickB (bs : List (Array UInt8)) (k : Int) : Array UInt8 := bs.getD k.toNat #[]
theorem item_bytes {value slice : PySem.Expr} {l : Addr} {vs : List Value} {bs : List (Array UInt8)} {k : Int} {u : Tok} {Q : Value → Shared → Prop} (N : News h₀ L s.heap news) (hm : (l, listOf vs.toArray 0) ∈ news) (hi : BytesAre vs bs)
    (h0 : 0 ≤ k) (h1 : k < bs.length) (hfit : k < 2 ^ 63) (h : ∀ t, Q (.bytes (pickB bs k) t) s)
    (hs : subscripted slice false (.ref l) (.int k u) = operate [.ref l, .int k u] (getItem (.ref l) (.int k u)) := by with_unfolding_all rfl) :
    wpAny (model prog w) A (subscriptTail value slice (.ref l) (.int k u)) Q E s := by
  have hl : s.heap.IsList l vs.toArray := News.isList N hm
  obtain ⟨t, hx⟩ := hi.get k.toNat (by omega)
  exact tail_any hl.typeIs PySem.F.slot_list_getitem.lookup (getItem_listL hl h0 hfit hx (h t)) hs
end
end Mine
end
/- part P13 -/
section
open PySem PySem.W PySem.Builtin PySem.Builtin.Bytes PyProof.Rows
set_option maxRecDepth 100000
set_option linter.unusedVariables false
namespace Mine
theorem slot_bjoin : Slot "bytes" "join" "bytes.join" :=
  .of (owner := "bytes") (n := "join") (by rw [typeLookup_type, builtinLookup_eq_fast]; kernel_rfl) (by decide +kernel) (by decide +kernel) (by decide +kernel)
    (by first | exact .inl (by decide +kernel) | exact .inr (by decide +kernel)) (by rw [isSubtype_type]; kernel_rfl)
theorem type_bjoin : typeOf (.builtin "bytes.join") = pure (.type "method_descriptor") := by show builtinType _ = _; rw [builtinType_eq_fast]; kernel_rfl
theorem entry_bjoin : entryFor table "bytes.join" = some Builtin.«bytes.join» := entryFor_of_tree (by kernel_rfl)
theorem args_bjoin (a b : Value) : argsOk "bytes.join" ⟨[a, b], []⟩ := by
  unfold argsOk; rw [signature?_of (id := "bytes.join") (n := ['n', 'i', 'o', 'j']) (o := ['s', 'e', 't', 'y', 'b']) (by kernel_rfl) FB.owner_bytes]; kernel_rfl
theorem takeB (id : String) (b : Array UInt8) (t : Tok) : takeBufferQuiet? id (.bytes b t) 0 = pure (some (b, none)) := by kernel_rfl
section
variable {A : Around} {E : Value → Shared → Prop} {w : World} {prog : Program} {M : Model} {s : Shared}
theorem letGo_none : ∀ (vs : List Value) (keep : List Value) {Q : Unit → Shared → Prop}, Q () s → wpAny M A (joinLetGo (vs.map fun v => (v, (none : Option Value))) keep) Q E s
  | [], keep, Q, h => wpAny_pure h
  | v :: r, keep, Q, h => by
    show wpAny M A (do letGo (v :: (none : Option Value).toList) _; joinLetGo (r.map fun v => (v, none)) keep) Q E s
    exact wpAny_bind (wpAny_letGo (letGo_none r keep h))
theorem join_body {l : Addr} {o : Obj} {n : Nat} {t : Tok} {sep : Array UInt8} {vs : List Value} {bs : List (Array UInt8)} {Q : PySem.Fin → Shared → Prop} (hl : s.heap.get? l = some o) (hc : o.cls = .type "list") (hd : o.data = .seq vs.toArray n) (hi : BytesAre vs bs)
    (h1 : vs.length ≠ 1) (hz : (bs.toArray.foldl (fun a b => a + b.size) (sep.size * (bs.toArray.size - 1))) ≤ 100000) (hz2 : (joined sep bs).size ≤ 100000)
    (h : Q (.done (.ret (.bytes (joined sep bs) s.toks))) { s with toks := s.toks + 1 }) :
    wpAny M A (Builtin.«bytes.join» ⟨[.bytes sep t, .ref l], []⟩) Q E s := by
  have hT : s.TypeIs (.ref l) "list" := ⟨o, hl, hc⟩
  unfold Builtin.«bytes.join» joinM
  dsimp only
  refine wpAny_bind (wpAny_of_eq (a := (.bytes sep t, .ref l)) (by kernel_rfl) ?_)
  dsimp only
  rw [if_pos (by decide)]
  unfold joinItems
  refine wpAny_bind (wpAny_bind (wpAny_typeOf hT ?_))
  rw [if_pos (by decide)]
  refine wpAny_pure ?_
  refine wpAny_bind (wpAny_seqItems hl hd ?_)
  dsimp only
  rw [if_pos (by decide)]
  have em : ∀ (f : Value → Sem PySem.Fin) (g : Array Value → Sem PySem.Fin), PySem.Builtin.Bytes.joinM.match_1 (fun _ => Sem PySem.Fin) vs.toArray f g = g vs.toArray := by
    intro f g
    rcases vs with _ | ⟨v0, _ | ⟨v1, r⟩⟩
    · rfl
    · exact absurd rfl h1
    · rfl
  rw [em]
  rw [Std.Legacy.Range.forIn_eq_forIn_range']
  refine wpAny_bind (wpAny_forIn_list _
    (fun rest b s' => s' = s ∧ ∃ i, rest = List.range' i (vs.length - i) ∧ i ≤ vs.length ∧ b.1 = (bs.take i).toArray ∧ b.2 = (vs.take i).map fun v => (v, (none : Option Value))) _ ?_ ?_ _ _ ?_)
  · rintro i rest b s' ⟨rfl, j, hr, hj, hb1, hb2⟩
    have hji : i = j ∧ j < vs.length ∧ rest = List.range' (j + 1) (vs.length - (j + 1)) := by
      cases e : vs.length - j with
      | zero => rw [e] at hr; exact nomatch hr
      | succ k =>
        rw [e, List.range'_succ] at hr
        injection hr with h1 h2
        exact ⟨h1, by omega, by rw [h2, show vs.length - (j + 1) = k by omega]⟩
    obtain ⟨rfl, hlt, hrest⟩ := hji
    obtain ⟨tv, hv⟩ := hi.get i (by rw [← hi.length]; exact hlt)
    have hg : vs.toArray.getD i .none = .bytes (bs.getD i #[]) tv := by
      rw [Array.getD_eq_getD_getElem?, List.getElem?_toArray, hv]; rfl
    refine wpAny_bind (wpAny_seqItems hl hd ?_)
    dsimp only
    have hany : (Kind.bytes == Kind.bytearray || b.2.any fun x => x.1.onHeap) = false := by
      rw [hb2]
      have : ∀ v ∈ vs.take i, v.onHeap = false := by
        intro v hv'
        obtain ⟨k, hk, rfl⟩ := List.mem_iff_getElem.mp (List.mem_of_mem_take hv')
        obtain ⟨tv', hv''⟩ := hi.get k (by rw [← hi.length]; exact hk)
        have := (List.getElem?_eq_getElem hk).symm.trans hv''
        injection this with this
        rw [this]; rfl
      have h2 : (List.map (fun v => (v, (none : Option Value))) (List.take i vs)).any (fun x => x.1.onHeap) = false := by
        rw [List.any_map, List.any_eq_false]
        intro v hv'
        simpa using this v hv'
      rw [h2]; decide
    rw [hany, if_neg Bool.false_ne_true, hg]
    refine wpAny_bind (wpAny_holding (wpAny_of_eq (takeB _ _ _) ?_))
    dsimp only
    refine wpAny_bind (wpAny_seqItems hl hd ?_)
    dsimp only
    rw [if_neg (by simp)]
    refine wpAny_pure ?_
    refine ⟨rfl, i + 1, hrest, hlt, ?_, ?_⟩
    · dsimp only
      rw [hb1, List.take_add_one, List.getElem?_eq_getElem (by rw [← hi.length]; exact hlt)]
      simp [List.getD_eq_getElem?_getD, List.getElem?_eq_getElem (show i < bs.length by rw [← hi.length]; exact hlt)]
    · dsimp only
      rw [hb2, List.take_add_one, hv]
      simp
  · rintro b s' ⟨rfl, j, hr, hj, hb1, hb2⟩
    have hj' : j = vs.length := by
      cases e : vs.length - j with
      | zero => omega
      | succ k => rw [e, List.range'_succ] at hr; exact nomatch hr
    subst hj'
    rw [List.take_of_length_le (by rw [hi.length]; exact Nat.le_refl _)] at hb1
    rw [List.take_of_length_le (Nat.le_refl _)] at hb2
    obtain ⟨b1, b2⟩ := b
    dsimp only at hb1 hb2
    subst hb1 hb2
    refine wpAny_bind (wpAny_of_eq (show payload (.bytes sep t) = pure sep from rfl) ?_)
    dsimp only
    rw [if_neg (by unfold tooLong; rw [sizeLine_eq]; intro hc; have := of_decide_eq_true hc; exact absurd this (by omega))]
    refine wpAny_bind (wpAny_mkBytes ?_ (by rw [sizeLine_eq]; show (joined sep bs).size ≤ _; omega))
    refine wpAny_bind (wpAny_holding (wpAny_point ?_))
    refine wpAny_bind (letGo_none _ _ ?_)
    exact wpAny_pure h
  · exact ⟨rfl, 0, by simp, Nat.zero_le _, by simp, by simp⟩
theorem call_bjoin {l : Addr} {o : Obj} {n : Nat} {t : Tok} {sep : Array UInt8} {vs : List Value} {bs : List (Array UInt8)} {Q E : Value → Shared → Prop} (hl : s.heap.get? l = some o) (hc : o.cls = .type "list") (hd : o.data = .seq vs.toArray n) (hi : BytesAre vs bs)
    (h1 : vs.length ≠ 1) (hz : (bs.toArray.foldl (fun a b => a + b.size) (sep.size * (bs.toArray.size - 1))) ≤ 100000) (hz2 : (joined sep bs).size ≤ 100000)
    (h : Q (.bytes (joined sep bs) s.toks) { s with toks := s.toks + 1 }) :
    wpAny (model prog w) A (call (.builtin "bytes.join") [.bytes sep t, .ref l]) Q E s := by
  refine wpAny_call (codeAny_call_builtin slot_bjoin.plain entry_bjoin (slot_bjoin.check _ _ _ _ _ _ _ _ (typeIs_bytes _ _ _) (args_bjoin _ _) (join_body hl hc hd hi h1 hz hz2 ?_)))
  exact h
theorem get_bjoin {pl : Sem Bool} {b : Array UInt8} {t : Tok} {Q : Value × List Value → Shared → Prop} (h : Q (.builtin "bytes.join", [.bytes b t]) s) :
    wpAny M A (getMethod (.bytes b t) (Str.ofString "join") pl) Q E s :=
  getMethod_builtin (typeIs_bytes _ _ _) FB.plainAttrs_bytes slot_bjoin type_bjoin (fun a e => by cases e) h
end
end Mine
end
/- part P14 -/
section
open PySem PySem.W PySem.Calls PyProof.Rows
set_option maxRecDepth 100000
set_option linter.unusedVariables false
namespace Mine
theorem pick_size {bs : List (Array UInt8)} {k : Int} {n : Nat} (h : bs.all (fun b => decide (b.size ≤ n)) = true) : (pickB bs k).size ≤ n := by
  unfold pickB
  rw [List.getD_eq_getElem?_getD]
  cases e : bs[k.toNat]? with
  | none => exact Nat.zero_le _
  | some b => exact of_decide_eq_true (List.all_eq_true.mp h b (List.mem_of_getElem? e))
noncomputable def tagOf (p : Int) : Array UInt8 := byteArr [243, 160, 128 + p.fdiv 64, 128 + p.fmod 64]
theorem tagOf_size (p : Int) : (tagOf p).size = 4 := byteArr_size _
section
variable {prog : Program} {w : World} {A : Around} {E : Value → Shared → Prop} {s : Shared} {h₀ : Heap} {L : Addr} {m : Str → Option Value} {news : List (Addr × Obj)}
theorem item_bytes2 {value slice : PySem.Expr} {l : Addr} {vs : List Value} {bs : List (Array UInt8)} {k : Int} {u : Tok} {Q : Value → Shared → Prop} (N : News h₀ L s.heap news) (hm : (l, listOf vs.toArray 0) ∈ news) (hi : BytesAre vs bs)
    (h0 : 0 ≤ k) (h1 : k < bs.length) (hfit : k < 2 ^ 63) (hz : bs.all (fun b => decide (b.size ≤ 40)) = true) (h : ∀ t, (pickB bs k).size ≤ 40 → Q (.bytes (pickB bs k) t) s)
    (hs : subscripted slice false (.ref l) (.int k u) = operate [.ref l, .int k u] (getItem (.ref l) (.int k u)) := by with_unfolding_all rfl) :
    wpAny (model prog w) A (subscriptTail value slice (.ref l) (.int k u)) Q E s := item_bytes N hm hi h0 h1 hfit (fun t => h t (pick_size hz)) hs
theorem tagB {l : Addr} {p : Int} {t1 t2 t3 t4 : Tok} {Q : Value → Shared → Prop} (F : Fr h₀ L s.heap m) (N : News h₀ L s.heap news) (hm : (l, listOf #[.int 243 t1, .int 160 t2, .int (128 + p.fdiv 64) t3, .int (128 + p.fmod 64) t4] 0) ∈ news)
    (h0 : 0 ≤ p ∧ p < 128) (hh : A.handled = none)
    (h : ∀ h' t k, Fr h₀ L h' m → News h₀ L h' news → (tagOf p).size = 4 → Q (.bytes (tagOf p) t) { s with heap := h', toks := k }) : wpAny (model prog w) A (call (.type "bytes") [.ref l]) Q E s := by
  refine bytes_K F N (News.isList N hm) (ns := [243, 160, 128 + p.fdiv 64, 128 + p.fmod 64]) (.cons _ _ (.cons _ _ (.cons _ _ (.cons _ _ .nil)))) ?_ (by rw [sizeLine_eq]; exact Nat.le_of_ble_eq_true rfl) hh (fun h' t k F' N' _ => h h' t k F' N' (tagOf_size p))
  have e1 : p.fdiv 64 = p / 64 := Int.fdiv_eq_ediv_of_nonneg _ (by decide)
  have e2 : p.fmod 64 = p % 64 := Int.fmod_eq_emod_of_nonneg _ (by decide)
  rw [e1, e2]
  intro n hn
  simp only [List.mem_cons, List.not_mem_nil, or_false] at hn
  omega
theorem addB {b c : Array UInt8} {t u : Tok} {Q : Value → Shared → Prop} (hsz : b.size + c.size ≤ 16777216) (h : ∀ t' k, Q (.bytes (b ++ c) t') { s with toks := k }) : wpAny (model prog w) A (binaryOp .Add (.bytes b t) (.bytes c u)) Q E s := KBy.add_bytes hsz h
theorem joined6 (w a b c d e f : Array UInt8) : Builtin.Bytes.joined w [a, b, c, d, e, f] = a ++ w ++ b ++ w ++ c ++ w ++ d ++ w ++ e ++ w ++ f := by
  show (((((((((((#[] ++ a) ++ w) ++ b) ++ w) ++ c) ++ w) ++ d) ++ w) ++ e) ++ w) ++ f) = _
  rw [Array.empty_append]
end
end Mine
end
/- part P15 -/
section
open PySem PySem.W PySem.Calls PyProof.Rows
set_option maxRecDepth 100000
set_option linter.unusedVariables false
namespace Mine
/-- a mark at which the walk stops -/
noncomputable def Stop (p : Prop) : Prop := p
theorem unstop {p : Prop} (h : Stop p) : p := h
theorem Stop.mk {p : Prop} (h : p) : Stop p := h
section
variable {M : Model} {A : Around} {Q : Flow → Shared → Prop} {Qv : Value → Shared → Prop} {E : Value → Shared → Prop} {s : Shared} {env : Env}
theorem stopFor {t i : PySem.Expr} {b o r : List Stmt} {p : Pos} (h : Stop (wpAny M A (execs (Stmt.For t i b o p :: r) env) Q E s)) : wpAny M A (execs (Stmt.For t i b o p :: r) env) Q E s := h
theorem stopIf {t : PySem.Expr} {b o r : List Stmt} {p : Pos} (h : Stop (wpAny M A (execs (Stmt.If t b o p :: r) env) Q E s)) : wpAny M A (execs (Stmt.If t b o p :: r) env) Q E s := h
theorem stopWhile {t : PySem.Expr} {b o r : List Stmt} {p : Pos} (h : Stop (wpAny M A (execs (Stmt.While t b o p :: r) env) Q E s)) : wpAny M A (execs (Stmt.While t b o p :: r) env) Q E s := h
theorem stopWhite {v : PySem.Expr} {r : List Stmt} {p q : Pos} (h : Stop (wpAny M A (execs (Stmt.Assign [.Name (Str.ofString "white") q] v p :: r) env) Q E s)) : wpAny M A (execs (Stmt.Assign [.Name (Str.ofString "white") q] v p :: r) env) Q E s := h
theorem stopFlag {a b d : PySem.Expr} {o : Operator} {p q : Pos} {sc : Scope} {cl : List (Str × Addr)} {C : Addr} (h : Stop (wpAny M A (eval (.BinOp (.Subscript a b p) o d q) (compEnvC sc cl C env)) Qv E s)) : wpAny M A (eval (.BinOp (.Subscript a b p) o d q) (compEnvC sc cl C env)) Qv E s := h
theorem stopName {e : PySem.Expr} {sc : Scope} {C : Addr} (h : Stop (wpAny M A (eval e (compEnv sc C env)) Qv E s)) : wpAny M A (eval e (compEnv sc C env)) Qv E s := h
theorem stopTwo {v sl : PySem.Expr} {o : Value} {k : Int} {u : Tok} (h : Stop (wpAny M A (subscriptTail v sl o (.int (Int.fmod k 2) u)) Qv E s)) : wpAny M A (subscriptTail v sl o (.int (Int.fmod k 2) u)) Qv E s := h
theorem stopText {v sl : PySem.Expr} {x : Str} {t u : Tok} {k : Int} (h : Stop (wpAny M A (subscriptTail v sl (.str x t) (.int k u)) Qv E s)) : wpAny M A (subscriptTail v sl (.str x t) (.int k u)) Qv E s := h
end
section
variable {M : Model} {A : Around} {α : Type} {t : Sem α} {Q : α → Shared → Prop} {E : Value → Shared → Prop} {s : Shared} {h₀ h : Heap} {L : Addr} {m : Str → Option Value} {news : List (Addr × Obj)} {tk : Nat}
theorem cut2 (F : Fr h₀ L h m) (N : News h₀ L h news) (H : ∀ h tk, Fr h₀ L h m → News h₀ L h news → wpAny M A t Q E { s with heap := h, toks := tk }) : wpAny M A t Q E { s with heap := h, toks := tk } := H _ _ F N
end
end Mine
end
/- part P16 -/
section
open PySem PySem.W PySem.Calls PyProof.Rows
set_option maxRecDepth 100000
set_option linter.unusedVariables false
namespace Mine
theorem take_snoc {α : Type} (ns : List α) (i : Nat) (h : i < ns.length) : ns.take (i + 1) = ns.take i ++ [ns[i]] := (List.take_append_getElem h).symm
section
variable {prog : Program} {w : World} {A : Around} {E : Value → Shared → Prop} {s : Shared} {env : Env} {h₀ : Heap} {x : Str} {body : List Stmt} {Q : Flow → Shared → Prop}
theorem iter_vals {l : Addr} {vs : List Value} {m₀ : Str → Option Value} {news : List (Addr × Obj)} (J : Nat → (Str → Option Value) → List (Addr × Obj) → Prop)
    (hh : A.handled = none) (hl : h₀.IsList l vs.toArray) (F : Fr h₀ env.locals s.heap m₀) (N : News h₀ env.locals s.heap news) (hj : J 0 m₀ news)
    (turn : ∀ i v m₁ news₁ h tk own, vs[i]? = some v → OwnOff own (news.map (·.1)) → J i m₁ news₁ → Fr h₀ env.locals h (fun y => if y = x then some v else m₁ y) → News h₀ env.locals h (news₁ ++ own) →
      wpAny (model prog w) A (execs body env) (InvPostN h₀ env.locals (J (i + 1)) own (news.map (·.1)) { s with heap := h, toks := tk } Q) E { s with heap := h, toks := tk })
    (done : ∀ m₁ news₁ h tk, J vs.length m₁ news₁ → Fr h₀ env.locals h m₁ → News h₀ env.locals h news₁ → Q .next { s with heap := h, toks := tk }) :
    wpAny (model prog w) A (pyIter (.ref l)) (fun it s₂ => LoopAtV prog w A h₀ env x body Q E it s₂) E s := by
  have hls : s.heap.IsList l vs.toArray := hl.at fun o e => F.keep l o e
  obtain ⟨ol, hol, _⟩ := id hl
  have hlt : l < h₀.objs.size := Heap.lt_size hol
  have hne : l ≠ s.heap.objs.size := Nat.ne_of_lt (Nat.lt_trans (Nat.lt_of_lt_of_le hlt F.above) F.ns.lt)
  refine wpAny_pyIter_list hls ?_
  have W := Walks.list (prog := prog) (w := w) hh s.heap.objs.size l hne vs.toArray
  have hsz : vs.toArray.size = vs.length := List.size_toArray
  rw [hsz] at W
  refine loop_invN J W ?_ ?_ ?_ ?_ ⟨⟨_, Heap.get?_push_size _ rfl, rfl, rfl⟩, hls.at fun o e => Heap.get?_push_of_some _ e⟩ (F.push _) (fun p hp => ⟨Heap.get?_push_of_some _ (N p hp).1, (N p hp).2⟩) hj ?_ ?_
  · intro hm
    rcases List.mem_cons.mp hm with e | hm
    · exact absurd F.ns.lt (e ▸ Nat.lt_irrefl _)
    · exact absurd (Nat.lt_of_lt_of_le hlt F.above) ((List.mem_singleton.mp hm) ▸ Nat.lt_irrefl _)
  · intro b hb
    rw [List.mem_singleton.mp hb]
    exact next_is_new F
  · intro p hp hI
    exact absurd (Heap.lt_size (N p hp).1) ((List.mem_singleton.mp hI) ▸ Nat.lt_irrefl _)
  · intro q hq hm
    rcases List.mem_cons.mp hm with e | hm
    · exact absurd (Heap.lt_size (N q hq).1) (e ▸ Nat.lt_irrefl _)
    · have := (N q hq).2.2
      rw [List.mem_singleton.mp hm, hol] at this
      cases this
  · intro i v m₁ news₁ h tk own hi hP _ hoff hJ F₁ N₁
    exact turn i v m₁ news₁ h tk own (by simpa using hP) hoff hJ F₁ N₁
  · intro m₁ news₁ h tk hJ F₁ N₁
    exact done m₁ news₁ h tk hJ F₁ N₁
/-- a loop over a list of values, its state said by letters -/
theorem kst_vals {σ : Type} {l : Addr} {vs : List Value} {ns : List Int} {m₀ : Str → Option Value} (Led : σ → List (Addr × Obj)) (ps : σ → List (Str × Value)) (Facts : σ → Prop) (stored : List Str) (P : List Int → σ → Prop) (c₀ : σ)
    (hh : A.handled = none) (hl : h₀.IsList l vs.toArray) (hn : ns.length = vs.length) (F : Fr h₀ env.locals s.heap m₀) (N : News h₀ env.locals s.heap (Led c₀)) (hf : Facts c₀) (hk : ∀ p ∈ ps c₀, m₀ p.1 = some p.2) (hp : P [] c₀)
    (turn : ∀ (c : σ) i v n (u : Str → Option Value) h tk own, vs[i]? = some v → ns[i]? = some n → OwnOff own ((Led c₀).map (·.1)) → Facts c → P (ns.take i) c →
      Fr h₀ env.locals h (fun y => if y = x then some v else kstB (fun z => if stored.contains z then u z else m₀ z) (ps c) y) → News h₀ env.locals h (Led c ++ own) →
      wpAny (model prog w) A (execs body env) (InvPostN h₀ env.locals (KstS Led ps Facts x stored m₀ P (ns.take i ++ [n])) own ((Led c₀).map (·.1)) { s with heap := h, toks := tk } Q) E { s with heap := h, toks := tk })
    (done : ∀ (c : σ) (u : Str → Option Value) h tk, Facts c → P ns c → Fr h₀ env.locals h (fun y => if y = x then u y else kstB (fun z => if stored.contains z then u z else m₀ z) (ps c) y) → News h₀ env.locals h (Led c) → Q .next { s with heap := h, toks := tk }) :
    wpAny (model prog w) A (pyIter (.ref l)) (fun it s₂ => LoopAtV prog w A h₀ env x body Q E it s₂) E s := by
  refine iter_vals (fun i m nx => KstS Led ps Facts x stored m₀ P (ns.take i) m nx) hh hl F N ⟨c₀, rfl, hf, hk, fun _ _ _ _ => rfl, by rw [List.take_zero]; exact hp⟩ ?_ ?_
  · rintro i v m₁ nx h tk own hv hoff ⟨c, rfl, hf', h1, h2, hp'⟩ F₁ N₁
    have hlt : i < ns.length := by
      rw [hn]
      exact (List.getElem?_eq_some_iff.mp hv).1
    have hs : ns.take (i + 1) = ns.take i ++ [ns[i]] := take_snoc ns i hlt
    rw [hs]
    exact turn c i v ns[i] m₁ h tk own hv (List.getElem?_eq_getElem hlt) hoff hf' hp' (kst_fr h1 h2 F₁) N₁
  · rintro m₁ nx h tk ⟨c, rfl, hf', h1, h2, hp'⟩ F₁ N₁
    rw [← hn, List.take_length] at hp'
    exact done c m₁ h tk hf' hp' (kst_frOut h1 h2 F₁) N₁
end
end Mine
end
/- part P23 -/
section
open PySem PySem.W PySem.Calls PyProof.Rows
set_option maxRecDepth 100000
set_option linter.unusedVariables false
namespace Mine
structure NS where
  us : List Value
  ds : List Nat
  k : Nat
section
variable {prog : Program} {w : World} {A : Around} {E : Value → Shared → Prop} {s : Shared} {env : Env} {h₀ : Heap} {y : Str} {body : List Stmt} {Q : Flow → Shared → Prop}
/-- a loop over a text's signs, its state said by letters -/
theorem kst_str {σ : Type} {x : Str} {tx : Tok} {m₀ : Str → Option Value} (Led : σ → List (Addr × Obj)) (ps : σ → List (Str × Value)) (Facts : σ → Prop) (stored : List Str) (P : List Int → σ → Prop) (c₀ : σ)
    (hh : A.handled = none) (F : Fr h₀ env.locals s.heap m₀) (N : News h₀ env.locals s.heap (Led c₀)) (hf : Facts c₀) (hk : ∀ p ∈ ps c₀, m₀ p.1 = some p.2) (hp : P [] c₀)
    (turn : ∀ (c : σ) (pre : List Int) (n : Nat) (t : Tok) (u : Str → Option Value) h tk own, n ∈ x.cps.toList → pre.length < x.cps.size → OwnOff own ((Led c₀).map (·.1)) → Facts c → P pre c →
      Fr h₀ env.locals h (fun z => if z = y then some (.str ⟨#[n]⟩ t) else kstB (fun z => if stored.contains z then u z else m₀ z) (ps c) z) → News h₀ env.locals h (Led c ++ own) →
      wpAny (model prog w) A (execs body env) (InvPostN h₀ env.locals (KstS Led ps Facts y stored m₀ P (pre ++ [(n : Int)])) own ((Led c₀).map (·.1)) { s with heap := h, toks := tk } Q) E { s with heap := h, toks := tk })
    (done : ∀ (c : σ) (u : Str → Option Value) h tk, Facts c → P (x.cps.toList.map Int.ofNat) c → Fr h₀ env.locals h (fun z => if z = y then u z else kstB (fun z => if stored.contains z then u z else m₀ z) (ps c) z) → News h₀ env.locals h (Led c) → Q .next { s with heap := h, toks := tk }) :
    wpAny (model prog w) A (pyIter (.str x tx)) (fun it s₂ => LoopAtV prog w A h₀ env y body Q E it s₂) E s := by
  have hlen : (x.cps.toList.map Int.ofNat).length = x.cps.size := by rw [List.length_map]; rfl
  refine wpAny_pyIter_str fun o St W hst => ?_
  refine loop_invN (fun i m nx => KstS Led ps Facts y stored m₀ P ((x.cps.toList.map Int.ofNat).take i) m nx) (W A hh) ?_ ?_ ?_ ?_ hst (F.push _) (fun p hp => ⟨Heap.get?_push_of_some _ (N p hp).1, (N p hp).2⟩) ⟨c₀, rfl, hf, hk, fun _ _ _ _ => rfl, by rw [List.take_zero]; exact hp⟩ ?_ ?_
  · intro hm
    exact absurd F.ns.lt ((List.mem_singleton.mp hm) ▸ Nat.lt_irrefl _)
  · intro b hb
    rw [List.mem_singleton.mp hb]
    exact next_is_new F
  · intro p hp hI
    exact absurd (Heap.lt_size (N p hp).1) ((List.mem_singleton.mp hI) ▸ Nat.lt_irrefl _)
  · intro p hp hI
    exact absurd (Heap.lt_size (N p hp).1) ((List.mem_singleton.mp hI) ▸ Nat.lt_irrefl _)
  · rintro i v m₁ nx h tk own hi ⟨n, t, hn, rfl⟩ _ hoff ⟨c, rfl, hf', h1, h2, hp'⟩ F₁ N₁
    have hlt : i < (x.cps.toList.map Int.ofNat).length := by rw [hlen]; exact hi
    have hn' : x.cps.toList[i]? = some n := by rw [Array.getElem?_toList]; exact hn
    have hv : (x.cps.toList.map Int.ofNat)[i] = (n : Int) := by
      have e : (x.cps.toList.map Int.ofNat)[i]? = some (n : Int) := by rw [List.getElem?_map, hn']; rfl
      rw [List.getElem?_eq_getElem hlt] at e
      exact Option.some.inj e
    have hs := take_snoc (x.cps.toList.map Int.ofNat) i hlt
    rw [hv] at hs
    rw [hs]
    exact turn c _ n t m₁ h tk own (List.mem_of_getElem? hn') (by rw [List.length_take, hlen]; have : i < x.cps.size := hi; omega) hoff hf' hp' (kst_fr h1 h2 F₁) N₁
  · rintro m₁ nx h tk ⟨c, rfl, hf', h1, h2, hp'⟩ F₁ N₁
    rw [← hlen, List.take_length] at hp'
    exact done c m₁ h tk hf' hp' (kst_frOut h1 h2 F₁) N₁
end
end Mine
end
/- part P17 -/
section
open PySem PySem.W PySem.Calls PyProof.Rows
set_option maxRecDepth 100000
set_option linter.unusedVariables false
namespace Mine
structure Room2 (A : Around) : Prop where
  hh : A.handled = none
  hd : A.depth + 30 < recursionLimit
  hu : A.units + 200 < cLine
theorem Room2.room {A : Around} (h : Room2 A) : Room A := ⟨h.hh, by have := h.hd; omega, by have := h.hu; omega⟩
inductive CharsAre : List Value → List Nat → Prop
  | nil : CharsAre [] []
  | cons {c : Nat} {t : Tok} {vs : List Value} {cs : List Nat} : CharsAre vs cs → CharsAre (.str ⟨#[c]⟩ t :: vs) (c :: cs)
theorem CharsAre.length : ∀ {vs : List Value} {cs : List Nat}, CharsAre vs cs → vs.length = cs.length
  | _, _, .nil => rfl
  | _, _, .cons h => congrArg (· + 1) h.length
theorem CharsAre.get : ∀ {vs : List Value} {cs : List Nat}, CharsAre vs cs → ∀ (i : Nat) {v : Value} {c : Nat}, vs[i]? = some v → cs[i]? = some c → ∃ t, v = .str ⟨#[c]⟩ t
  | _, _, .nil, i, _, _, h, _ => by simp at h
  | _, _, .cons (t := t) _, 0, _, _, h1, h2 => by
    cases h1; cases h2; exact ⟨t, rfl⟩
  | _, _, .cons h, i + 1, _, _, h1, h2 => h.get i h1 h2
theorem CharsAre.append : ∀ {vs us : List Value} {cs ds : List Nat}, CharsAre vs cs → CharsAre us ds → CharsAre (vs ++ us) (cs ++ ds)
  | _, _, _, _, .nil, h => h
  | _, _, _, _, .cons g, h => .cons (g.append h)
/-- the pile as a text: the ground, then each name behind an '@' (top first) -/
noncomputable def pil (g : Str) : List Nat → Str
  | [] => g
  | c :: st => pil g st ++ Str.ofString "@" ++ ⟨#[c]⟩
noncomputable def popS (c : Nat) : List Nat → List Nat → List Nat × List Nat
  | [], out => ([], out)
  | d :: st, out => if d < c then popS c st (out ++ [d]) else (d :: st, out)
noncomputable def stepS (s : List Nat × List Nat) (c : Nat) : List Nat × List Nat := (c :: (popS c s.1 s.2).1, (popS c s.1 s.2).2)
noncomputable def runS (cs : List Nat) : List Nat × List Nat := cs.foldl stepS ([], [])
noncomputable def sortS (cs : List Nat) : List Nat := (runS cs).2 ++ (runS cs).1
theorem pil_list (g : Str) (c : Nat) (st : List Nat) : (pil g (c :: st)).cps.toList = (pil g st).cps.toList ++ [64, c] := by
  show (pil g st ++ Str.ofString "@" ++ ⟨#[c]⟩ : Str).cps.toList = _
  rw [Str.cps_append, Array.toList_append, Str.cps_append, Array.toList_append]
  show _ ++ [64] ++ [c] = _
  rw [List.append_assoc]
  rfl
theorem pil_len (g : Str) : ∀ st : List Nat, (pil g st).length = g.length + 2 * st.length
  | [] => rfl
  | c :: st => by
    have h1 : (pil g (c :: st)).length = (pil g (c :: st)).cps.toList.length := rfl
    have h2 : (pil g st).cps.toList.length = (pil g st).length := rfl
    rw [h1, pil_list, List.length_append, h2, pil_len g st]
    simp only [List.length_cons, List.length_nil]
    omega
theorem pil_ne (g : Str) (c : Nat) (st : List Nat) : pil g (c :: st) ≠ g := fun e => by
  have := congrArg Str.length e
  rw [pil_len, List.length_cons] at this
  omega
end Mine
end
/- part W3 -/
section
open PySem PySem.W PySem.Calls PyProof.Rows
set_option maxRecDepth 100000
set_option maxHeartbeats 4000000
set_option linter.unusedVariables false
namespace Mine
section
variable {w : World} {A : Around} {R : Result → Shared → Prop} {s : Shared} {mg mb : Str → Option Value} {mean : ExcName → Option Value}
theorem strcoll {a b : Str} {t1 t2 : Tok} (hA : Room A) (C : Ok w mean mg mb s.heap)
    (h : ∀ h' n' t, s.heap.StaysIn h' → R (.ok (.ret (.int (b2i (decide (b.cps.toList < a.cps.toList)) - b2i (decide (a.cps.toList < b.cps.toList))) t))) { s with heap := h', toks := n' }) :
    codeAny (model PySem.Challenge.rw_kl0204_01.row.prog w) A (.call (.ref 45) ⟨[.str a t1, .str b t2], []⟩) R s := by
  obtain ⟨KX, T⟩ := C
  obtain ⟨hd, dp, fr, gd, un⟩ := A
  obtain ⟨hh, hroom, hun⟩ := hA
  dsimp only at hh hroom hun
  subst hh
  refine call_plain_ret (show dp < recursionLimit by omega) (KX 45 _ rfl) (name := .ofString "_strcoll") (pm := _) (doc := .none) (cd := .ref 44) rfl T.nolimit (codeRec_of KX (by kernel_rfl)) (binds := [(.ofString "a", .str a t1), (.ofString "b", .str b t2)]) (by rfl) (locs (by rfl)) (fun h₁ F => ?_)
  have N := news_nil (h₀ := s.heap) (L := s.heap.objs.size) (h := h₁)
  k_steps
  exact h _ _ _ F.keep
theorem in_c9 {c : Nat} {t1 : Tok} (hA : Room A) (C : Ok w mean mg mb s.heap) (hc : c < 1114112)
    (h : ∀ h' n', s.heap.StaysIn h' → R (.ok (.ret (.bool (inC9 c)))) { s with heap := h', toks := n' }) :
    codeAny (model PySem.Challenge.rw_kl0204_01.row.prog w) A (.call (.ref 279) ⟨[.str ⟨#[c]⟩ t1], []⟩) R s := by
  obtain ⟨KX, T⟩ := C
  revert KX
  k_fill
  intro KX
  obtain ⟨hd, dp, fr, gd, un⟩ := A
  obtain ⟨hh, hroom, hun⟩ := hA
  dsimp only at hh hroom hun
  subst hh
  refine call_plain_ret (show dp < recursionLimit by omega) (KX 279 _ rfl) (name := .ofString "in_table_c9") (pm := _) (doc := .none) (cd := .ref 278) rfl T.nolimit (codeRec_of KX (by kernel_rfl)) (binds := [(.ofString "code", .str ⟨#[c]⟩ t1)]) (by rfl) (locs (by rfl)) (fun h₁ F => ?_)
  have N := news_nil (h₀ := s.heap) (L := s.heap.objs.size) (h := h₁)
  k_steps
  refine wpAny_inSet_of (knd := intKind _ _) (intKind_is _ _ _ _) rfl (setOf9 (KX.keeps F.keep)) ?_
  k_steps
  exact h _ _ F.keep
end
end Mine
end
/- part P18 -/
section
open PySem PySem.W PySem.Calls PyProof.Rows
set_option maxRecDepth 100000
set_option linter.unusedVariables false
namespace Mine
theorem pil_last (g : Str) (d : Nat) (st : List Nat) : (pil g (d :: st)).cps[(pil g (d :: st)).length - 1]? = some d := by
  have h1 : (pil g (d :: st)).length = (pil g (d :: st)).cps.toList.length := rfl
  rw [h1, ← Array.getElem?_toList, pil_list]
  simp only [List.length_append, List.length_cons, List.length_nil]
  rw [List.getElem?_append_right (by omega)]
  have : (pil g st).cps.toList.length + (0 + 1 + 1) - 1 - (pil g st).cps.toList.length = 1 := by omega
  rw [this]
  rfl
theorem str_ext {a b : Str} (h : a.cps.toList = b.cps.toList) : a = b := by
  cases a; cases b
  congr
  exact Array.toList_inj.mp h
theorem pil_slice (g : Str) (d : Nat) (st : List Nat) : PySem.Txt.slice (pil g (d :: st)) none (some (-2)) = pil g st := by
  have hl := pil_len g (d :: st)
  rw [List.length_cons] at hl
  have hl2 := pil_len g st
  have e : PySem.Txt.slice (pil g (d :: st)) none (some (-2)) = PySem.Txt.slice (pil g (d :: st)) none (some (-2 + ((pil g (d :: st)).length : Int))) := by
    unfold PySem.Txt.slice
    rw [PySem.StrLaws.sliceIdx_neg_hi none (pil g (d :: st)).length (by decide) (by omega)]
  rw [e]
  have h2 := slice_closes_toL (x := pil g (d :: st)) (j := -2 + ((pil g (d :: st)).length : Int)) (by omega) (by omega)
  have h3 := eq_of_beq h2
  rw [h3]
  apply str_ext
  rw [pil_list]
  have hk : (-2 + ((pil g (d :: st)).length : Int) - 0).toNat = (pil g st).cps.toList.length := by
    show _ = (pil g st).length
    omega
  rw [hk]
  simp
section
variable {prog : Program} {w : World} {A : Around} {E : Value → Shared → Prop} {s : Shared} {h₀ : Heap} {L : Addr} {m : Str → Option Value} {news : List (Addr × Obj)}
theorem item_last {value slice : PySem.Expr} {g : Str} {d : Nat} {st : List Nat} {t u : Tok} {Q : Value → Shared → Prop} (hz : (pil g (d :: st)).length ≤ 1000)
    (h : Q (.str ⟨#[d]⟩ s.toks) { s with toks := s.toks + 1 })
    (hs : subscripted slice false (.str (pil g (d :: st)) t) (.int (-1) u) = operate [.str (pil g (d :: st)) t, .int (-1) u] (getItem (.str (pil g (d :: st)) t) (.int (-1) u)) := by with_unfolding_all rfl)
    (ht : ∀ r, letTemporaryGo value (.str (pil g (d :: st)) t) r = pure () := by intro _; with_unfolding_all rfl) :
    wpAny (model prog w) A (subscriptTail value slice (.str (pil g (d :: st)) t) (.int (-1) u)) Q E s := by
  have hl := pil_len g (d :: st)
  rw [List.length_cons] at hl
  have e : (seqIndex? (-1) (pil g (d :: st)).length).bind ((pil g (d :: st)).cps[·]?) = some d := by
    have : seqIndex? (-1) (pil g (d :: st)).length = some ((pil g (d :: st)).length - 1) := by
      unfold seqIndex?
      have h1 : (-1 : Int) < 0 := by decide
      simp only [h1, if_true]
      rw [if_pos (Bool.and_eq_true_iff.mpr ⟨decide_eq_true (by omega), decide_eq_true (by omega)⟩)]
      congr 1
      omega
    rw [this]
    exact pil_last g d st
  exact subscriptTail_builtin (T := "str") (typeIs_str _ _ _) PySem.F.slot_str_getitem.lookup (P.getItem_str (by decide) e h) hs ht
/-- how a statement's walk ends that goes on -/
noncomputable def EndNext (s : Shared) (h₀ : Heap) (L : Addr) (m : Str → Option Value) (news : List (Addr × Obj)) (f : Flow) (s' : Shared) : Prop := f = .next ∧ ∃ h tk, s' = { s with heap := h, toks := tk } ∧ Fr h₀ L h m ∧ News h₀ L h news
theorem EndNext.mk {h : Heap} {tk : Nat} (F : Fr h₀ L h m) (N : News h₀ L h news) : EndNext s h₀ L m news .next { s with heap := h, toks := tk } := ⟨rfl, h, tk, rfl, F, N⟩
theorem cut_next {t : Sem Flow} {Q : Flow → Shared → Prop} {M : Model} {h : Heap} {tk : Nat} (F : Fr h₀ L h m) (N : News h₀ L h news)
    (h1 : wpAny M A t (fun f s' => EndNext s h₀ L m news f s') E { s with heap := h, toks := tk })
    (h2 : ∀ h tk, Fr h₀ L h m → News h₀ L h news → Q .next { s with heap := h, toks := tk }) : wpAny M A t Q E { s with heap := h, toks := tk } := by
  refine wpAny_mono h1 (fun f s' p => ?_) fun _ _ x => x
  obtain ⟨rfl, h, tk, rfl, F, N⟩ := p
  exact h2 h tk F N
noncomputable def sgn (a b : Nat) : Int := if a < b then -1 else if b < a then 1 else 0
theorem lt_one (a b : Nat) : decide ((#[a] : Array Nat).toList < (#[b] : Array Nat).toList) = decide (a < b) := by
  apply decide_eq_decide.mpr
  show [a] < [b] ↔ _
  constructor
  · intro h
    cases h with
    | rel h => exact h
    | cons h => cases h
  · intro h
    exact List.Lex.rel h
variable {R : Result → Shared → Prop} {mg mb : Str → Option Value} {mean : ExcName → Option Value}
theorem strcoll1 {a b : Nat} {t1 t2 : Tok} (hA : Room A) (C : Ok w mean mg mb s.heap)
    (h : ∀ h' n' t, s.heap.StaysIn h' → R (.ok (.ret (.int (sgn a b) t))) { s with heap := h', toks := n' }) :
    codeAny (model PySem.Challenge.rw_kl0204_01.row.prog w) A (.call (.ref 45) ⟨[.str ⟨#[a]⟩ t1, .str ⟨#[b]⟩ t2], []⟩) R s := by
  refine strcoll hA C fun h' n' t hk => ?_
  have e : (b2i (decide ((#[b] : Array Nat).toList < (#[a] : Array Nat).toList)) - b2i (decide ((#[a] : Array Nat).toList < (#[b] : Array Nat).toList)) : Int) = sgn a b := by
    rw [lt_one, lt_one]
    unfold sgn
    by_cases h1 : a < b
    · rw [if_pos h1, decide_eq_true h1, decide_eq_false (by omega)]; rfl
    · rw [if_neg h1, decide_eq_false h1]
      by_cases h2 : b < a
      · rw [if_pos h2, decide_eq_true h2]; rfl
      · rw [if_neg h2, decide_eq_false h2]; rfl
  have := h h' n' t hk
  rw [← e] at this
  exact this
end
end Mine
end
/- part P19 -/
section
open PySem PySem.W PySem.Calls PyProof.Rows
set_option maxRecDepth 100000
set_option linter.unusedVariables false
namespace Mine
theorem Room2.deeper {A : Around} {env : Env} (h : Room2 A) : Room (A.deeper env) := ⟨h.hh, by have := h.hd; show A.depth + 1 + 4 < _; omega, by have := h.hu; show A.units + 3 + 40 < _; omega⟩
section
variable {w : World} {A : Around} {R : Result → Shared → Prop} {s : Shared} {mg mb : Str → Option Value} {mean : ExcName → Option Value}
theorem strcoll_same {a : Nat} {t1 t2 : Tok} (hA : Room A) (C : Ok w mean mg mb s.heap)
    (h : ∀ h' n' t, s.heap.StaysIn h' → R (.ok (.ret (.int 0 t))) { s with heap := h', toks := n' }) :
    codeAny (model PySem.Challenge.rw_kl0204_01.row.prog w) A (.call (.ref 45) ⟨[.str ⟨#[a]⟩ t1, .str ⟨#[a]⟩ t2], []⟩) R s := by
  refine strcoll1 hA C fun h' n' t hk => ?_
  have e : sgn a a = 0 := by unfold sgn; rw [if_neg (Nat.lt_irrefl _), if_neg (Nat.lt_irrefl _)]
  rw [e]
  exact h h' n' t hk
end
section
variable {prog : Program} {w : World} {A : Around} {s : Shared}
/-- a call of a def that has cells, the heap of the call as the ground -/
theorem call_cells_ret {R : Result → Shared → Prop} {name qual : Str} {params : Arguments} {body : List Stmt} {scope : Scope} {dV kV doc pm cdv ct : Value} {an : Option Addr} {f : Addr} {fo : Obj} {args : Args} {binds : List (Str × Value)}
    (hroom : A.depth < recursionLimit) (ho : s.heap.get? f = some fo) (hd : fo.data = .func (fnX name qual params body scope [] dV kV doc pm an cdv ct)) (hlim : s.heap.NoLimit) (hcd : s.heap.CodeRec cdv qual)
    (hbind : BindsTo s (fnX name qual params body scope [] dV kV doc pm an cdv ct) args binds)
    (hkind : (binds.all fun y => scope.names.lookup y.1 == some .local || scope.names.lookup y.1 == some .cell) = true)
    (hnd : ((cellsFrom 0 scope.names []).map (·.1)).Nodup)
    (h : ∀ h₁ tk cells, Fr s.heap s.heap.objs.size h₁ (bindL (envOfC qual scope s.heap.objs.size f cdv).kindOf binds fun _ => none) → News s.heap s.heap.objs.size h₁ cells →
      CellsAre (bindC (envOfC qual scope s.heap.objs.size f cdv).kindOf binds fun _ => none) (cellsFrom (s.heap.objs.size + 1) scope.names []) cells →
      wpAny (model prog w) (A.deeper (envOfC qual scope s.heap.objs.size f cdv)) (execs body (envOfC qual scope s.heap.objs.size f cdv))
        (fun fl s' => R (.ok (.ret (match fl with | .ret v => v | _ => .none))) s') (fun _ _ => False) { s with heap := h₁, toks := tk })
    (hco : scope.isCoroutine = false := by rfl) (hgen : scope.isGenerator = false := by rfl) (hk : scope.kind = .function := by rfl) : codeAny (model prog w) A (.call (.ref f) args) R s := by
  refine codeAny_call_function hroom ho hd hco hgen rfl hcd (hbind _ _ _ _ ?_)
  refine wpAny_newFunctionEnv_cells hk (kindsX hkind _) fun env' he s' x => ?_
  subst he
  refine ⟨hlim.keeps x.toInCall.keep, codeAny_func ?_⟩
  obtain ⟨h₁, tk, rfl, _⟩ := x.done
  have keep := x.toInCall.keep
  obtain ⟨cells, NC, Y⟩ := Cl.news (h₀ := s.heap) (Nat.le_refl _) fun n c hm => ⟨x.cell n c (lookup_of_mem_nodup (cellsFrom_names scope.names 0 (s.heap.objs.size + 1) [] [] rfl ▸ hnd) hm), x.above n c hm⟩
  exact wpAny_mono (h h₁ tk cells ⟨x.toInCall.ns, keep, Nat.le_refl _⟩ NC Y) (fun _ _ y => y) fun _ _ y => y.elim
end
end Mine
end
/- part P20 -/
section
open PySem PySem.W PySem.Calls PyProof.Rows
set_option maxRecDepth 100000
set_option linter.unusedVariables false
namespace Mine
theorem ints_cons {us : List Value} {ks : List Int} {n : Nat} (h : IntsAre us ks) (hl : ks.length = n + 1) : ∃ k t us' ks', us = .int k t :: us' ∧ IntsAre us' ks' ∧ ks'.length = n := by
  cases h with
  | nil => cases hl
  | cons k t h => exact ⟨k, t, _, _, rfl, h, Nat.succ.inj hl⟩
theorem ints_nil {us : List Value} {ks : List Int} (h : IntsAre us ks) (hl : ks.length = 0) : us = [] := by
  cases h with
  | nil => rfl
  | cons k t h => cases hl
section
variable {prog : Program} {w : World} {A : Around} {E : Value → Shared → Prop} {s : Shared} {h₀ : Heap} {L a b : Addr} {m : Str → Option Value} {news : List (Addr × Obj)} {vs ws : List Value} {ns ms : List Int} {Q : Value → Shared → Prop}
theorem add_11 (F : Fr h₀ L s.heap m) (N : News h₀ L s.heap news) (ha : s.heap.IsList a vs.toArray) (hb : s.heap.IsList b ws.toArray) (hi : IntsAre vs ns) (hj : IntsAre ws ms) (hn : ns.length = 5) (hm : ms.length = 6)
    (h : ∀ D h' (n0 n1 n2 n3 n4 n5 n6 n7 n8 n9 n10 : Int) (a0 a1 a2 a3 a4 a5 a6 a7 a8 a9 a10 : Tok), Fr h₀ L h' m → News h₀ L h' ((D, listOf #[.int n0 a0, .int n1 a1, .int n2 a2, .int n3 a3, .int n4 a4, .int n5 a5, .int n6 a6, .int n7 a7, .int n8 a8, .int n9 a9, .int n10 a10] 0) :: news) → (∀ p ∈ news, p.1 < D) → Q (.ref D) { s with heap := h' }) :
    wpAny (model prog w) A (binaryOp .Add (.ref a) (.ref b)) Q E s := by
  refine kmk_add_ints F N ha hb hi hj (fun D us h' F' N' l hI => ?_) (by rw [sizeLine_eq, hn, hm]; decide)
  have hl : (ns ++ ms).length = 11 := by rw [List.length_append, hn, hm]
  obtain ⟨n0, a0, us, ks, rfl, hI, hl⟩ := ints_cons hI hl
  obtain ⟨n1, a1, us, ks, rfl, hI, hl⟩ := ints_cons hI hl
  obtain ⟨n2, a2, us, ks, rfl, hI, hl⟩ := ints_cons hI hl
  obtain ⟨n3, a3, us, ks, rfl, hI, hl⟩ := ints_cons hI hl
  obtain ⟨n4, a4, us, ks, rfl, hI, hl⟩ := ints_cons hI hl
  obtain ⟨n5, a5, us, ks, rfl, hI, hl⟩ := ints_cons hI hl
  obtain ⟨n6, a6, us, ks, rfl, hI, hl⟩ := ints_cons hI hl
  obtain ⟨n7, a7, us, ks, rfl, hI, hl⟩ := ints_cons hI hl
  obtain ⟨n8, a8, us, ks, rfl, hI, hl⟩ := ints_cons hI hl
  obtain ⟨n9, a9, us, ks, rfl, hI, hl⟩ := ints_cons hI hl
  obtain ⟨n10, a10, us, ks, rfl, hI, hl⟩ := ints_cons hI hl
  have := ints_nil hI hl
  subst this
  exact h D h' n0 n1 n2 n3 n4 n5 n6 n7 n8 n9 n10 a0 a1 a2 a3 a4 a5 a6 a7 a8 a9 a10 F' N' l
noncomputable def EndL (s : Shared) (h₀ : Heap) (L : Addr) (m : Str → Option Value) (news : List (Addr × Obj)) (v : Value) (s' : Shared) : Prop :=
  ∃ D us ks h tk, v = .ref D ∧ s' = { s with heap := h, toks := tk } ∧ Fr h₀ L h m ∧ News h₀ L h ((D, listOf (List.toArray us) 0) :: news) ∧ IntsAre us ks ∧ us.length ≤ 100
theorem EndL.mk {D : Addr} {us : List Value} {ks : List Int} {h : Heap} {tk : Nat} (F : Fr h₀ L h m) (N : News h₀ L h ((D, listOf us.toArray 0) :: news)) (hi : IntsAre us ks) (hl : ks.length ≤ 100) : EndL s h₀ L m news (.ref D) { s with heap := h, toks := tk } :=
  ⟨D, us, ks, h, tk, rfl, rfl, F, N, hi, by rw [hi.length]; exact hl⟩
theorem cutL {t : Sem Value} {M : Model} {h : Heap} {tk : Nat} (F : Fr h₀ L h m) (N : News h₀ L h news)
    (h1 : wpAny M A t (fun v s' => EndL s h₀ L m news v s') E { s with heap := h, toks := tk })
    (h2 : ∀ D us ks h tk, Fr h₀ L h m → News h₀ L h ((D, listOf (List.toArray us) 0) :: news) → IntsAre us ks → us.length ≤ 100 → Q (.ref D) { s with heap := h, toks := tk }) : wpAny M A t Q E { s with heap := h, toks := tk } := by
  refine wpAny_mono h1 (fun f s' p => ?_) fun _ _ x => x
  obtain ⟨D, us, ks, h, tk, rfl, rfl, F, N, hi, hl⟩ := p
  exact h2 D us ks h tk F N hi hl
end
section
variable {M : Model} {prog : Program} {w : World} {A : Around} {E : Value → Shared → Prop} {s : Shared} {env : Env} {h₀ : Heap} {mg mb : Str → Option Value} {mean : ExcName → Option Value} {x : Str} {pos : Pos} {v : Value} {Q : Value → Shared → Prop}
theorem bname (T : Top Qv L3 mean mg mb h₀) (k : h₀.StaysIn s.heap) (hv : bootBuiltins x = some v) (h : Q v s)
    (hk : env.scope.kind = .function := by rfl) (hx : env.kindOf x = some .globalImplicit := by rfl) (hg : env.globals = mainGlobals := by rfl) (hb : env.builtins = builtinsNs := by rfl)
    (h1 : x ∉ startupNames := by decide +kernel) (h2 : x ∉ L3 := by decide +kernel) (h3 : x ∉ (recsOf Qv).map (·.name) := by decide +kernel)
    (h4 : x ∉ (litsOf Qv).map (·.1) := by decide +kernel) (h5 : x ∉ (clssOf Qv L3).map (·.name) := by decide +kernel) (hn : x ≠ "__name__" := by decide +kernel) (hd : (x == ("__debug__" : Str)) = false := by decide +kernel) :
    wpAny M A (eval (.Name x pos) env) Q E s :=
  Calls.Name_function_global hk hx (Calls.loadGlobal_builtin (by rw [hg]; exact T.g.keeps k) (T.free x h1 h2 h3 h4 h5) (by rw [hb]; exact T.b.keeps k) ((T.builtins x hn).trans hv) h) hd
theorem lname {C : Addr} {m : Str → Option Value} (hn : s.heap.Ns C m) (hv : m x = some v) (h : Q v s) (hC : env.locals = C := by rfl)
    (hk : env.scope.kind = .function := by rfl) (hx : env.kindOf x = some .local := by rfl) (hd : (x == ("__debug__" : Str)) = false := by decide +kernel) :
    wpAny M A (eval (.Name x pos) env) Q E s := by
  subst hC
  exact wpAny_Name (wpAny_loadName_local hk hx hn hv h) hd
end
end Mine
end
/- part W9 -/
section
open PySem PySem.W PySem.Calls PyProof.Rows
set_option maxRecDepth 100000
set_option maxHeartbeats 4000000
set_option linter.unusedVariables false
namespace Mine
noncomputable def Hide (p : Prop) : Prop := p
theorem Hide.mk {p : Prop} (h : p) : Hide p := h
theorem Hide.get {p : Prop} (h : Hide p) : p := h
noncomputable def gt' (ns : List Int) (i : Int) : Int := ns.getD i.toNat 0
theorem mem_ks {a x : Int} {n : Nat} (h0 : a ≤ x) (h1 : x < a + n) : x ∈ rangeKs a n := by
  unfold rangeKs
  exact List.mem_map.mpr ⟨(x - a).toNat, List.mem_range.mpr (by omega), by omega⟩
noncomputable def T3 (ns : List Int) (p q r : Int) : Prop := gt' ns r < gt' ns p ∧ gt' ns p < gt' ns q
noncomputable def Three (ns : List Int) : Prop := ∃ p q r : Int, 0 ≤ p ∧ p < q ∧ q < r ∧ r < 6 ∧ T3 ns p q r
local macro_rules | `(tactic| walk_at $k:str) => if ["exec For Name Call cons nil", "pyIter ref", "InvPostN"].contains k.getString then `(tactic| (refine unstop ?_)) else Lean.Macro.throwUnsupported
section
variable {w : World} {A : Around} {R : Result → Shared → Prop} {s : Shared} {mg mb : Str → Option Value} {mean : ExcName → Option Value}
theorem l_three {l : Addr} {vs : List Value} {ns : List Int} (hl : s.heap.IsList l vs.toArray) (hi : IntsAre vs ns) (hn : ns.length = 6) (hA : Room A) (C : Ok w mean mg mb s.heap)
    (ht : Three ns → ∀ h' n', s.heap.StaysIn h' → R (.ok (.ret (.bool true))) { s with heap := h', toks := n' })
    (hf : ¬ Three ns → ∀ h' n', s.heap.StaysIn h' → R (.ok (.ret (.bool false))) { s with heap := h', toks := n' }) :
    codeAny (model PySem.Challenge.rw_kl0204_01.row.prog w) A (.call (.ref 317) ⟨[.ref l], []⟩) R s := by
  obtain ⟨KX, T⟩ := C
  revert KX
  k_fill
  intro KX
  obtain ⟨hd, dp, fr, gd, un⟩ := A
  obtain ⟨hh, hroom, hun⟩ := hA
  dsimp only at hh hroom hun
  subst hh
  refine call_plain_ret (show dp < recursionLimit by omega) (KX 317 _ rfl) (name := .ofString "_law_three") (pm := _) (doc := .none) (cd := .ref 316) rfl T.nolimit (codeRec_of KX (by kernel_rfl)) (binds := [(.ofString "row", .ref l)]) (by rfl) (locs (by rfl)) (fun h₁ F => ?_)
  have N := news_nil (h₀ := s.heap) (L := s.heap.objs.size) (h := h₁)
  k_steps
  refine Stop.mk (For_invVF F rfl rfl ?_)
  k_steps
  rename Fr _ _ _ _ => F1
  rename News _ _ _ _ => N1
  rename IsRange _ _ _ _ _ _ _ _ => G1
  refine Stop.mk (kst_range (σ := Unit) (fun _ => []) (fun _ => []) (fun _ => True) [.ofString "q", .ofString "r"] (fun pre _ => ∀ p ∈ pre, ∀ q r : Int, p < q → q < r → r < 6 → ¬ T3 ns p q r) () rfl G1 (by decide) (n := 6) (by rfl) F1 (fun _ hp => nomatch hp) trivial (fun _ hp => nomatch hp) (fun _ hp => nomatch hp) ?_ ?_)
  · intro _ pre p tp u h2 tk own hp hlt hoff _ hpre F2 N2
    clear F1 N1 G1
    dsimp only at hpre F2 N2 ⊢
    have F2 : Fr s.heap s.heap.objs.size h2 _ := F2
    have N2 : News s.heap s.heap.objs.size h2 _ := N2
    rename Fr s.heap (Env.locals _) _ _ => Fold
    rename News s.heap (Env.locals _) _ _ => Nold
    clear Fold Nold
    have hp6 : Hide (0 ≤ p ∧ p < 6) := Hide.mk (by omega)
    clear hp hlt
    k_steps
    refine Stop.mk (For_invVF F2 rfl rfl ?_)
    k_steps
    rename Fr _ _ _ _ => F3
    rename News _ _ _ _ => N3
    rename IsRange _ _ _ _ _ _ _ _ => G3
    have hp6 := hp6.get
    refine Stop.mk (kst_range (σ := Unit) (fun _ => own) (fun _ => []) (fun _ => True) [.ofString "r"] (fun pre _ => ∀ q ∈ pre, ∀ r : Int, q < r → r < 6 → ¬ T3 ns p q r) () rfl G3 (small_one (by omega) (by omega) (by omega) (by omega)) (n := (6 - (p + 1)).toNat) (rangeSize_nat _ _) F3 (by exact N3) trivial (fun _ hp => nomatch hp) (fun _ hp => nomatch hp) ?_ ?_)
    · intro _ pre3 q tq u3 h4 tk4 own4 hq hlt4 hoff4 _ hpre4 F4 N4
      clear F3 N3 G3
      dsimp only at hpre4 F4 N4 ⊢
      have F4 : Fr s.heap s.heap.objs.size h4 _ := F4
      have N4 : News s.heap s.heap.objs.size h4 _ := N4
      rename Fr s.heap (Env.locals _) _ _ => Fold
      rename News s.heap (Env.locals _) _ _ => Nold
      clear Fold Nold
      have hq6 : Hide (p < q ∧ q < 6) := Hide.mk (by omega)
      clear hq hlt4
      k_steps
      refine Stop.mk (For_invVF F4 rfl rfl ?_)
      k_steps
      rename Fr _ _ _ _ => F5
      rename News _ _ _ _ => N5
      rename IsRange _ _ _ _ _ _ _ _ => G5
      have hq6 := hq6.get
      refine Stop.mk (kst_range (σ := Unit) (fun _ => own ++ own4) (fun _ => []) (fun _ => True) [] (fun pre _ => ∀ r ∈ pre, ¬ T3 ns p q r) () rfl G5 (small_one (by omega) (by omega) (by omega) (by omega)) (n := (6 - (q + 1)).toNat) (rangeSize_nat _ _) F5 (by exact N5) trivial (fun _ hp => nomatch hp) (fun _ hp => nomatch hp) ?_ ?_)
      · intro _ pre5 r tr u5 h6 tk6 own6 hr hlt6 hoff6 _ hpre6 F6 N6
        clear F5 N5 G5
        dsimp only at hpre6 F6 N6 ⊢
        have F6 : Fr s.heap s.heap.objs.size h6 _ := F6
        have N6 : News s.heap s.heap.objs.size h6 _ := N6
        rename Fr s.heap (Env.locals _) _ _ => Fold
        rename News s.heap (Env.locals _) _ _ => Nold
        clear Fold Nold
        have hr6 : q < r ∧ r < 6 := by omega
        k_steps
        · exact ht ⟨p, q, r, by omega, hq6.1, hr6.1, hr6.2, ‹_›, ‹_›⟩ _ _ F6.keep
        · refine Stop.mk (kst_end () F6 N6 (fun x hx => List.mem_append_left _ hx) (fun x hx => List.mem_append_right _ hx) rfl trivial (fun _ hp => nomatch hp) (by intro y h1 _ h3; simp [kstB, h1]) ?_)
          intro x hx
          rcases List.mem_append.mp hx with h | h
          · exact hpre6 x h
          · rw [List.mem_singleton.mp h]
            exact fun q => absurd q.2 (by assumption)
        · refine Stop.mk (kst_end () F6 N6 (fun x hx => List.mem_append_left _ hx) (fun x hx => List.mem_append_right _ hx) rfl trivial (fun _ hp => nomatch hp) (by intro y h1 _ h3; simp [kstB, h1]) ?_)
          intro x hx
          rcases List.mem_append.mp hx with h | h
          · exact hpre6 x h
          · rw [List.mem_singleton.mp h]
            exact fun q => absurd q.1 (by assumption)
      · intro _ u6 h6 tk6 _ hall F6 N6
        k_steps
        refine Stop.mk (kst_end () F6 N6 (fun x hx => List.mem_append_left _ hx) (fun x hx => List.mem_append_right _ hx) rfl trivial (fun _ hp => nomatch hp) (by
          intro y h1 _ h3
          have h4 : y ≠ .ofString "r" := by intro e; subst e; exact absurd h3 (by decide)
          simp [kstB, h1, h4]) ?_)
        intro x hx
        rcases List.mem_append.mp hx with h | h
        · exact hpre4 x h
        · rw [List.mem_singleton.mp h]
          intro r h1 h2
          exact hall r (mem_ks (by omega) (by omega))
    · intro _ u6 h6 tk6 _ hall F6 N6
      k_steps
      refine Stop.mk (kst_end () F6 N6 (fun x hx => nomatch hx) (fun x hx => hx) rfl trivial (fun _ hp => nomatch hp) (by
        intro y h1 _ h3
        have h4 : y ≠ .ofString "r" := by intro e; subst e; exact absurd h3 (by decide)
        have h5 : y ≠ .ofString "q" := by intro e; subst e; exact absurd h3 (by decide)
        simp [kstB, h1, h4, h5]) ?_)
      intro x hx
      rcases List.mem_append.mp hx with h | h
      · exact hpre x h
      · rw [List.mem_singleton.mp h]
        intro q r h1 h2 h3
        exact hall q (mem_ks (by omega) (by omega)) r h2 h3
  · intro _ u h2 tk _ hall F2 N2
    k_steps
    rename Fr _ _ _ _ => F3
    exact hf (fun ⟨p, q, r, h0, h1, h2, h3, h4⟩ => hall p (mem_ks (by omega) (by omega)) q r h1 h2 h3 h4) _ _ F3.keep
end
end Mine
end
/- part W11 -/
section
open PySem PySem.W PySem.Calls PyProof.Rows
set_option maxRecDepth 100000
set_option maxHeartbeats 4000000
set_option linter.unusedVariables false
namespace Mine
section
variable {prog : Program} {w : World} {A : Around} {E : Value → Shared → Prop} {s : Shared} {h₀ : Heap} {L : Addr} {m : Str → Option Value} {news : List (Addr × Obj)}
noncomputable def ch (cs : List Nat) (k : Int) : Nat := cs.getD k.toNat 0
noncomputable def isUp (cs : List Nat) : Bool := !(List.map (fun k' => sgn (ch cs k') (ch cs (k' + 1))) (rangeKs 0 (5 - 0 : Int).toNat)).any fun x => x == 1
theorem item_chars {value slice : PySem.Expr} {l : Addr} {vs : List Value} {cs : List Nat} {k : Int} {u : Tok} {Q : Value → Shared → Prop} (F : Fr h₀ L s.heap m) (hl : h₀.IsList l vs.toArray) (hv : CharsAre vs cs) (hn : cs.length = 6)
    (h0 : 0 ≤ k) (h1 : k < 6) (h : ∀ t, Q (.str ⟨#[ch cs k]⟩ t) s)
    (hs : subscripted slice false (.ref l) (.int k u) = operate [.ref l, .int k u] (getItem (.ref l) (.int k u)) := by with_unfolding_all rfl) :
    wpAny (model prog w) A (subscriptTail value slice (.ref l) (.int k u)) Q E s := by
  have hl' : s.heap.IsList l vs.toArray := hl.at fun o e => F.keep l o e
  have hk : k.toNat < vs.length := by rw [hv.length, hn]; omega
  obtain ⟨t, hx⟩ := hv.get k.toNat (List.getElem?_eq_getElem hk) (c := ch cs k) (by
    unfold ch
    rw [List.getD_eq_getElem?_getD, List.getElem?_eq_getElem (by omega)]
    rfl)
  exact tail_any hl'.typeIs PySem.F.slot_list_getitem.lookup (getItem_listL hl' h0 (by omega) (by rw [List.getElem?_eq_getElem hk, hx]) (h t)) hs
end
section
variable {w : World} {A : Around} {E : Value → Shared → Prop} {s : Shared} {mg mb : Str → Option Value} {mean : ExcName → Option Value} {h₀ : Heap} {L : Addr} {m : Str → Option Value} {news : List (Addr × Obj)} {Q : Value → Shared → Prop}
theorem item_ch {prog : Program} {value slice : PySem.Expr} {l : Addr} {vs : List Value} {cs : List Nat} {k : Int} {u : Tok} (F : Fr h₀ L s.heap m) (h : ∀ t, Q (.str ⟨#[ch cs k]⟩ t) s)
    (hl : h₀.IsList l vs.toArray := by assumption) (hv : CharsAre vs cs := by assumption) (hn : cs.length = 6 := by assumption) (h0 : 0 ≤ k := by first | assumption | omega) (h1 : k < 6 := by first | assumption | omega)
    (hs : subscripted slice false (.ref l) (.int k u) = operate [.ref l, .int k u] (getItem (.ref l) (.int k u)) := by with_unfolding_all rfl) :
    wpAny (model prog w) A (subscriptTail value slice (.ref l) (.int k u)) Q E s := item_chars F hl hv hn h0 h1 h hs
theorem coll_two {a b : Nat} {t1 t2 : Tok} (F : Fr h₀ L s.heap m) (N : News h₀ L s.heap news) (h : ∀ h' n' t, Fr h₀ L h' m → News h₀ L h' news → Q (.int (sgn a b) t) { s with heap := h', toks := n' })
    (hA : Room A := by first | assumption | exact (‹∀ env : Env, Room (Around.deeper _ env)› _)) (KX : (Kd w.params).In h₀ := by assumption) (T : Top Qv L3 mean mg mb h₀ := by assumption) :
    wpAny (model PySem.Challenge.rw_kl0204_01.row.prog w) A (call (.ref 45) [.str ⟨#[a]⟩ t1, .str ⟨#[b]⟩ t2]) Q E s :=
  wpAny_call (strcoll1 hA (Ok.keeps ⟨KX, T⟩ F.keep) fun h' n' t hk => h h' n' t (F.keeps hk) (N.keeps hk))
theorem coll_same {a : Nat} {t1 t2 : Tok} (F : Fr h₀ L s.heap m) (N : News h₀ L s.heap news) (h : ∀ h' n' t, Fr h₀ L h' m → News h₀ L h' news → Q (.int 0 t) { s with heap := h', toks := n' })
    (hA : Room A := by first | assumption | exact (‹∀ env : Env, Room (Around.deeper _ env)› _)) (KX : (Kd w.params).In h₀ := by assumption) (T : Top Qv L3 mean mg mb h₀ := by assumption) :
    wpAny (model PySem.Challenge.rw_kl0204_01.row.prog w) A (call (.ref 45) [.str ⟨#[a]⟩ t1, .str ⟨#[a]⟩ t2]) Q E s :=
  wpAny_call (strcoll_same hA (Ok.keeps ⟨KX, T⟩ F.keep) fun h' n' t hk => h h' n' t (F.keeps hk) (N.keeps hk))
end
local macro_rules | `(tactic| walk_at "subscriptTail") => `(tactic| ((rename Fr _ _ _ _ => fR); (refine item_ch fR ?_); intro _))
local macro_rules | `(tactic| walk_at "eval ListComp") => `(tactic| ((with_reducible show wpAny _ _ (eval (Expr.ListComp (Expr.Name _ _) [⟨_, Expr.BinOp _ _ _ _, _, _⟩] _ _) _) _ _ _); refine unstop ?_))
local macro_rules | `(tactic| walk_at "call ref") => `(tactic| ((rename Fr _ _ _ _ => fU); (rename News _ _ _ _ => nU); (first | (with_reducible refine coll_same fU nU ?_) | refine coll_two fU nU ?_); intro _ _ _ _ _; clear fU nU; (try dsimp only)))
local macro_rules | `(tactic| walk_at "eval Name") => `(tactic| (refine stopName ?_))
section
variable {w : World} {A : Around} {R : Result → Shared → Prop} {s : Shared} {mg mb : Str → Option Value} {mean : ExcName → Option Value}
theorem l_up {l : Addr} {c0 c1 c2 c3 c4 c5 : Nat} {t0 t1 t2 t3 t4 t5 : Tok} {cs : List Nat} (hl : s.heap.IsList l [Value.str ⟨#[c0]⟩ t0, .str ⟨#[c1]⟩ t1, .str ⟨#[c2]⟩ t2, .str ⟨#[c3]⟩ t3, .str ⟨#[c4]⟩ t4, .str ⟨#[c5]⟩ t5].toArray)
    (hcs : cs = [c0, c1, c2, c3, c4, c5]) (hA : Room2 A) (C : Ok w mean mg mb s.heap)
    (h : ∀ h' n', s.heap.StaysIn h' → R (.ok (.ret (.bool (isUp cs)))) { s with heap := h', toks := n' }) :
    codeAny (model PySem.Challenge.rw_kl0204_01.row.prog w) A (.call (.ref 310) ⟨[.ref l], []⟩) R s := by
  obtain ⟨KX, T⟩ := C
  revert KX
  k_fill
  intro KX
  obtain ⟨hd, dp, fr, gd, un⟩ := A
  have hA' := hA
  obtain ⟨hh, hroom, hun⟩ := hA
  dsimp only at hh hroom hun
  subst hh
  have hR : ∀ env : Env, Room (Around.deeper { depth := dp, frames := fr, guards := gd, units := un } env) := fun env => hA'.deeper
  have hv : CharsAre [Value.str ⟨#[c0]⟩ t0, .str ⟨#[c1]⟩ t1, .str ⟨#[c2]⟩ t2, .str ⟨#[c3]⟩ t3, .str ⟨#[c4]⟩ t4, .str ⟨#[c5]⟩ t5] cs := by
    rw [hcs]; exact .cons (.cons (.cons (.cons (.cons (.cons .nil)))))
  have hn : cs.length = 6 := by rw [hcs]; rfl
  refine call_cells_ret (show dp < recursionLimit by omega) (KX 310 _ rfl) (qual := .ofString "_law_is_up") (name := .ofString "_law_is_up") (pm := _) (doc := .none) (cdv := .ref 309) rfl T.nolimit (codeRec_of KX (by kernel_rfl)) (binds := [(.ofString "names", .ref l)]) (BindsTo.of_eq (by rfl)) (by rfl) (by decide +kernel) (fun h₁ tk cells F N Y => ?_)
  k_cells Y
  (try simp only [List.cons_append, List.nil_append] at N)
  k_steps
  rename Fr _ _ _ _ => F2
  rename News _ _ _ _ => N2
  refine Stop.mk (wpAny_ListComp_map (fun _ => false) (fun _ _ => True) rfl (by decide) (by decide) rfl (by decide) (by rfl) (cutL F2 N2 ?_ ?_))
  · k_steps
    exact EndL.mk (by assumption) (by assumption) (by assumption) (by rw [List.length_append, List.length_map]; decide)
  intro D us ks h3 tk3 F3 N3 hi hlen
  clear F2 N2
  refine ⟨_, _, rfl, News.isList N3 (.head _), by rw [List.size_toArray, sizeLine_eq]; omega, ?_, ?_, ?_⟩
  · intro C v s₂ m₂ E' hmem hns hm hk
    obtain ⟨n, t, rfl⟩ : ∃ n t, v = .int n t := by
      have hm2 : v ∈ us := by simpa using hmem
      obtain ⟨i, hi2, rfl⟩ := List.mem_iff_getElem.mp hm2
      obtain ⟨n, t, e, _⟩ := IntsAre.at hi i _ (List.getElem?_eq_getElem hi2)
      exact ⟨n, t, e⟩
    have F4 := F3.keeps hk
    have N4 := N3.keeps hk
    clear F3 N3
    refine wpAny_tests_one ?_
    k_steps
    refine Stop.mk (bname (v := .type "type") T F4.keep (by rfl) ?_)
    k_steps
    refine Stop.mk (lname hns hm ?_)
    k_steps
    refine bname (v := .type "int") T F4.keep (by rfl) ?_
    k_steps
    exact ⟨_, _, rfl, fun _ _ e => e⟩
  · intro C v s₂ m₂ E' hmem hfalse
    cases hfalse
  · intro D2 h4 tk4 ys hD hys hp hk
    have hy0 : ys = #[] := by
      have e : List.filter (fun _ : Value => false) us.toArray.toList = [] := List.filter_eq_nil_iff.mpr fun _ _ h => nomatch h
      rw [e] at hp
      cases hq : ys.toList with
      | nil => exact Array.toList_inj.mp hq
      | cons y r => rw [hq] at hp; cases hp
    subst hy0
    obtain ⟨o2, ho2, hc2, n2, hd2⟩ := hys
    have F4 := F3.keeps hk
    have N4 := N3.keeps hk
    have N5 : News s.heap s.heap.objs.size h4 ((D2, o2) :: (D, listOf us.toArray 0) :: _) := fun p hp => by
      rcases List.mem_cons.mp hp with rfl | hp
      · refine ⟨ho2, fun e => ?_, F3.noneBack hD⟩
        obtain ⟨o, _, _, hL, _⟩ := F3.ns
        rw [← e] at hL
        have := hD.symm.trans hL
        cases this
      · exact N4 p hp
    clear F3 N3 N4
    dsimp only
    k_steps
    rename Fr _ _ _ _ => F6
    rename News _ _ _ _ => N6
    refine ke_ne_ints (xs := []) ⟨o2, (N6 _ (.tail _ (.head _))).1, hc2, n2, hd2⟩ (News.isList N6 (.head _)) .nil .nil (show un + 3 + 64 < _ by omega) ?_
    k_steps
    dsimp only
    rename Fr _ _ _ _ => F7
    exact h _ _ F7.keep
end
end Mine
end
/- part P21 -/
section
open PySem PySem.W PySem.Calls PyProof.Rows
set_option maxRecDepth 100000
set_option linter.unusedVariables false
namespace Mine
section
variable {prog : Program} {w : World} {A : Around} {E : Value → Shared → Prop} {s : Shared} {h₀ : Heap} {L : Addr} {m : Str → Option Value} {news : List (Addr × Obj)}
theorem item_in {P : Int → Prop} {value slice : PySem.Expr} {l : Addr} {vs : List Value} {ns : List Int} {n : Nat} {k : Int} {u : Tok} {Q : Value → Shared → Prop} (N : News h₀ L s.heap news) (hm : (l, listOf vs.toArray n) ∈ news) (hi : IntsAre vs ns) (hP : ∀ x ∈ ns, P x)
    (h0 : 0 ≤ k) (h1 : k < ns.length) (hfit : k < 2 ^ 63) (h : ∀ x t, P x → Q (.int x t) s)
    (hs : subscripted slice false (.ref l) (.int k u) = operate [.ref l, .int k u] (getItem (.ref l) (.int k u)) := by with_unfolding_all rfl) :
    wpAny (model prog w) A (subscriptTail value slice (.ref l) (.int k u)) Q E s := by
  refine item_anyK (News.isList N hm) hi h0 h1 hfit (fun t => h _ t (hP _ ?_)) hs
  have hk : k.toNat < ns.length := by omega
  rw [List.getD_eq_getElem?_getD, List.getElem?_eq_getElem hk]
  exact List.getElem_mem hk
end
noncomputable def c9 (n : Nat) : Bool := inC9 (n : Int)
/-- what a page holds after i turns -/
noncomputable def PageOk (cs : List Nat) (i : Nat) (x : Str) : Prop := x.cps.toList.filter c9 = cs.take i ∧ x.length ≤ 2 * i ∧ ∀ c ∈ x.cps.toList, c < 1114112
noncomputable def besides : List Int := [917504, 917632] ++ List.map id (rangeInts 917506 1 (917536 - 917506 : Int).toNat)
theorem besides_ok : ∀ x ∈ besides, 917504 ≤ x ∧ x ≤ 917632 ∧ inC9 x = false := by decide +kernel
theorem PageOk.zero {cs : List Nat} : PageOk cs 0 ⟨#[]⟩ := ⟨rfl, Nat.le_refl _, fun _ h => nomatch h⟩
theorem PageOk.plain {cs : List Nat} {i : Nat} {x : Str} {c : Nat} (h : PageOk cs i x) (hc : cs[i]? = some c) (h9 : c9 c = true) (hb : c < 1114112) : PageOk cs (i + 1) (x ++ ⟨#[c]⟩) := by
  obtain ⟨h1, h2, h3⟩ := h
  obtain ⟨hi, rfl⟩ := List.getElem?_eq_some_iff.mp hc
  refine ⟨?_, ?_, ?_⟩
  · rw [Str.cps_append, Array.toList_append, List.filter_append, h1, take_snoc cs i hi]
    simp [h9]
  · rw [Str.length_append]
    show x.length + 1 ≤ _
    omega
  · intro c hc
    rw [Str.cps_append, Array.toList_append] at hc
    rcases List.mem_append.mp hc with h | h
    · exact h3 c h
    · rw [List.mem_singleton.mp h]; exact hb
theorem PageOk.beside {cs : List Nat} {i : Nat} {x : Str} {c d : Nat} (h : PageOk cs i x) (hc : cs[i]? = some c) (h9 : c9 c = true) (hb : c < 1114112) (hd : c9 d = false) (hdb : d < 1114112) : PageOk cs (i + 1) (x ++ ⟨#[d]⟩ ++ ⟨#[c]⟩) := by
  obtain ⟨h1, h2, h3⟩ := h
  obtain ⟨hi, rfl⟩ := List.getElem?_eq_some_iff.mp hc
  refine ⟨?_, ?_, ?_⟩
  · rw [Str.cps_append, Array.toList_append, List.filter_append, Str.cps_append, Array.toList_append, List.filter_append, h1, take_snoc cs i hi]
    simp [h9, hd]
  · rw [Str.length_append, Str.length_append]
    show x.length + 1 + 1 ≤ _
    omega
  · intro c hc
    rw [Str.cps_append, Array.toList_append, Str.cps_append, Array.toList_append] at hc
    rcases List.mem_append.mp hc with h | h
    · rcases List.mem_append.mp h with h | h
      · exact h3 c h
      · rw [List.mem_singleton.mp h]; exact hdb
    · rw [List.mem_singleton.mp h]; exact hb
end Mine
end
/- part W13 -/
section
open PySem PySem.W PySem.Calls PyProof.Rows
set_option maxRecDepth 100000
set_option maxHeartbeats 4000000
set_option linter.unusedVariables false
namespace Mine
/-- the text's second statement of the def that makes the reply: its element and its scope -/
noncomputable def repBody : List Stmt := ((PySem.Program.main PySem.Challenge.rw_kl0204_01.row.prog).body.findSome? fun st => match st with
  | .FunctionDef n _ b _ _ _ _ _ _ _ => if n == Str.ofString "_law_reply" then some b else none
  | _ => none).getD []
noncomputable def compOf (st : Stmt) : PySem.Expr × Scope := match st with
  | .Assign _ (.ListComp e _ sc _) _ => (e, sc)
  | _ => (.Constant .none 0 default, default)
noncomputable def flagElt : PySem.Expr := (compOf (repBody.getD 1 (.Pass default))).1
noncomputable def flagScope : Scope := (compOf (repBody.getD 1 (.Pass default))).2
noncomputable def flagOf (p : Int) : Array UInt8 := pickB [#[], #[92, 88, 121]] (p.fmod 2) ++ tagOf p
local macro_rules | `(tactic| walk_at $k:str) => if ["subscriptTail", "call type:bytes", "binaryOp Add bytes bytes"].contains k.getString then `(tactic| (refine unstop ?_)) else Lean.Macro.throwUnsupported
section
variable {w : World} {dp un : Nat} {fr : Option (List Env)} {gd : Option (List Code)} {env0 : Env} {nm : Str} {sc : Scope} {a : Addr} {cd : Value} {s : Shared} {mg mb : Str → Option Value} {mean : ExcName → Option Value} {h₀ : Heap} {L : Addr} {m : Str → Option Value} {I D1 : Addr} {oI oC oD1 : Obj}
  {Q E : Value → Shared → Prop}
theorem flag_elt {C D : Addr} {m' : Str → Option Value} {p : Int} {t : Tok} {ys : List Value} (F : Fr h₀ L s.heap m) (N : News h₀ L s.heap [(I, oI), (C, oC), (D, LCg.lst ys), (D1, oD1)]) (KX : (Kd w.params).In h₀) (T : Top Qv L3 mean mg mb h₀)
    (hC : LCg.NsObj oC m') (hx : m' (Str.ofString "place") = some (.int p t)) (hp : 0 ≤ p ∧ p < 128)
    (h : ∀ h' t' k, Fr h₀ L h' m → News h₀ L h' [(I, oI), (C, oC), (D, LCg.lst ys), (D1, oD1)] → (flagOf p).size ≤ 44 → Q (.bytes (flagOf p) t') { s with heap := h', toks := k }) :
    wpAny (model PySem.Challenge.rw_kl0204_01.row.prog w) (Around.deeper { handled := none, depth := dp, frames := fr, guards := gd, units := un } env0) (eval flagElt (compEnvC flagScope [] C (envOf nm sc L a cd))) Q E s := by
  rw [show flagElt = Expr.BinOp _ _ _ _ from rfl]
  rw [show flagScope = Scope.mk _ _ _ _ _ from rfl]
  revert KX
  k_fill
  intro KX
  k_steps
  rename News _ _ _ _ => nBy
  refine Stop.mk (item_bytes2 nBy (by k_mem) (by repeat constructor) (fmod_lo _ (by decide)) (Int.lt_of_lt_of_le (fmod_hi _ (by decide)) (by decide)) (Int.lt_trans (fmod_hi _ (by decide)) (by decide)) (by decide) ?_ (by with_unfolding_all rfl))
  intro tBy szBy
  try dsimp only
  k_steps
  rename News _ _ _ _ => nBz
  rename Fr _ _ _ _ => fBy
  refine Stop.mk (tagB fBy nBz (by k_mem) (by assumption) rfl ?_)
  intro _ _ _ _ _ szBz
  try dsimp only
  k_steps
  refine Stop.mk (addB (Nat.le_trans (Nat.add_le_add (by assumption : _ ≤ 40) (Nat.le_of_eq (by assumption))) (Nat.le_of_ble_eq_true rfl)) ?_)
  intro _ _
  try dsimp only
  k_steps
  rename Fr _ _ _ _ => F1
  rename News _ _ _ _ => N1
  refine h _ _ _ F1 (fun x hx => N1 x (.tail _ (.tail _ hx))) ?_
  unfold flagOf
  rw [Array.size_append]
  have h1 : (pickB [#[], #[92, 88, 121]] (p.fmod 2)).size ≤ 40 := by assumption
  have h2 : (tagOf p).size = 4 := by assumption
  omega
end
end Mine
end
/- part P22 -/
section
open PySem PySem.W PySem.Calls PyProof.Rows
set_option maxRecDepth 100000
set_option linter.unusedVariables false
namespace Mine
theorem flagOf_size (p : Int) : (flagOf p).size ≤ 7 := by
  unfold flagOf
  rw [Array.size_append, tagOf_size]
  have := pick_size (bs := [#[], #[92, 88, 121]]) (k := p.fmod 2) (n := 3) (by decide)
  omega
noncomputable def whiteOf (lk : Int) : Array UInt8 := pickB [#[32], #[9], #[32, 32], #[13, 10]] ((lk.fdiv 64).fmod 4)
noncomputable def aheadOf (lk : Int) : Array UInt8 := pickB [#[80, 69, 82, 77, 65, 78, 69, 78, 84, 70, 76, 65, 71, 83, 32, 40, 92, 83, 101, 101, 110, 41, 32], #[70, 76, 65, 71, 83, 32, 40, 41, 32], #[]] ((lk.fdiv 256).fmod 3)
noncomputable def behindOf (lk : Int) : Array UInt8 := pickB [#[32, 88, 32, 40, 92, 83, 101, 101, 110, 41, 32, 70, 76, 65, 71, 83, 32, 40, 92, 83, 101, 101, 110], #[32, 88, 32, 40, 92, 83, 101, 101, 110, 41, 13, 10, 70, 76, 65, 71, 83, 32, 40, 92, 83, 101, 101, 110, 41], #[]] ((lk.fdiv 768).fmod 3)
/-- the reply, given the flags as they stand joined -/
noncomputable def replyOf (lk : Int) (j : Array UInt8) : Array UInt8 := #[42, 32, 49, 32, 70, 69, 84, 67, 72, 32, 40] ++ aheadOf lk ++ #[70, 76, 65, 71, 83, 32, 40] ++ j ++ #[41] ++ behindOf lk
noncomputable def six (p0 p1 p2 p3 p4 p5 : Int) : List (Array UInt8) := [flagOf p0, flagOf p1, flagOf p2, flagOf p3, flagOf p4, flagOf p5]
theorem joined_six {sep : Array UInt8} {p0 p1 p2 p3 p4 p5 : Int} (hs : sep.size ≤ 40) : (Builtin.Bytes.joined sep (six p0 p1 p2 p3 p4 p5)).size ≤ 300 := by
  unfold six
  rw [joined6]
  simp only [Array.size_append]
  have h0 := flagOf_size p0; have h1 := flagOf_size p1; have h2 := flagOf_size p2; have h3 := flagOf_size p3; have h4 := flagOf_size p4; have h5 := flagOf_size p5
  omega
section
variable {prog : Program} {w : World} {A : Around} {E : Value → Shared → Prop} {s : Shared} {h₀ : Heap} {L : Addr} {news : List (Addr × Obj)}
theorem call_join6 {l : Addr} {t t0 t1 t2 t3 t4 t5 : Tok} {sep : Array UInt8} {p0 p1 p2 p3 p4 p5 : Int} {Q : Value → Shared → Prop} (N : News h₀ L s.heap news)
    (hm : (l, LCg.lst [Value.bytes (flagOf p0) t0, .bytes (flagOf p1) t1, .bytes (flagOf p2) t2, .bytes (flagOf p3) t3, .bytes (flagOf p4) t4, .bytes (flagOf p5) t5]) ∈ news) (hs : sep.size ≤ 40)
    (h : (Builtin.Bytes.joined sep (six p0 p1 p2 p3 p4 p5)).size ≤ 300 → Q (.bytes (Builtin.Bytes.joined sep (six p0 p1 p2 p3 p4 p5)) s.toks) { s with toks := s.toks + 1 }) :
    wpAny (model prog w) A (call (.builtin "bytes.join") [.bytes sep t, .ref l]) Q E s := by
  have hj := joined_six (sep := sep) (p0 := p0) (p1 := p1) (p2 := p2) (p3 := p3) (p4 := p4) (p5 := p5) hs
  refine call_bjoin (N _ hm).1 rfl rfl (bs := six p0 p1 p2 p3 p4 p5) (.cons (.cons (.cons (.cons (.cons (.cons .nil)))))) (show (6 : Nat) ≠ 1 by decide) ?_ (by omega) (h hj)
  show (List.toArray _).foldl _ _ ≤ _
  unfold six
  simp only [List.foldl_toArray', List.foldl_cons, List.foldl_nil, List.size_toArray, List.length_cons, List.length_nil]
  have h0 := flagOf_size p0; have h1 := flagOf_size p1; have h2 := flagOf_size p2; have h3 := flagOf_size p3; have h4 := flagOf_size p4; have h5 := flagOf_size p5
  omega
theorem call_join0 {l : Addr} {t : Tok} {sep : Array UInt8} {n : Nat} {Q : Value → Shared → Prop} (N : News h₀ L s.heap news) (hm : (l, { cls := .type "list", data := .seq #[] n }) ∈ news) (hs : sep.size ≤ 40)
    (h : Q (.bytes #[] s.toks) { s with toks := s.toks + 1 }) :
    wpAny (model prog w) A (call (.builtin "bytes.join") [.bytes sep t, .ref l]) Q E s := by
  refine call_bjoin (N _ hm).1 rfl rfl (vs := []) (bs := []) .nil (show (0 : Nat) ≠ 1 by decide) ?_ (show (0 : Nat) ≤ 100000 by decide) h
  show sep.size * (0 - 1) ≤ _
  omega
end
end Mine
end
/- part P27 -/
section
open PySem PySem.W PySem.Calls PyProof.Rows
set_option maxRecDepth 100000
set_option linter.unusedVariables false
namespace Mine
theorem pick_or {bs : List (Array UInt8)} {k : Int} : pickB bs k ∈ bs ∨ pickB bs k = #[] := by
  unfold pickB
  rw [List.getD_eq_getElem?_getD]
  cases e : bs[k.toNat]? with
  | none => exact .inr rfl
  | some b => exact .inl (List.mem_of_getElem? e)
theorem pick_all {P : UInt8 → Bool} {bs : List (Array UInt8)} {k : Int} (h : bs.all (fun b => b.toList.all P) = true) : ∀ x ∈ (pickB bs k).toList, P x = true := by
  intro x hx
  rcases pick_or (bs := bs) (k := k) with q | q
  · exact List.all_eq_true.mp (List.all_eq_true.mp h _ q) x hx
  · rw [q] at hx; cases hx
/-- a flag's byte -/
noncomputable def plainB (x : UInt8) : Bool := !Builtin.Bytes.isSpace x && x != 70 && x != 41
theorem white_space (lk : Int) : ∀ x ∈ (whiteOf lk).toList, Builtin.Bytes.isSpace x = true := pick_all (by decide)
theorem space_dull {x : UInt8} (h : Builtin.Bytes.isSpace x = true) : x ≠ 70 ∧ x ≠ 41 := by
  constructor <;> (rintro rfl; revert h; decide)
theorem plain_dull {x : UInt8} (h : plainB x = true) : Builtin.Bytes.isSpace x = false ∧ x ≠ 70 ∧ x ≠ 41 := by
  unfold plainB at h
  simp only [Bool.and_eq_true, Bool.not_eq_true', bne_iff_ne, ne_eq] at h
  exact ⟨h.1.1, h.1.2, h.2⟩
theorem high_plain : ∀ n : Nat, n < 64 → plainB (128 + n).toUInt8 = true := by decide +kernel
theorem tag_plain {p : Int} (hp : 0 ≤ p ∧ p < 128) : ∀ x ∈ (tagOf p).toList, plainB x = true := by
  unfold tagOf byteArr
  have e1 : p.fdiv 64 = p / 64 := Int.fdiv_eq_ediv_of_nonneg _ (by decide)
  have e2 : p.fmod 64 = p % 64 := Int.fmod_eq_emod_of_nonneg _ (by decide)
  rw [e1, e2]
  intro x hx
  simp only [List.map_cons, List.map_nil, List.mem_cons, List.not_mem_nil, or_false] at hx
  rcases hx with rfl | rfl | rfl | rfl
  · decide
  · decide
  · have h1 : (128 + p / 64).toNat = 128 + (p / 64).toNat := by omega
    rw [h1]
    exact high_plain _ (by omega)
  · have h1 : (128 + p % 64).toNat = 128 + (p % 64).toNat := by omega
    rw [h1]
    exact high_plain _ (by omega)
theorem flag_plain {p : Int} (hp : 0 ≤ p ∧ p < 128) : ∀ x ∈ (flagOf p).toList, plainB x = true := by
  unfold flagOf
  intro x hx
  rw [Array.toList_append] at hx
  rcases List.mem_append.mp hx with h | h
  · exact pick_all (P := plainB) (bs := [#[], #[92, 88, 121]]) (by decide) x h
  · exact tag_plain hp x h
theorem flag_ne {p : Int} : (flagOf p).toList ≠ [] := by
  intro e
  have := congrArg List.length e
  unfold flagOf at this
  rw [Array.toList_append, List.length_append] at this
  have h2 : (tagOf p).toList.length = 4 := tagOf_size p
  rw [h2] at this
  simp at this
theorem dull_six' (lk p0 p1 p2 p3 p4 p5 : Int) (h : ∀ p ∈ [p0, p1, p2, p3, p4, p5], 0 ≤ p ∧ p < 128) : ∀ x ∈ (Builtin.Bytes.joined (whiteOf lk) (six p0 p1 p2 p3 p4 p5)).toList, x ≠ 70 ∧ x ≠ 41 := by
  have hw : ∀ x ∈ (whiteOf lk).toList, x ≠ 70 ∧ x ≠ 41 := fun x hx => space_dull (white_space lk x hx)
  have hf : ∀ p ∈ [p0, p1, p2, p3, p4, p5], ∀ x ∈ (flagOf p).toList, x ≠ 70 ∧ x ≠ 41 := fun p hp x hx => (plain_dull (flag_plain (h p hp) x hx)).2
  unfold six
  rw [joined6]
  simp only [Array.toList_append]
  intro x hx
  simp only [List.mem_append] at hx
  simp only [List.forall_mem_cons, List.not_mem_nil, false_implies, implies_true, and_true] at hf
  obtain ⟨f0, f1, f2, f3, f4, f5⟩ := hf
  rcases hx with ((((((((((hx | hx) | hx) | hx) | hx) | hx) | hx) | hx) | hx) | hx) | hx)
  · exact f0 x hx
  · exact hw x hx
  · exact f1 x hx
  · exact hw x hx
  · exact f2 x hx
  · exact hw x hx
  · exact f3 x hx
  · exact hw x hx
  · exact f4 x hx
  · exact hw x hx
  · exact f5 x hx
end Mine
end
/- part P28 -/
section
open PySem PySem.W PySem.Calls PyProof.Rows PySem.Builtin.Bytes
set_option maxRecDepth 100000
set_option linter.unusedVariables false
namespace Mine
/-- nothing, or a space ahead -/
noncomputable def Cut (t : List UInt8) : Prop := t = [] ∨ ∃ c r, t = c :: r ∧ isSpace c = true
theorem drop_space {w t : List UInt8} (h : ∀ x ∈ w, isSpace x = true) : List.dropWhile isSpace (w ++ t) = List.dropWhile isSpace t := by
  induction w with
  | nil => rfl
  | cons a w ih =>
    rw [List.cons_append, List.dropWhile_cons, if_pos (h a (.head _))]
    exact ih fun x hx => h x (.tail _ hx)
theorem take_plain {f t : List UInt8} (h : ∀ x ∈ f, isSpace x = false) (ht : Cut t) : List.takeWhile (fun c => !isSpace c) (f ++ t) = f ∧ List.dropWhile (fun c => !isSpace c) (f ++ t) = t := by
  induction f with
  | nil =>
    rcases ht with rfl | ⟨c, r, rfl, hc⟩
    · exact ⟨rfl, rfl⟩
    · simp [hc]
  | cons a f ih =>
    obtain ⟨h1, h2⟩ := ih fun x hx => h x (.tail _ hx)
    have ha := h a (.head _)
    constructor
    · rw [List.cons_append, List.takeWhile_cons, if_pos (by rw [ha]; rfl), h1]
    · rw [List.cons_append, List.dropWhile_cons, if_pos (by rw [ha]; rfl), h2]
theorem words_step {n l : Nat} {w f t : List UInt8} (hw : ∀ x ∈ w, isSpace x = true) (hf : ∀ x ∈ f, isSpace x = false) (hn : f ≠ []) (ht : Cut t) : words (n + 1) (l + 1) (w ++ (f ++ t)) = f :: words n l t := by
  obtain ⟨h1, h2⟩ := take_plain hf ht
  have e : List.dropWhile isSpace (w ++ (f ++ t)) = f ++ t := by
    rw [drop_space hw]
    cases f with
    | nil => exact absurd rfl hn
    | cons a f => rw [List.cons_append, List.dropWhile_cons, if_neg (by rw [hf a (.head _)]; exact Bool.false_ne_true)]
  rw [words, e]
  cases hft : f ++ t with
  | nil => exact absurd (List.append_eq_nil_iff.mp hft).1 hn
  | cons a r =>
    dsimp only
    rw [if_neg (by simp), ← hft, h1, h2]
    rfl
theorem words_end {n l : Nat} : words n l [] = [] := by cases n <;> rfl
theorem white_ne (lk : Int) : (whiteOf lk).toList ≠ [] := by
  unfold whiteOf
  have h0 : 0 ≤ (lk.fdiv 64).fmod 4 := fmod_lo _ (by decide)
  have h1 : (lk.fdiv 64).fmod 4 < 4 := fmod_hi _ (by decide)
  generalize (lk.fdiv 64).fmod 4 = k at h0 h1
  have hk : k = 0 ∨ k = 1 ∨ k = 2 ∨ k = 3 := by omega
  rcases hk with rfl | rfl | rfl | rfl <;> decide
theorem cut_white (lk : Int) (r : List UInt8) : Cut ((whiteOf lk).toList ++ r) := by
  cases e : (whiteOf lk).toList with
  | nil => exact absurd e (white_ne lk)
  | cons c w =>
    refine .inr ⟨c, w ++ r, rfl, white_space lk c (by rw [e]; exact .head _)⟩
theorem words_six' (lk p0 p1 p2 p3 p4 p5 : Int) (h : ∀ p ∈ [p0, p1, p2, p3, p4, p5], 0 ≤ p ∧ p < 128) (n l : Nat) :
    words (n + 6) (l + 6) (joined (whiteOf lk) (six p0 p1 p2 p3 p4 p5)).toList = (six p0 p1 p2 p3 p4 p5).map Array.toList := by
  have hw := white_space lk
  have hf : ∀ p ∈ [p0, p1, p2, p3, p4, p5], ∀ x ∈ (flagOf p).toList, isSpace x = false := fun p hp x hx => (plain_dull (flag_plain (h p hp) x hx)).1
  simp only [List.forall_mem_cons, List.not_mem_nil, false_implies, implies_true, and_true] at hf
  obtain ⟨f0, f1, f2, f3, f4, f5⟩ := hf
  unfold six
  rw [joined6]
  simp only [Array.toList_append, List.append_assoc]
  have s0 := words_step (n := n + 5) (l := l + 5) (w := []) (t := (whiteOf lk).toList ++ ((flagOf p1).toList ++ ((whiteOf lk).toList ++ ((flagOf p2).toList ++ ((whiteOf lk).toList ++ ((flagOf p3).toList ++ ((whiteOf lk).toList ++ ((flagOf p4).toList ++ ((whiteOf lk).toList ++ (flagOf p5).toList))))))))) (fun _ h => nomatch h) f0 flag_ne (cut_white lk _)
  rw [List.nil_append] at s0
  rw [s0, words_step (n := n + 4) (l := l + 4) hw f1 flag_ne (cut_white lk _), words_step (n := n + 3) (l := l + 3) hw f2 flag_ne (cut_white lk _), words_step (n := n + 2) (l := l + 2) hw f3 flag_ne (cut_white lk _), words_step (n := n + 1) (l := l + 1) hw f4 flag_ne (cut_white lk _)]
  have s5 := words_step (n := n) (l := l) (t := []) hw f5 flag_ne (.inl rfl)
  rw [List.append_nil] at s5
  rw [s5, words_end]
  rfl
end Mine
end
/- part P29 -/
section
open PySem PySem.W PySem.Calls PyProof.Rows
set_option maxRecDepth 100000
set_option linter.unusedVariables false
namespace Mine
theorem getD_app {a b : Array Nat} {i : Nat} (h : i < a.size) : (a ++ b).getD i 0 = a.getD i 0 := by
  rw [Array.getD_eq_getD_getElem?, Array.getD_eq_getD_getElem?, Array.getElem?_append_left h]
theorem tx_app (a b : Array UInt8) : tx (a ++ b) = tx a ++ tx b := Array.map_append ..
theorem rep_no' (r : Array UInt8) (hr : 5 ≤ r.size) (hz : r.size ≤ 99000) : (#[42, 13, 10] ++ r).size ≤ 100000 ∧ 8 ≤ (#[42, 13, 10] ++ r).size ∧ ∀ i, i ≤ row1 (tx (#[42, 13, 10] ++ r)) → hit (tx (#[42, 13, 10] ++ r)) i = false := by
  have hs : (#[42, 13, 10] ++ r : Array UInt8).size = r.size + 3 := by rw [Array.size_append]; show 3 + r.size = _; omega
  refine ⟨by omega, by omega, ?_⟩
  have h3 : tx #[42, 13, 10] = #[42, 13, 10] := by decide +kernel
  have ht : tx (#[42, 13, 10] ++ r) = #[42, 13, 10] ++ tx r := by rw [tx_app, h3]
  have hsz : (#[42, 13, 10] ++ tx r).size = (r.size + 0) + 3 := by rw [Array.size_append, tx_size]; show 3 + r.size = _; omega
  rw [ht]
  have g0 : (#[42, 13, 10] ++ tx r).getD 0 0 = 42 := getD_app (by decide)
  have g1 : (#[42, 13, 10] ++ tx r).getD 1 0 = 13 := getD_app (by decide)
  have g2 : (#[42, 13, 10] ++ tx r).getD 2 0 = 10 := getD_app (by decide)
  have hrow : row1 (#[42, 13, 10] ++ tx r) = 2 := by
    unfold row1
    rw [hsz]
    rw [far, g0, if_pos (by decide), far, g1, if_pos (by decide), far, g2, if_neg (by decide)]
  rw [hrow]
  intro i hi
  have : i = 0 ∨ i = 1 ∨ i = 2 := by omega
  unfold hit wordAt
  rcases this with rfl | rfl | rfl
  · rw [g0]; simp
  · rw [g1]; simp
  · rw [g2]; simp
end Mine
end
/- part W5 -/
section
local macro_rules | `(tactic| walk_at "-") => `(tactic| skip)
open PySem PySem.W PySem.Calls PyProof.Rows
set_option maxRecDepth 100000
set_option maxHeartbeats 4000000
set_option linter.unusedVariables false
namespace Mine
local macro_rules | `(tactic| walk_at $k:str) => if ["getMethod ref", "call builtin:re.Pattern.match", "truthy ref"].contains k.getString then `(tactic| (refine unstop ?_)) else Lean.Macro.throwUnsupported
section
variable {w : World} {A : Around} {R : Result → Shared → Prop} {s : Shared} {mg mb : Str → Option Value} {mean : ExcName → Option Value}
theorem call_match_no {prog : Program} {b : Array UInt8} {t : Tok} {Q E : Value → Shared → Prop} (KX : (Kd w.params).In s.heap) (hl : b.size ≤ 100000) (h8 : 8 ≤ b.size)
    (h2 : ∀ j, j ≤ row1 (tx b) → hit (tx b) j = false) (h : Q .none s) :
    wpAny (model prog w) A (call (.builtin "re.Pattern.match") [.ref 254, .bytes b t]) Q E s := by
  refine wpAny_call (codeAny_call_builtin slot_match.plain entry_match (slot_match.check _ _ _ _ _ _ _ _ ⟨_, KX 254 _ rfl, rfl⟩ (args_match _ _) (body_no KX hl h8 h2 ?_)))
  exact h
theorem call_match_ok {prog : Program} {b : Array UInt8} {t : Tok} {q : Nat} {Q E : Value → Shared → Prop} (KX : (Kd w.params).In s.heap) (hl : b.size ≤ 100000) (h8 : 8 ≤ b.size)
    (hq : hit (tx b) q = true) (h1 : q ≤ row1 (tx b)) (h2 : ∀ j, q < j → j ≤ row1 (tx b) → hit (tx b) j = false)
    (h : Q (.ref (s.heap.objs.size + 1)) { s with heap := (s.heap.push (spanO (q + 7) (q + 7 + cls (tx b) q))).push (matchO b t b.size s.heap.objs.size) }) :
    wpAny (model prog w) A (call (.builtin "re.Pattern.match") [.ref 254, .bytes b t]) Q E s := by
  refine wpAny_call (codeAny_call_builtin slot_match.plain entry_match (slot_match.check _ _ _ _ _ _ _ _ ⟨_, KX 254 _ rfl, rfl⟩ (args_match _ _) (body_ok KX hl h8 hq h1 h2 ?_)))
  exact h
theorem get_match {M : Model} {pl : Sem Bool} {Q : Value × List Value → Shared → Prop} {E : Value → Shared → Prop} (KX : (Kd w.params).In s.heap) (h : Q (.builtin "re.Pattern.match", [.ref 254]) s) :
    wpAny M A (getMethod (.ref 254) (Str.ofString "match") pl) Q E s :=
  getMethod_builtin ⟨_, KX 254 _ rfl, rfl⟩ pa_pattern slot_match type_match (fun a e => by cases e; exact ⟨_, KX 254 _ rfl, rfl⟩) h
theorem parse_no {b : Array UInt8} {t1 : Tok} (hA : Room A) (C : Ok w mean mg mb s.heap) (hl : b.size ≤ 100000) (h8 : 8 ≤ b.size)
    (h2 : ∀ j, j ≤ row1 (tx b) → hit (tx b) j = false)
    (h : ∀ h' n' a, s.heap.StaysIn h' → h'.get? a = some { cls := .type "tuple", data := .seq #[] } → s.heap.get? a = none → R (.ok (.ret (.ref a))) { s with heap := h', toks := n' }) :
    codeAny (model PySem.Challenge.rw_kl0204_01.row.prog w) A (.call (.ref 261) ⟨[.bytes b t1], []⟩) R s := by
  obtain ⟨KX, T⟩ := C
  revert KX
  k_fill
  intro KX
  obtain ⟨hd, dp, fr, gd, un⟩ := A
  obtain ⟨hh, hroom, hun⟩ := hA
  dsimp only at hh hroom hun
  subst hh
  refine call_plain_ret (show dp < recursionLimit by omega) (KX 261 _ rfl) (name := .ofString "ParseFlags") (pm := _) (doc := .none) (cd := .ref 260) rfl T.nolimit (codeRec_of KX (by kernel_rfl)) (binds := [(.ofString "resp", .bytes b t1)]) (by rfl) (locs (by rfl)) (fun h₁ F => ?_)
  have N := news_nil (h₀ := s.heap) (L := s.heap.objs.size) (h := h₁)
  k_steps
  refine get_match (KX.keeps F.keep) ?_
  k_steps
  refine call_match_no (KX.keeps (Fr.keep (by assumption))) hl h8 h2 ?_
  k_steps
  rename News _ _ _ _ => N1
  rename Fr _ _ _ _ => F1
  exact h _ _ _ F1.keep (N1 _ (.head _)).1 (N1 _ (.head _)).2.2
end
end Mine
end
/- part W6 -/
section
open PySem PySem.W PySem.Calls PyProof.Rows
set_option maxRecDepth 100000
set_option maxHeartbeats 4000000
set_option linter.unusedVariables false
namespace Mine
local macro_rules | `(tactic| walk_at $k:str) => if ["getMethod ref", "call builtin:re.Pattern.match", "truthy ref", "call builtin:re.Match.group", "getMethod bytes", "call builtin:bytes.split"].contains k.getString then `(tactic| (refine unstop ?_)) else Lean.Macro.throwUnsupported
section
variable {w : World} {A : Around} {R : Result → Shared → Prop} {s : Shared} {mg mb : Str → Option Value} {mean : ExcName → Option Value}
theorem parse_ok {b : Array UInt8} {t1 : Tok} {q : Nat} {ws : List (List UInt8)} {g : Array UInt8} (hA : Room A) (C : Ok w mean mg mb s.heap) (hl : b.size ≤ 100000) (h8 : 8 ≤ b.size)
    (hq : hit (tx b) q = true) (h1 : q ≤ row1 (tx b)) (h2 : ∀ j, q < j → j ≤ row1 (tx b) → hit (tx b) j = false)
    (hg : b.extract (q + 7) (q + 7 + cls (tx b) q) = g) (hb : (g.isEmpty || g.any Builtin.Bytes.isSpace) = true) (hws : Builtin.Bytes.words (g.size + 1) (g.size + 1) g.toList = ws) (hwl : ws.length ≤ 100) (hz : ∀ x ∈ ws, x.length ≤ 1000)
    (h : ∀ h' n' a k, s.heap.StaysIn h' → h'.get? a = some { cls := .type "tuple", data := .seq (bytesAt ws k).toArray } → s.heap.get? a = none → R (.ok (.ret (.ref a))) { s with heap := h', toks := n' }) :
    codeAny (model PySem.Challenge.rw_kl0204_01.row.prog w) A (.call (.ref 261) ⟨[.bytes b t1], []⟩) R s := by
  subst hg
  obtain ⟨KX, T⟩ := C
  revert KX
  k_fill
  intro KX
  obtain ⟨hd, dp, fr, gd, un⟩ := A
  obtain ⟨hh, hroom, hun⟩ := hA
  dsimp only at hh hroom hun
  subst hh
  refine call_plain_ret (show dp < recursionLimit by omega) (KX 261 _ rfl) (name := .ofString "ParseFlags") (pm := _) (doc := .none) (cd := .ref 260) rfl T.nolimit (codeRec_of KX (by kernel_rfl)) (binds := [(.ofString "resp", .bytes b t1)]) (by rfl) (locs (by rfl)) (fun h₁ F => ?_)
  have N := news_nil (h₀ := s.heap) (L := s.heap.objs.size) (h := h₁)
  k_steps
  refine get_match (KX.keeps F.keep) ?_
  k_steps
  rename News _ _ _ _ => N1
  rename Fr _ _ _ _ => F1
  refine call_match_ok (KX.keeps F1.keep) hl h8 hq h1 h2 ?_
  have F2 := (F1.push (spanO (q + 7) (q + 7 + cls (tx b) q))).push (matchO b t1 b.size h₁.objs.size)
  have N2 := (N1.push F1 (spanO (q + 7) (q + 7 + cls (tx b) q))).push (F1.push (spanO (q + 7) (q + 7 + cls (tx b) q))) (matchO b t1 b.size h₁.objs.size)
  have e : (h₁.push (spanO (q + 7) (q + 7 + cls (tx b) q))).objs.size = h₁.objs.size + 1 := Array.size_push _
  rw [e] at N2
  clear N1 F1
  dsimp only
  generalize (h₁.push (spanO (q + 7) (q + 7 + cls (tx b) q))).push (matchO b t1 b.size h₁.objs.size) = h3 at F2 N2 ⊢
  generalize h₁.objs.size = a1 at N2 ⊢
  k_steps
  rename News _ _ _ _ => N3
  rename Fr _ _ _ _ => F3
  refine truthy_match (N3 _ (.head _)).1 ?_
  k_steps
  rename News _ _ _ _ => N3
  rename Fr _ _ _ _ => F3
  refine get_group (N3 _ (.head _)).1 ?_
  k_steps
  rename News _ _ _ _ => N3
  rename Fr _ _ _ _ => F3
  refine call_group (KX.keeps F3.keep) (N3 _ (.head _)).1 (N3 _ (.tail _ (.head _))).1 (by rw [sizeLine_eq, Array.size_extract]; omega) ?_
  dsimp only
  k_steps
  refine get_bsplit ?_
  k_steps
  refine call_bsplit hb hws hwl (fun x hx => by rw [sizeLine_eq]; have := hz x hx; omega) ?_
  rename News _ _ _ _ => N4
  rename Fr _ _ _ _ => F4
  rename Heap => h4
  dsimp only
  generalize hv : bytesAt ws (_ + 1 + 1 + 1) = vs
  have F5 := F4.push { cls := .type "list", data := .seq vs.toArray }
  have N5 := N4.push F4 { cls := .type "list", data := .seq vs.toArray }
  generalize h4.push { cls := .type "list", data := .seq vs.toArray } = h5 at F5 N5 ⊢
  generalize h4.objs.size = a5 at N5 ⊢
  have hvl : vs.length ≤ 100 := by rw [← hv, bytesAt_len]; exact hwl
  clear F4 N4
  k_steps
  rename News _ _ _ _ => N6
  rename Fr _ _ _ _ => F6
  rw [← hv] at N6
  exact h _ _ _ _ F6.keep (N6 _ (.head _)).1 (N6 _ (.head _)).2.2
end
end Mine
end
/- part P30 -/
section
open PySem PySem.W PySem.Calls PyProof.Rows
set_option maxRecDepth 100000
set_option linter.unusedVariables false
namespace Mine
theorem getD_shift (a b : Array Nat) (i : Nat) : (a ++ b).getD (a.size + i) 0 = b.getD i 0 := by
  rw [Array.getD_eq_getD_getElem?, Array.getD_eq_getD_getElem?, Array.getElem?_append_right (Nat.le_add_right _ _), Nat.add_sub_cancel_left]
theorem far_shift (a b : Array Nat) (f : Nat → Bool) : ∀ (n p : Nat), far (a ++ b) f n (a.size + p) = far b f n p
  | 0, _ => rfl
  | n + 1, p => by
    rw [far, far, getD_shift]
    have := far_shift a b f n (p + 1)
    rw [← Nat.add_assoc] at this
    rw [this]
theorem cls_shift (a b : Array Nat) (i : Nat) : cls (a ++ b) (a.size + i) = cls b i := by
  unfold cls
  have h1 : (a ++ b).size - (a.size + i + 7) = b.size - (i + 7) := by rw [Array.size_append]; omega
  rw [h1, Nat.add_assoc]
  exact far_shift a b _ _ _
theorem hit_shift (a b : Array Nat) (i : Nat) : hit (a ++ b) (a.size + i) = hit b i := by
  unfold hit wordAt
  rw [cls_shift]
  have h1 : decide (a.size + i + 7 ≤ (a ++ b).size) = decide (i + 7 ≤ b.size) := by
    apply decide_eq_decide.mpr
    rw [Array.size_append]; omega
  have h2 : decide (a.size + i + 7 + cls b i < (a ++ b).size) = decide (i + 7 + cls b i < b.size) := by
    apply decide_eq_decide.mpr
    rw [Array.size_append]; omega
  rw [h1, h2]
  simp only [Nat.add_assoc, getD_shift]
/-- no hit where no 'F' stands -/
theorem hit_none {t : Array Nat} {i : Nat} (h : t.getD i 0 ≠ 70) : hit t i = false := by
  unfold hit wordAt
  have e : (t.getD i 0 == 70) = false := beq_eq_false_iff_ne.mpr h
  simp only [e, Bool.and_false, Bool.false_and]
end Mine
end
/- part P31 -/
section
set_option maxRecDepth 100000
namespace Mine
theorem far_eq {t : Array Nat} {f : Nat → Bool} : ∀ (n m p : Nat), m < n → (∀ k, k < m → f (t.getD (p + k) 0) = true) → f (t.getD (p + m) 0) = false → far t f n p = m
  | 0, m, p, h, _, _ => absurd h (Nat.not_lt_zero _)
  | n + 1, 0, p, _, _, h2 => by
    rw [far]
    rw [Nat.add_zero] at h2
    rw [h2, if_neg Bool.false_ne_true]
  | n + 1, m + 1, p, h, h1, h2 => by
    rw [far]
    have h0 := h1 0 (Nat.succ_pos _)
    rw [Nat.add_zero] at h0
    rw [if_pos h0, far_eq n m (p + 1) (Nat.lt_of_succ_lt_succ h) (fun k hk => by rw [Nat.add_right_comm, Nat.add_assoc]; exact h1 (k + 1) (Nat.succ_lt_succ hk)) (by rw [Nat.add_right_comm, Nat.add_assoc]; exact h2)]
theorem far_ge {t : Array Nat} {f : Nat → Bool} : ∀ (n m p : Nat), m ≤ n → (∀ k, k < m → f (t.getD (p + k) 0) = true) → m ≤ far t f n p
  | _, 0, _, _, _ => Nat.zero_le _
  | 0, m + 1, _, h, _ => absurd h (Nat.not_succ_le_zero _)
  | n + 1, m + 1, p, h, h1 => by
    rw [far]
    have h0 := h1 0 (Nat.succ_pos _)
    rw [Nat.add_zero] at h0
    rw [if_pos h0]
    exact Nat.succ_le_succ (far_ge n m (p + 1) (Nat.le_of_succ_le_succ h) (fun k hk => by rw [Nat.add_right_comm, Nat.add_assoc]; exact h1 (k + 1) (Nat.succ_lt_succ hk)))
end Mine
end
/- part P32 -/
section
open PySem PySem.W PySem.Calls PyProof.Rows
set_option maxRecDepth 100000
set_option linter.unusedVariables false
namespace Mine
noncomputable def wordN : Array Nat := #[70, 76, 65, 71, 83, 32, 40]
/-- the word, a dull piece, the ')': matched at its head, the group is the piece -/
theorem piece_cls {x y : Array Nat} (hx : ∀ c ∈ x.toList, c ≠ 41) : cls (wordN ++ (x ++ (#[41] ++ y))) 0 = x.size := by
  unfold cls
  have h1 : (wordN ++ (x ++ (#[41] ++ y))).size - (0 + 7) = (x ++ (#[41] ++ y)).size := by rw [Array.size_append]; show 7 + _ - 7 = _; omega
  rw [h1]
  have e := far_shift wordN (x ++ (#[41] ++ y)) (fun c => c != 41) (x ++ (#[41] ++ y)).size 0
  refine Eq.trans e (far_eq _ x.size 0 ?_ ?_ ?_)
  · rw [Array.size_append, Array.size_append]
    show x.size < x.size + (1 + y.size)
    omega
  · intro k hk
    rw [Nat.zero_add, getD_app hk, Array.getD_eq_getD_getElem?, Array.getElem?_eq_getElem hk]
    exact bne_iff_ne.mpr (hx _ (by rw [Option.getD_some]; exact Array.getElem_mem_toList hk))
  · have := getD_shift x (#[41] ++ y) 0
    rw [Nat.add_zero] at this
    rw [Nat.zero_add, this, getD_app (by decide)]
    decide
theorem piece_hit {x y : Array Nat} (hx : ∀ c ∈ x.toList, c ≠ 41) : hit (wordN ++ (x ++ (#[41] ++ y))) 0 = true := by
  unfold hit
  rw [piece_cls hx]
  have hs : (wordN ++ (x ++ (#[41] ++ y))).size = 7 + (x.size + (1 + y.size)) := by rw [Array.size_append, Array.size_append, Array.size_append]; rfl
  unfold wordAt
  rw [hs]
  have g : ∀ i, i < 7 → (wordN ++ (x ++ (#[41] ++ y))).getD i 0 = wordN.getD i 0 := fun i hi => getD_app hi
  rw [g 0 (by decide), g (0 + 1) (by decide), g (0 + 2) (by decide), g (0 + 3) (by decide), g (0 + 4) (by decide), g (0 + 5) (by decide), g (0 + 6) (by decide)]
  have a1 : decide (0 + 7 ≤ 7 + (x.size + (1 + y.size))) = true := decide_eq_true (by omega)
  have a2 : decide (0 + 7 + x.size < 7 + (x.size + (1 + y.size))) = true := decide_eq_true (by omega)
  rw [a1, a2]
  rfl
end Mine
end
/- part P33 -/
section
open PySem PySem.W PySem.Calls PyProof.Rows
set_option maxRecDepth 100000
set_option linter.unusedVariables false
namespace Mine
/-- behind the matched place: no hit, as long as there is none in the rest -/
theorem piece_tail {x y : Array Nat} {n : Nat} (hx : ∀ c ∈ x.toList, c ≠ 70) (hy : ∀ i, i ≤ n → hit y i = false) : ∀ i, 0 < i → i ≤ 8 + x.size + n → hit (wordN ++ (x ++ (#[41] ++ y))) i = false := by
  intro i h0 h1
  by_cases h7 : i < 7
  · refine hit_none ?_
    rw [getD_app h7]
    have : i = 1 ∨ i = 2 ∨ i = 3 ∨ i = 4 ∨ i = 5 ∨ i = 6 := by omega
    rcases this with rfl | rfl | rfl | rfl | rfl | rfl <;> decide
  · obtain ⟨a, rfl⟩ : ∃ a, i = 7 + a := ⟨i - 7, by omega⟩
    refine (hit_shift wordN (x ++ (#[41] ++ y)) a).trans ?_
    by_cases hax : a < x.size
    · refine hit_none ?_
      rw [getD_app hax, Array.getD_eq_getD_getElem?, Array.getElem?_eq_getElem hax, Option.getD_some]
      exact hx _ (Array.getElem_mem_toList hax)
    · obtain ⟨b, rfl⟩ : ∃ b, a = x.size + b := ⟨a - x.size, by omega⟩
      refine (hit_shift x (#[41] ++ y) b).trans ?_
      cases b with
      | zero => exact hit_none (by rw [getD_app (by decide)]; decide)
      | succ c =>
        have e : c + 1 = (#[41] : Array Nat).size + c := by show c + 1 = 1 + c; omega
        rw [e]
        exact (hit_shift #[41] y c).trans (hy c (by omega))
end Mine
end
/- part P34 -/
section
open PySem PySem.W PySem.Calls PyProof.Rows
set_option maxRecDepth 100000
set_option linter.unusedVariables false
namespace Mine
theorem far_at {t : Array Nat} {f : Nat → Bool} : ∀ (n m p : Nat), f (t.getD (p + m) 0) = false → far t f n p ≤ m
  | 0, m, p, _ => Nat.zero_le _
  | n + 1, 0, p, h => by
    rw [far]
    rw [Nat.add_zero] at h
    rw [h, if_neg Bool.false_ne_true]
    exact Nat.le_refl _
  | n + 1, m + 1, p, h => by
    rw [far]
    split
    · refine Nat.succ_le_succ (far_at n m (p + 1) ?_)
      rw [Nat.add_right_comm, Nat.add_assoc]; exact h
    · exact Nat.zero_le _
theorem far_len {t : Array Nat} {f : Nat → Bool} : ∀ (n p : Nat), far t f n p ≤ n
  | 0, _ => Nat.le_refl _
  | n + 1, p => by
    rw [far]
    split
    · exact Nat.succ_le_succ (far_len n _)
    · exact Nat.zero_le _
theorem rep_front (A X Y : Array Nat) (hA : ∀ k, k < A.size → A.getD k 0 ≠ 10) (hX : ∀ c ∈ X.toList, c ≠ 41 ∧ c ≠ 70)
    {n : Nat} (hY : ∀ i, i ≤ n → hit Y i = false) (hn : n = Y.size ∨ (n < Y.size ∧ Y.getD n 0 = 10)) {t : Array Nat} (ht : t = A ++ (wordN ++ (X ++ (#[41] ++ Y)))) :
    hit t A.size = true ∧ A.size ≤ row1 t ∧ (∀ i, A.size < i → i ≤ row1 t → hit t i = false) ∧ cls t A.size = X.size := by
  have hs : t.size = A.size + (7 + (X.size + (1 + Y.size))) := by rw [ht]; simp only [Array.size_append]; rfl
  refine ⟨?_, ?_, ?_, ?_⟩
  · rw [ht]; exact (hit_shift A _ 0).trans (piece_hit fun c hc => (hX c hc).1)
  · unfold row1
    refine far_ge _ _ _ (by omega) fun k hk => ?_
    rw [Nat.zero_add, ht, getD_app hk]
    exact bne_iff_ne.mpr (hA k hk)
  · intro i h1 h2
    obtain ⟨c, rfl⟩ : ∃ c, i = A.size + c := ⟨i - A.size, by omega⟩
    have hr : row1 t ≤ A.size + (8 + X.size + n) := by
      rcases hn with hn | ⟨hn, h10⟩
      · have := far_len (t := t) (f := fun c => c != 10) t.size 0
        unfold row1
        omega
      · unfold row1
        refine far_at _ _ _ ?_
        have e : 0 + (A.size + (8 + X.size + n)) = A.size + (wordN.size + (X.size + ((#[41] : Array Nat).size + n))) := by
          show 0 + (A.size + (8 + X.size + n)) = A.size + (7 + (X.size + (1 + n))); omega
        rw [e, ht, getD_shift, getD_shift, getD_shift, getD_shift, h10]
        rfl
    rw [ht]
    refine (hit_shift A _ c).trans (piece_tail (fun c hc => (hX c hc).2) hY c (by omega) (by omega))
  · rw [ht]; exact (cls_shift A _ 0).trans (piece_cls fun c hc => (hX c hc).1)
theorem no10 (t : Array Nat) (h : (t.toList.all fun x => x != 10) = true) : ∀ k, k < t.size → t.getD k 0 ≠ 10 := by
  intro k hk
  rw [Array.getD_eq_getD_getElem?, Array.getElem?_eq_getElem hk, Option.getD_some]
  exact bne_iff_ne.mp (List.all_eq_true.mp h _ (Array.getElem_mem_toList hk))
theorem hits_no {Y : Array Nat} : ∀ n, ((List.range (n + 1)).all fun i => !hit Y i) = true → ∀ i, i ≤ n → hit Y i = false := by
  intro n h i hi
  have := List.all_eq_true.mp h i (List.mem_range.mpr (by omega))
  simpa using this
theorem pick_cases {bs : List (Array UInt8)} {k : Int} {n : Nat} (hn : bs.length = n) (hk : 0 ≤ k) (hk2 : k < n) : pickB bs k ∈ bs := by
  unfold pickB
  rw [List.getD_eq_getElem?_getD, List.getElem?_eq_getElem (by omega), Option.getD_some]
  exact List.getElem_mem _
theorem fm_lo (a : Int) {b : Int} (h : 0 < b) : 0 ≤ a.fmod b := Int.fmod_nonneg_of_pos a h
theorem fm_hi (a : Int) {b : Int} (h : 0 < b) : a.fmod b < b := Int.fmod_lt_of_pos a h
theorem ahead_ok (lk : Int) : ∀ k, k < (tx #[42, 32, 49, 32, 70, 69, 84, 67, 72, 32, 40] ++ tx (aheadOf lk)).size → (tx #[42, 32, 49, 32, 70, 69, 84, 67, 72, 32, 40] ++ tx (aheadOf lk)).getD k 0 ≠ 10 := by
  have h := pick_cases (bs := [#[80, 69, 82, 77, 65, 78, 69, 78, 84, 70, 76, 65, 71, 83, 32, 40, 92, 83, 101, 101, 110, 41, 32], #[70, 76, 65, 71, 83, 32, 40, 41, 32], #[]]) (k := (lk.fdiv 256).fmod 3) (n := 3) rfl (fm_lo _ (by decide)) (fm_hi _ (by decide))
  unfold aheadOf
  generalize pickB _ _ = a at h ⊢
  simp only [List.mem_cons, List.not_mem_nil, or_false] at h
  rcases h with rfl | rfl | rfl
  · exact no10 _ (by decide +kernel)
  · exact no10 _ (by decide +kernel)
  · exact no10 _ (by decide +kernel)
theorem behind_ok (lk : Int) : ∃ n, (∀ i, i ≤ n → hit (tx (behindOf lk)) i = false) ∧ (n = (tx (behindOf lk)).size ∨ (n < (tx (behindOf lk)).size ∧ (tx (behindOf lk)).getD n 0 = 10)) := by
  have h := pick_cases (bs := [#[32, 88, 32, 40, 92, 83, 101, 101, 110, 41, 32, 70, 76, 65, 71, 83, 32, 40, 92, 83, 101, 101, 110], #[32, 88, 32, 40, 92, 83, 101, 101, 110, 41, 13, 10, 70, 76, 65, 71, 83, 32, 40, 92, 83, 101, 101, 110, 41], #[]]) (k := (lk.fdiv 768).fmod 3) (n := 3) rfl (fm_lo _ (by decide)) (fm_hi _ (by decide))
  unfold behindOf
  generalize pickB _ _ = a at h ⊢
  simp only [List.mem_cons, List.not_mem_nil, or_false] at h
  rcases h with rfl | rfl | rfl
  · exact ⟨23, hits_no 23 (by decide +kernel), .inl (by decide +kernel)⟩
  · exact ⟨11, hits_no 11 (by decide +kernel), .inr ⟨by decide +kernel, by decide +kernel⟩⟩
  · exact ⟨0, hits_no 0 (by decide +kernel), .inl (by decide +kernel)⟩
theorem cut_mid (P J R : Array UInt8) : (P ++ (J ++ R)).extract P.size (P.size + J.size) = J := by
  apply Array.ext'
  rw [Array.toList_extract, List.extract_eq_take_drop]
  rw [Array.toList_append, Array.toList_append, List.drop_append_of_le_length (by rw [Array.length_toList]; exact Nat.le_refl _)]
  rw [List.drop_of_length_le (by rw [Array.length_toList]; exact Nat.le_refl _), List.nil_append, Nat.add_sub_cancel_left, List.take_append_of_le_length (by rw [Array.length_toList]; exact Nat.le_refl _)]
  exact List.take_of_length_le (by rw [Array.length_toList]; exact Nat.le_refl _)
theorem rep_ok' (lk : Int) {j : Array UInt8} (hj : ∀ x ∈ j.toList, x ≠ 70 ∧ x ≠ 41) : ∃ q, hit (tx (replyOf lk j)) q = true ∧ q ≤ row1 (tx (replyOf lk j)) ∧ (∀ i, q < i → i ≤ row1 (tx (replyOf lk j)) → hit (tx (replyOf lk j)) i = false) ∧ (replyOf lk j).extract (q + 7) (q + 7 + cls (tx (replyOf lk j)) q) = j := by
  obtain ⟨n, hy, hn⟩ := behind_ok lk
  have ht : tx (replyOf lk j) = (tx #[42, 32, 49, 32, 70, 69, 84, 67, 72, 32, 40] ++ tx (aheadOf lk)) ++ (wordN ++ (tx j ++ (#[41] ++ tx (behindOf lk)))) := by
    have e1 : tx #[70, 76, 65, 71, 83, 32, 40] = wordN := by decide +kernel
    have e2 : tx #[41] = #[41] := by decide +kernel
    unfold replyOf
    simp only [tx_app, Array.append_assoc, e1, e2]
  obtain ⟨h1, h2, h3, h4⟩ := rep_front _ (tx j) (tx (behindOf lk)) (ahead_ok lk) (fun c hc => by
    unfold tx at hc
    rw [Array.toList_map] at hc
    obtain ⟨x, hx, rfl⟩ := List.mem_map.mp hc
    have := hj x hx
    refine ⟨fun e => this.2 ?_, fun e => this.1 ?_⟩
    · exact UInt8.toNat.inj e
    · exact UInt8.toNat.inj e) hy hn ht
  refine ⟨_, h1, h2, h3, ?_⟩
  rw [h4]
  have e : replyOf lk j = (#[42, 32, 49, 32, 70, 69, 84, 67, 72, 32, 40] ++ aheadOf lk ++ #[70, 76, 65, 71, 83, 32, 40]) ++ (j ++ (#[41] ++ behindOf lk)) := by
    unfold replyOf
    simp only [Array.append_assoc]
  have hs : (tx #[42, 32, 49, 32, 70, 69, 84, 67, 72, 32, 40] ++ tx (aheadOf lk)).size + 7 = (#[42, 32, 49, 32, 70, 69, 84, 67, 72, 32, 40] ++ aheadOf lk ++ #[70, 76, 65, 71, 83, 32, 40] : Array UInt8).size := by
    simp only [Array.size_append, tx_size, List.size_toArray, List.length_cons, List.length_nil]
  rw [hs, tx_size, e]
  exact cut_mid _ _ _
end Mine
end
/- part P26 -/
section
open PySem PySem.W PySem.Calls PyProof.Rows
set_option maxRecDepth 100000
set_option linter.unusedVariables false
namespace Mine
/-- a text in which the pattern's last match gives j -/
noncomputable def RepOk (b j : Array UInt8) : Prop := b.size ≤ 100000 ∧ 8 ≤ b.size ∧ ∃ q, hit (tx b) q = true ∧ q ≤ row1 (tx b) ∧ (∀ i, q < i → i ≤ row1 (tx b) → hit (tx b) i = false) ∧ b.extract (q + 7) (q + 7 + cls (tx b) q) = j
noncomputable def RepNo (b : Array UInt8) : Prop := b.size ≤ 100000 ∧ 8 ≤ b.size ∧ ∀ i, i ≤ row1 (tx b) → hit (tx b) i = false
/-- no 'F', no ')' -/
noncomputable def Dull (j : Array UInt8) : Prop := j.size ≤ 300 ∧ ∀ x ∈ j.toList, x ≠ 70 ∧ x ≠ 41
theorem reply_size (lk : Int) {j : Array UInt8} (hj : j.size ≤ 300) : 19 ≤ (replyOf lk j).size ∧ (replyOf lk j).size ≤ 500 := by
  have h1 : (aheadOf lk).size ≤ 40 := pick_size (by decide)
  have h2 : (behindOf lk).size ≤ 40 := pick_size (by decide)
  unfold replyOf
  simp only [Array.size_append, List.size_toArray, List.length_cons, List.length_nil]
  omega
theorem rep_ok (lk : Int) {j : Array UInt8} (hj : Dull j) : RepOk (replyOf lk j) j :=
  ⟨by have := reply_size lk hj.1; omega, by have := reply_size lk hj.1; omega, rep_ok' lk hj.2⟩
theorem rep_no (lk : Int) {j : Array UInt8} (hj : Dull j) : RepNo (#[42, 13, 10] ++ replyOf lk j) :=
  rep_no' _ (by have := reply_size lk hj.1; omega) (by have := reply_size lk hj.1; omega)
theorem dull_nil : Dull #[] := ⟨by decide, fun _ h => nomatch h⟩
theorem dull_six (lk p0 p1 p2 p3 p4 p5 : Int) (h : ∀ p ∈ [p0, p1, p2, p3, p4, p5], 0 ≤ p ∧ p < 128) : Dull (Builtin.Bytes.joined (whiteOf lk) (six p0 p1 p2 p3 p4 p5)) :=
  ⟨joined_six (pick_size (by decide)), dull_six' lk p0 p1 p2 p3 p4 p5 h⟩
theorem words_six (lk p0 p1 p2 p3 p4 p5 : Int) (h : ∀ p ∈ [p0, p1, p2, p3, p4, p5], 0 ≤ p ∧ p < 128) :
    let j := Builtin.Bytes.joined (whiteOf lk) (six p0 p1 p2 p3 p4 p5)
    (j.isEmpty || j.any Builtin.Bytes.isSpace) = true ∧ Builtin.Bytes.words (j.size + 1) (j.size + 1) j.toList = (six p0 p1 p2 p3 p4 p5).map Array.toList := by
  intro j
  have hs : 24 ≤ j.size := by
    have hf : ∀ p, 4 ≤ (flagOf p).size := fun p => by unfold flagOf; rw [Array.size_append, tagOf_size]; omega
    have h0 := hf p0; have h1 := hf p1; have h2 := hf p2; have h3 := hf p3; have h4 := hf p4; have h5 := hf p5
    show 24 ≤ (Builtin.Bytes.joined (whiteOf lk) (six p0 p1 p2 p3 p4 p5)).size
    unfold six
    rw [joined6]
    simp only [Array.size_append]
    omega
  refine ⟨?_, ?_⟩
  · rw [Bool.or_eq_true_iff]
    right
    cases e : (whiteOf lk).toList with
    | nil => exact absurd e (white_ne lk)
    | cons c w =>
      have hc := white_space lk c (by rw [e]; exact .head _)
      have hm : c ∈ j.toList := by
        show c ∈ (Builtin.Bytes.joined (whiteOf lk) (six p0 p1 p2 p3 p4 p5)).toList
        unfold six
        rw [joined6]
        simp only [Array.toList_append, List.mem_append]
        have : c ∈ (whiteOf lk).toList := by rw [e]; exact .head _
        simp only [this, true_or, or_true]
      rw [← Array.any_toList]
      exact List.any_eq_true.mpr ⟨c, hm, hc⟩
  · obtain ⟨n, hn⟩ : ∃ n, j.size + 1 = n + 6 := ⟨j.size - 5, by omega⟩
    rw [hn]
    exact words_six' lk p0 p1 p2 p3 p4 p5 h n n
section
variable {w : World} {A : Around} {R : Result → Shared → Prop} {s : Shared} {mg mb : Str → Option Value} {mean : ExcName → Option Value}
theorem parse_rep {b j : Array UInt8} {t1 : Tok} {ws : List (List UInt8)} (hA : Room A) (C : Ok w mean mg mb s.heap) (hr : RepOk b j)
    (hb : (j.isEmpty || j.any Builtin.Bytes.isSpace) = true) (hws : Builtin.Bytes.words (j.size + 1) (j.size + 1) j.toList = ws) (hwl : ws.length ≤ 100) (hz : ∀ x ∈ ws, x.length ≤ 1000)
    (h : ∀ h' n' a k, s.heap.StaysIn h' → h'.get? a = some { cls := .type "tuple", data := .seq (bytesAt ws k).toArray } → s.heap.get? a = none → R (.ok (.ret (.ref a))) { s with heap := h', toks := n' }) :
    codeAny (model PySem.Challenge.rw_kl0204_01.row.prog w) A (.call (.ref 261) ⟨[.bytes b t1], []⟩) R s := by
  obtain ⟨h1, h2, q, h3, h4, h5, h6⟩ := hr
  exact parse_ok hA C h1 h2 h3 h4 h5 h6 hb hws hwl hz h
theorem parse_none {b : Array UInt8} {t1 : Tok} (hA : Room A) (C : Ok w mean mg mb s.heap) (hr : RepNo b)
    (h : ∀ h' n' a, s.heap.StaysIn h' → h'.get? a = some { cls := .type "tuple", data := .seq #[] } → s.heap.get? a = none → R (.ok (.ret (.ref a))) { s with heap := h', toks := n' }) :
    codeAny (model PySem.Challenge.rw_kl0204_01.row.prog w) A (.call (.ref 261) ⟨[.bytes b t1], []⟩) R s := parse_no hA C hr.1 hr.2.1 hr.2.2 h
theorem parse_six {lk p0 p1 p2 p3 p4 p5 : Int} {t1 : Tok} (hA : Room A) (C : Ok w mean mg mb s.heap) (hp : ∀ p ∈ [p0, p1, p2, p3, p4, p5], 0 ≤ p ∧ p < 128)
    (h : ∀ h' n' a k, s.heap.StaysIn h' → h'.get? a = some { cls := .type "tuple", data := .seq #[.bytes (flagOf p0) k, .bytes (flagOf p1) (k + 1), .bytes (flagOf p2) (k + 1 + 1), .bytes (flagOf p3) (k + 1 + 1 + 1), .bytes (flagOf p4) (k + 1 + 1 + 1 + 1), .bytes (flagOf p5) (k + 1 + 1 + 1 + 1 + 1)] } → s.heap.get? a = none → R (.ok (.ret (.ref a))) { s with heap := h', toks := n' }) :
    codeAny (model PySem.Challenge.rw_kl0204_01.row.prog w) A (.call (.ref 261) ⟨[.bytes (replyOf lk (Builtin.Bytes.joined (whiteOf lk) (six p0 p1 p2 p3 p4 p5))) t1], []⟩) R s := by
  obtain ⟨w1, w2⟩ := words_six lk p0 p1 p2 p3 p4 p5 hp
  refine parse_rep hA C (rep_ok lk (dull_six lk p0 p1 p2 p3 p4 p5 hp)) w1 w2 (by unfold six; exact (show (6 : Nat) ≤ 100 by decide)) ?_ fun h' n' a k hk ha hn => ?_
  · intro x hx
    obtain ⟨b, hb, rfl⟩ := List.mem_map.mp hx
    have : b.size ≤ 7 := by
      unfold six at hb
      simp only [List.mem_cons, List.not_mem_nil, or_false] at hb
      rcases hb with rfl | rfl | rfl | rfl | rfl | rfl <;> exact flagOf_size _
    rw [Array.length_toList]
    omega
  · refine h h' n' a k hk ?_ hn
    rw [ha]
    unfold six
    simp only [List.map_cons, List.map_nil, bytesAt, Array.toArray_toList]
end
end Mine
end
/- part W7 -/
section
open PySem PySem.W PySem.Calls PyProof.Rows
set_option maxRecDepth 100000
set_option maxHeartbeats 4000000
set_option linter.unusedVariables false
namespace Mine
theorem pil_C (z : Str) : ∀ st : List Nat, pil (Str.ofString "C." ++ z) st = Str.ofString "C." ++ pil z st
  | [] => rfl
  | c :: st => by
    show pil (Str.ofString "C." ++ z) st ++ Str.ofString "@" ++ ⟨#[c]⟩ = Str.ofString "C." ++ (pil z st ++ Str.ofString "@" ++ ⟨#[c]⟩)
    rw [pil_C z st]
    apply str_ext
    simp only [Str.cps_append, Array.toList_append, List.append_assoc]
theorem pil_at (z : Str) (d : Nat) (st : List Nat) {x : Str} (h : 64 ∉ x.cps.toList) : pil z (d :: st) ≠ x := fun e => by
  subst e
  rw [pil_list] at h
  simp at h
local macro_rules | `(tactic| walk_at $k:str) => if ["call ref", "InvPostN", "binaryOp Add str str", "call builtin:list.append", "pyIter ref"].contains k.getString then `(tactic| (refine unstop ?_)) else Lean.Macro.throwUnsupported
local macro_rules | `(tactic| walk_at "execs cons") => `(tactic| (refine stopIf ?_))
theorem cl1 {a : Str} (h : (a != a) = true) : False := by simp at h
theorem cl2 {a : Str} (h : (a == a) = false) : False := by simp at h
theorem cl3 {g : Str} {d : Nat} {st : List Nat} (h : (pil g (d :: st) == g) = true) : False := pil_ne g d st (eq_of_beq h)
theorem euro_eq (x : Str) : x ++ Str.ofString "@" ++ Str.ofString "euro" = x ++ Str.ofString "@euro" := by
  apply str_ext
  simp only [Str.cps_append, Array.toList_append, List.append_assoc]
  rfl
theorem cl4 {x : Str} (h : (x ++ Str.ofString "@" ++ Str.ofString "euro" != x ++ Str.ofString "@euro") = true) : False := by rw [euro_eq] at h; exact cl1 h
local macro_rules | `(tactic| walk_at "execs cons") => `(tactic| (refine stopWhile ?_))
structure OS where
  st : List Nat
  out : List Nat
  tp : Tok
  us : List Value
  k : Nat
noncomputable def EndC (s : Shared) (h₀ : Heap) (L : Addr) (mk : OS → Str → Option Value) (led : OS → List (Addr × Obj)) (G : OS → Prop) (f : Flow) (s' : Shared) : Prop :=
  f = .next ∧ ∃ c h tk, s' = { s with heap := h, toks := tk } ∧ Fr h₀ L h (mk c) ∧ News h₀ L h (led c) ∧ G c
theorem EndC.mk {s : Shared} {h₀ : Heap} {L : Addr} {m : OS → Str → Option Value} {led : OS → List (Addr × Obj)} {G : OS → Prop} {h : Heap} {tk : Nat} (c : OS) (F : Fr h₀ L h (m c)) (N : News h₀ L h (led c)) (g : G c) :
    EndC s h₀ L m led G .next { s with heap := h, toks := tk } := ⟨rfl, c, h, tk, rfl, F, N, g⟩
theorem cutC {s : Shared} {h₀ : Heap} {L : Addr} {t : Sem Flow} {Q : Flow → Shared → Prop} {M : Model} {A : Around} {E : Value → Shared → Prop} {h : Heap} {tk : Nat} {m₀ : Str → Option Value} (F : Fr h₀ L h m₀) (ps : OS → List (Str × Value)) (led : OS → List (Addr × Obj)) (G : OS → Prop)
    (h1 : wpAny M A t (fun f s' => EndC s h₀ L (fun c => kstB m₀ (ps c)) led G f s') E { s with heap := h, toks := tk })
    (h2 : ∀ c h tk, Fr h₀ L h (kstB m₀ (ps c)) → News h₀ L h (led c) → G c → Q .next { s with heap := h, toks := tk }) : wpAny M A t Q E { s with heap := h, toks := tk } := by
  refine wpAny_mono h1 (fun f s' p => ?_) fun _ _ x => x
  obtain ⟨rfl, c, h, tk, rfl, F, N, g⟩ := p
  exact h2 c h tk F N g
theorem popS_nil (c : Nat) (out : List Nat) : popS c [] out = ([], out) := rfl
theorem popS_lt {c d : Nat} {st out : List Nat} (h : d < c) : popS c (d :: st) out = popS c st (out ++ [d]) := by rw [popS, if_pos h]
theorem popS_ge {c d : Nat} {st out : List Nat} (h : ¬ d < c) : popS c (d :: st) out = (d :: st, out) := by rw [popS, if_neg h]
local macro_rules | `(tactic| walk_at "subscriptTail") => `(tactic| (refine stopText ?_))
section
variable {w : World} {A : Around} {R : Result → Shared → Prop} {s : Shared} {mg mb : Str → Option Value} {mean : ExcName → Option Value}
theorem am_nil {z : Str} {t1 t2 : Tok} (hA : Room A) (C : Ok w mean mg mb s.heap) (hz : z = .ofString "ISO8859-15" ∨ z = .ofString "UTF-8")
    (h : ∀ h' n' t, s.heap.StaysIn h' → R (.ok (.ret (.str (.ofString "C." ++ z) t))) { s with heap := h', toks := n' }) :
    codeAny (model PySem.Challenge.rw_kl0204_01.row.prog w) A (.call (.ref 59) ⟨[.str (.ofString "C." ++ z) t1, .str (.ofString "euro") t2], []⟩) R s := by
  refine am_euro hA C ?_ ?_ fun h' n' t hk => ?_
  · rcases hz with rfl | rfl <;> decide
  · rcases hz with rfl | rfl <;> decide
  · rw [if_pos hz]
    exact h h' n' t hk
theorem am_cons {z : Str} {d : Nat} {st : List Nat} {t1 t2 : Tok} (hA : Room A) (C : Ok w mean mg mb s.heap) (hl : (pil z (d :: st)).length ≤ 100)
    (h : ∀ h' n' t, s.heap.StaysIn h' → R (.ok (.ret (.str (pil (.ofString "C." ++ z) (d :: st) ++ .ofString "@" ++ .ofString "euro") t))) { s with heap := h', toks := n' }) :
    codeAny (model PySem.Challenge.rw_kl0204_01.row.prog w) A (.call (.ref 59) ⟨[.str (pil (.ofString "C." ++ z) (d :: st)) t1, .str (.ofString "euro") t2], []⟩) R s := by
  rw [pil_C] at h ⊢
  refine am_euro hA C (pil_at z d st (by decide)) hl fun h' n' t hk => ?_
  have e : ¬ (pil z (d :: st) = Str.ofString "ISO8859-15" ∨ pil z (d :: st) = Str.ofString "UTF-8") := fun q => q.elim (pil_at z d st (by decide)) (pil_at z d st (by decide))
  rw [if_neg e]
  exact h h' n' t hk
theorem run_len : ∀ (cs : List Nat) (p : List Nat × List Nat), (cs.foldl stepS p).1.length + (cs.foldl stepS p).2.length = p.1.length + p.2.length + cs.length
  | [], p => rfl
  | c :: cs, p => by
    rw [List.foldl_cons, run_len cs]
    have : ∀ (st out : List Nat), (popS c st out).1.length + (popS c st out).2.length = st.length + out.length := by
      intro st
      induction st with
      | nil => intro out; rfl
      | cons d st ih =>
        intro out
        unfold popS
        split
        · rw [ih, List.length_append, List.length_cons, List.length_cons, List.length_nil]; omega
        · rfl
    have h2 := this p.1 p.2
    unfold stepS
    simp only [List.length_cons]
    omega
theorem l_over {l : Addr} {vs : List Value} {cs : List Nat} {z : Str} {tg : Tok} (hl : s.heap.IsList l vs.toArray) (hv : CharsAre vs cs) (hcl : cs.length ≤ 10)
    (hz : z = .ofString "ISO8859-15" ∨ z = .ofString "UTF-8") (hA : Room2 A) (C : Ok w mean mg mb s.heap)
    (h : ∀ h' n' a us k, s.heap.StaysIn h' → h'.get? a = some (listOf us.toArray k) → CharsAre us (sortS cs) → s.heap.get? a = none → R (.ok (.ret (.ref a))) { s with heap := h', toks := n' }) :
    codeAny (model PySem.Challenge.rw_kl0204_01.row.prog w) A (.call (.ref 305) ⟨[.ref l, .str (.ofString "C." ++ z) tg], []⟩) R s := by
  obtain ⟨KX, T⟩ := C
  revert KX
  k_fill
  intro KX
  obtain ⟨hd, dp, fr, gd, un⟩ := A
  have hA' := hA
  obtain ⟨hh, hroom, hun⟩ := hA
  dsimp only at hh hroom hun
  subst hh
  refine call_plain_ret (show dp < recursionLimit by omega) (KX 305 _ rfl) (name := .ofString "_law_over") (pm := _) (doc := .none) (cd := .ref 304) rfl T.nolimit (codeRec_of KX (by kernel_rfl)) (binds := [(.ofString "names", .ref l), (.ofString "ground", .str (.ofString "C." ++ z) tg)]) (by rfl) (locs (by rfl)) (fun h₁ F => ?_)
  have N := news_nil (h₀ := s.heap) (L := s.heap.objs.size) (h := h₁)
  k_steps
  rename Fr _ _ _ _ => F1
  rename News _ _ _ _ => N1
  refine For_invVF F1 rfl rfl ?_
  k_steps
  rename Fr _ _ _ _ => F1
  rename News _ _ _ _ => N1
  rename_i ha D hb l1 hc
  refine kst_vals (σ := OS) (ns := cs.map Int.ofNat) (fun c => [(D, listOf c.us.toArray c.k)]) (fun c => [(.ofString "pile", .str (pil (.ofString "C." ++ z) c.st) c.tp)]) (fun c => CharsAre c.us c.out) [] (fun pre c => runS (pre.map Int.toNat) = (c.st, c.out)) ⟨[], [], tg, [], 0⟩ rfl hl (by rw [List.length_map, hv.length]) (by exact F1) (by exact N1) .nil (by kst_all) rfl ?_ ?_
  · rintro ⟨st, out, tp, us, k⟩ i v n u h2 tk own hvi hni hoff hch hrun F2 N2
    dsimp only at hch hrun F2 N2 ⊢
    clear F1 N1
    have F2 : Fr s.heap s.heap.objs.size h2 _ := F2
    have N2 : News s.heap s.heap.objs.size h2 _ := N2
    rename Fr s.heap (Env.locals _) _ _ => Fold
    rename News s.heap (Env.locals _) _ _ => Nold
    clear Fold Nold
    obtain ⟨cc, hcc, rfl⟩ : ∃ cc, cs[i]? = some cc ∧ n = Int.ofNat cc := by
      rw [List.getElem?_map] at hni
      cases e : cs[i]? with
      | none => rw [e] at hni; cases hni
      | some c => rw [e] at hni; cases hni; exact ⟨c, rfl, rfl⟩
    obtain ⟨tv, rfl⟩ := hv.get i hvi hcc
    have hlen : st.length + out.length ≤ 10 := by
      have h1 := run_len (List.map Int.toNat (List.take i (List.map Int.ofNat cs))) ([], [])
      have h2 : (List.map Int.toNat (List.take i (List.map Int.ofNat cs))).length ≤ cs.length := by
        rw [List.length_map, List.length_take, List.length_map]; omega
      unfold runS at hrun
      rw [hrun] at h1
      simp only [List.length_nil] at h1
      omega
    have hzl : z.length ≤ 20 := by rcases hz with rfl | rfl <;> decide
    k_steps
    refine Stop.mk (wpAny_execs_cons (cut_next F2 N2 ?_ ?_))
    · cases st with
      | nil =>
        dsimp only [pil] at F2
        k_steps
        refine Stop.mk (wpAny_call (am_nil hA'.deeper (Ok.keeps ⟨KX, T⟩ F2.keep) hz fun h' n' t hk => ?_))
        have F3 := F2.keeps hk
        have N3 := N2.keeps hk
        clear F2 N2
        dsimp only
        k_steps
        all_goals (try dsimp only)
        k_steps
        all_goals first
          | exact EndNext.mk (by assumption) (by assumption)
          | exact (cl1 (by assumption)).elim
          | exact (cl2 (by assumption)).elim
      | cons d st =>
        k_steps
        refine Stop.mk (wpAny_call (am_cons hA'.deeper (Ok.keeps ⟨KX, T⟩ F2.keep) (by rw [pil_len]; simp only [List.length_cons] at hlen ⊢; omega) fun h' n' t hk => ?_))
        have F3 := F2.keeps hk
        have N3 := N2.keeps hk
        clear F2 N2
        dsimp only
        k_steps
        all_goals (try dsimp only)
        k_steps
        all_goals first
          | exact EndNext.mk (by assumption) (by assumption)
          | exact (cl3 (by assumption)).elim
          | skip
        refine PyProof.Rows.add_str (fun t' tk => ?_) (by rw [sizeLine_eq]; have := pil_len (Str.ofString "C." ++ z) (d :: st); rw [Str.length_append] at this; have e : (Str.ofString "C.").length = 2 := rfl; have e2 : (Str.ofString "@euro").length = 5 := rfl; simp only [List.length_cons] at this hlen; omega)
        k_steps
        all_goals first
          | exact EndNext.mk (by assumption) (by assumption)
          | exact (cl4 (by assumption)).elim
          | skip
    · intro h3 tk3 F3 N3
      clear F2 N2
      dsimp only
      k_steps
      refine Stop.mk (wpAny_execs_cons (cutC F3 (fun c => [(.ofString "pile", .str (pil (.ofString "C." ++ z) c.st) c.tp)]) (fun c => [(D, listOf c.us.toArray c.k)] ++ own) (fun c => popS cc st out = (c.st, c.out) ∧ CharsAre c.us c.out ∧ c.st.length + c.out.length ≤ 10) ?_ ?_))
      · refine ksw_while (σ := OS) (fun c => [(D, listOf c.us.toArray c.k)] ++ own) (fun c => [(.ofString "pile", .str (pil (.ofString "C." ++ z) c.st) c.tp)]) (fun c => CharsAre c.us c.out) [] (fun c => popS cc c.st c.out = popS cc st out ∧ c.st.length + c.out.length ≤ 10) (fun c => c.st.length) ⟨st, out, tp, us, k⟩ F3 N3 hch (by kst_all) ⟨rfl, hlen⟩ ?_
        rintro ⟨st4, out4, tp4, us4, k4⟩ u4 h4 tk4 hch4 ⟨hp4, hl4⟩ F4 N4
        dsimp only at hch4 hp4 hl4 F4 N4 ⊢
        clear F3 N3
        have hpl : (pil (Str.ofString "C." ++ z) st4).length ≤ 100 := by
          rw [pil_len, Str.length_append]
          have e : (Str.ofString "C.").length = 2 := rfl
          omega
        cases st4 with
        | nil =>
          k_steps
          · exact (cl1 (by assumption)).elim
          · exact EndC.mk ⟨[], out4, tp4, us4, k4⟩ (by with_unfolding_all assumption) (by assumption) ⟨hp4.symm, hch4, hl4⟩
        | cons d st4 =>
          k_steps
          rotate_left
          · exact absurd (by assumption) (fun q => by simp [pil_ne] at q)
          refine item_last (by omega) ?_
          dsimp only
          k_steps
          rename Fr _ _ _ _ => F6
          rename News _ _ _ _ => N6
          refine Stop.mk (wpAny_call (strcoll1 hA'.deeper (Ok.keeps ⟨KX, T⟩ F6.keep) fun h' n' t hk => ?_))
          have F7 := F6.keeps hk
          have N7 := N6.keeps hk
          clear F6 N6
          dsimp only
          by_cases hlt : d < cc
          · rw [show sgn d cc = -1 from if_pos hlt]
            k_steps
            all_goals (try dsimp only)
            refine item_last (by omega) ?_
            dsimp only
            k_steps
            rename Fr _ _ _ _ => F8
            rename News _ _ _ _ => N8
            have hus : us4.length ≤ 10 := by rw [hch4.length]; omega
            refine append_K F8 N8 (.head fun p hp => hoff p hp D (.head _)) (fun h9 F9 N9 => ?_) (by rw [List.size_toArray, sizeLine_eq]; omega)
            rw [List.push_toArray] at N9
            clear F8 N8
            dsimp only
            k_steps
            rename Fr _ _ _ _ => F10
            rename News _ _ _ _ => N10
            simp only [pil_slice] at F10
            refine ksw_end ⟨st4, out4 ++ [d], _, us4 ++ [.str ⟨#[d]⟩ _], k4 + 1⟩ F10 N10 (by kst_in) (hch4.append (.cons .nil)) (by kst_all) (by intro y h2 h3; have h4 : y ≠ .ofString "pile" := h2 _ (.head _); simp [kstB, h4]) ?_ ?_
            · exact ⟨(popS_lt hlt).symm.trans hp4, by simp only [List.length_append, List.length_cons, List.length_nil] at hl4 ⊢; omega⟩
            · show st4.length < (d :: st4).length
              rw [List.length_cons]; omega
          · have hs2 : sgn d cc = 0 ∨ sgn d cc = 1 := by
              unfold sgn
              rw [if_neg hlt]
              by_cases h2 : cc < d
              · rw [if_pos h2]; exact .inr rfl
              · rw [if_neg h2]; exact .inl rfl
            have hg2 : popS cc st out = (d :: st4, out4) := hp4.symm.trans (popS_ge hlt)
            rcases hs2 with e2 | e2
            · rw [e2]
              k_steps
              exact EndC.mk ⟨d :: st4, out4, tp4, us4, k4⟩ (by with_unfolding_all assumption) (by assumption) ⟨hg2, hch4, hl4⟩
            · rw [e2]
              k_steps
              exact EndC.mk ⟨d :: st4, out4, tp4, us4, k4⟩ (by with_unfolding_all assumption) (by assumption) ⟨hg2, hch4, hl4⟩
      · intro c h5 tk5 F5 N5 ⟨hg, hch5, hl5⟩
        obtain ⟨st5, out5, tp5, us5, k5⟩ := c
        dsimp only at hg hch5 hl5 F5 N5 ⊢
        clear F3 N3
        k_steps
        rename Fr _ _ _ _ => F6
        rename News _ _ _ _ => N6
        have hcz : (⟨#[cc]⟩ : Str) ≠ .ofString "euro" := fun e => by
          have q := congrArg Str.length e
          exact absurd (show (1 : Nat) = 4 from q) (by decide)
        refine Stop.mk (wpAny_call (am_name hA'.deeper (Ok.keeps ⟨KX, T⟩ F6.keep) hcz ?_ (show 1 ≤ 100 by decide) fun h' n' t hk => ?_))
        · rw [pil_len, Str.length_append]
          have e : (Str.ofString "C.").length = 2 := rfl
          omega
        have F7 := F6.keeps hk
        have N7 := N6.keeps hk
        clear F6 N6
        dsimp only
        k_steps
        rename Fr _ _ _ _ => F8
        rename News _ _ _ _ => N8
        refine Stop.mk (kst_end ⟨cc :: st5, out5, t, us5, k5⟩ F8 N8 (by kst_in) (by intro p hp; kst_mem) rfl hch5 (by kst_all) (by intro y h1 h2 h3; have h4 : y ≠ .ofString "pile" := h2 _ (.head _); simp [kstB, h1, h4]) ?_)
        dsimp only
        rw [List.map_append]
        show List.foldl stepS ([], []) (_ ++ [cc]) = _
        rw [List.foldl_append]
        unfold runS at hrun
        rw [hrun]
        show (cc :: (popS cc st out).1, (popS cc st out).2) = _
        rw [hg]
  · rintro ⟨st, out, tp, us, k⟩ u h2 tk hch hrun F2 N2
    dsimp only at hch hrun F2 N2 ⊢
    clear F1 N1
    have F2 : Fr s.heap s.heap.objs.size h2 _ := F2
    have N2 : News s.heap s.heap.objs.size h2 _ := N2
    rename Fr s.heap (Env.locals _) _ _ => Fold
    rename News s.heap (Env.locals _) _ _ => Nold
    clear Fold Nold
    have hmap : List.map Int.toNat (List.map Int.ofNat cs) = cs := by
      rw [List.map_map]
      exact List.map_id'' (fun _ => rfl) cs
    rw [hmap] at hrun
    have hlen : st.length + out.length ≤ 10 := by
      have h1 := run_len cs ([], [])
      unfold runS at hrun
      rw [hrun] at h1
      simp only [List.length_nil] at h1
      omega
    have hzl : z.length ≤ 20 := by rcases hz with rfl | rfl <;> decide
    have hsort : sortS cs = out ++ st := by unfold sortS; rw [hrun]
    k_steps
    rename Fr _ _ _ _ => F3
    rename News _ _ _ _ => N3
    refine Stop.mk (wpAny_execs_cons (cutC F3 (fun c => [(.ofString "pile", .str (pil (.ofString "C." ++ z) c.st) c.tp)]) (fun c => [(D, listOf c.us.toArray c.k)]) (fun c => c.out = out ++ st ∧ CharsAre c.us c.out) ?_ ?_))
    · refine ksw_while (σ := OS) (fun c => [(D, listOf c.us.toArray c.k)]) (fun c => [(.ofString "pile", .str (pil (.ofString "C." ++ z) c.st) c.tp)]) (fun c => CharsAre c.us c.out) [] (fun c => c.out ++ c.st = out ++ st ∧ c.st.length + c.out.length ≤ 10) (fun c => c.st.length) ⟨st, out, tp, us, k⟩ F3 N3 hch (by kst_all) ⟨rfl, hlen⟩ ?_
      rintro ⟨st4, out4, tp4, us4, k4⟩ u4 h4 tk4 hch4 ⟨hp4, hl4⟩ F4 N4
      dsimp only at hch4 hp4 hl4 F4 N4 ⊢
      clear F3 N3
      have hpl : (pil (Str.ofString "C." ++ z) st4).length ≤ 100 := by
        rw [pil_len, Str.length_append]
        have e : (Str.ofString "C.").length = 2 := rfl
        omega
      cases st4 with
      | nil =>
        k_steps
        · exact (cl1 (by assumption)).elim
        · exact EndC.mk ⟨[], out4, tp4, us4, k4⟩ (by with_unfolding_all assumption) (by assumption) ⟨by rw [← hp4, List.append_nil], hch4⟩
      | cons d st4 =>
        k_steps
        rotate_left
        · exact absurd (by assumption) (fun q => by simp [pil_ne] at q)
        all_goals (try dsimp only)
        refine item_last (by omega) ?_
        dsimp only
        k_steps
        rename Fr _ _ _ _ => F8
        rename News _ _ _ _ => N8
        have hus : us4.length ≤ 10 := by rw [hch4.length]; omega
        refine append_K F8 N8 (.head fun p hp => nomatch hp) (fun h9 F9 N9 => ?_) (by rw [List.size_toArray, sizeLine_eq]; omega)
        rw [List.push_toArray] at N9
        clear F8 N8
        dsimp only
        k_steps
        rename Fr _ _ _ _ => F10
        rename News _ _ _ _ => N10
        simp only [pil_slice] at F10
        refine ksw_end ⟨st4, out4 ++ [d], _, us4 ++ [.str ⟨#[d]⟩ _], k4 + 1⟩ F10 N10 (by kst_in) (hch4.append (.cons .nil)) (by kst_all) (by intro y h2 h3; have h4 : y ≠ .ofString "pile" := h2 _ (.head _); simp [kstB, h4]) ?_ ?_
        · exact ⟨by dsimp only; rw [← hp4, List.append_assoc]; rfl, by simp only [List.length_append, List.length_cons, List.length_nil] at hl4 ⊢; omega⟩
        · show st4.length < (d :: st4).length
          rw [List.length_cons]; omega
    · intro c h5 tk5 F5 N5 ⟨hg, hch5⟩
      obtain ⟨st5, out5, tp5, us5, k5⟩ := c
      dsimp only at hg hch5 F5 N5 ⊢
      clear F3 N3
      k_steps
      rename Fr _ _ _ _ => F6
      rename News _ _ _ _ => N6
      subst hg
      exact h _ _ _ _ _ F6.keep (N6 _ (.head _)).1 (by rw [hsort]; exact hch5) (N6 _ (.head _)).2.2
end
end Mine
end
/- part P25 -/
section
open PySem PySem.W PySem.Calls PyProof.Rows
set_option maxRecDepth 100000
set_option linter.unusedVariables false
namespace Mine
section
variable {prog : Program} {w : World} {A : Around} {E : Value → Shared → Prop} {s : Shared} {h₀ : Heap} {L : Addr} {news : List (Addr × Obj)}
/-- one of two texts -/
noncomputable def twoS (x0 x1 : Str) (k : Int) : Str := if k = 0 then x0 else x1
theorem item_two {value slice : PySem.Expr} {l : Addr} {x0 x1 : Str} {t0 t1 : Tok} {n : Nat} {k : Int} {u : Tok} {Q : Value → Shared → Prop} (N : News h₀ L s.heap news) (hm : (l, listOf #[.str x0 t0, .str x1 t1] n) ∈ news)
    (h0 : 0 ≤ k) (h1 : k < 2) (h : ∀ t, Q (.str (twoS x0 x1 k) t) s)
    (hs : subscripted slice false (.ref l) (.int k u) = operate [.ref l, .int k u] (getItem (.ref l) (.int k u)) := by with_unfolding_all rfl) :
    wpAny (model prog w) A (subscriptTail value slice (.ref l) (.int k u)) Q E s := by
  have hl : s.heap.IsList l [Value.str x0 t0, .str x1 t1].toArray := News.isList N hm
  have hk : k = 0 ∨ k = 1 := by omega
  rcases hk with rfl | rfl
  · exact tail_any hl.typeIs PySem.F.slot_list_getitem.lookup (getItem_listL hl (by decide) (by decide) rfl (h t0)) hs
  · exact tail_any hl.typeIs PySem.F.slot_list_getitem.lookup (getItem_listL hl (by decide) (by decide) rfl (h t1)) hs
variable {R : Result → Shared → Prop} {mg mb : Str → Option Value} {mean : ExcName → Option Value}
theorem am_two {k : Int} {t1 t2 : Tok} (hA : Room A) (C : Ok w mean mg mb s.heap)
    (h : ∀ h' n' t, s.heap.StaysIn h' → R (.ok (.ret (.str (twoS (.ofString "C.ISO8859-15") (.ofString "C.UTF-8") k) t))) { s with heap := h', toks := n' }) :
    codeAny (model PySem.Challenge.rw_kl0204_01.row.prog w) A (.call (.ref 59) ⟨[.str (twoS (.ofString "C") (.ofString "C.UTF-8") k) t1, .str (.ofString "euro") t2], []⟩) R s := by
  unfold twoS at h ⊢
  by_cases hk : k = 0
  · rw [if_pos hk] at h ⊢
    exact am_C hA C h
  · rw [if_neg hk] at h ⊢
    have e : Str.ofString "C.UTF-8" = Str.ofString "C." ++ Str.ofString "UTF-8" := by decide +kernel
    rw [e] at h ⊢
    exact am_nil hA C (.inr rfl) h
theorem two_ground (k : Int) : ∃ z : Str, (z = .ofString "ISO8859-15" ∨ z = .ofString "UTF-8") ∧ twoS (.ofString "C.ISO8859-15") (.ofString "C.UTF-8") k = .ofString "C." ++ z := by
  unfold twoS
  by_cases hk : k = 0
  · rw [if_pos hk]; exact ⟨_, .inl rfl, by decide +kernel⟩
  · rw [if_neg hk]; exact ⟨_, .inr rfl, by decide +kernel⟩
end
end Mine
end
/- part P24 -/
section
open PySem PySem.W PySem.Calls PyProof.Rows PySem.SeqAt PySem.MeetsSeq
set_option maxRecDepth 100000
set_option linter.unusedVariables false
namespace Mine
section
variable {prog : Program} {w : World} {A : Around} {E : Value → Shared → Prop} {s : Shared}
theorem chars_carried : ∀ {vs : List Value} {cs : List Nat}, CharsAre vs cs → CarriedAll vs (cs.map fun c => PyData.str ⟨#[c]⟩)
  | _, _, .nil => .nil
  | _, _, .cons (t := t) r => .cons (.str _ t) (chars_carried r)
theorem chars_canLay : ∀ (cs : List Nat), (∀ c ∈ cs, c < 1114112) → PyData.canLayAll0 (cs.map fun c => PyData.str ⟨#[c]⟩) = true
  | [], _ => by simp [PyData.canLayAll0]
  | c :: cs, h => by
    have h1 := h c (.head _)
    have : PyData.strOk ⟨#[c]⟩ = true := by simp [PyData.strOk, h1]
    simp [PyData.canLayAll0, PyData.canLay0, this, chars_canLay cs fun x hx => h x (.tail _ hx)]
theorem chars_depth : ∀ (cs : List Nat), PyData.depthAll (cs.map fun c => PyData.str ⟨#[c]⟩) ≤ 1
  | [] => by simp [PyData.depthAll]
  | c :: cs => by
    have := chars_depth cs
    simp only [List.map_cons, PyData.depthAll, PyData.depth]
    omega
theorem chars_shaped (cs : List Nat) (h : ∀ c ∈ cs, c < 1114112) : SeqAt.shaped (.list (cs.map fun c => PyData.str ⟨#[c]⟩)) = true := by
  have h1 := chars_depth cs
  unfold SeqAt.shaped
  rw [Bool.and_eq_true_iff]
  refine ⟨by simp only [PyData.canLay0]; exact chars_canLay cs h, decide_eq_true ?_⟩
  simp only [PyData.depth]
  omega
theorem chars_eqv (cs : List Nat) (h : ∀ c ∈ cs, c < 1114112) : PyData.eqv (.list (cs.map fun c => PyData.str ⟨#[c]⟩)) (.list (cs.map fun c => PyData.str ⟨#[c]⟩)) = true :=
  PySem.SeqAt.eqv_refl _ (by simp only [PyData.canLay0]; exact chars_canLay cs h)
theorem ne_chars {a b : Addr} {vs ws : List Value} {cs : List Nat} {Q : Value → Shared → Prop} (ha : s.heap.IsList a vs.toArray) (hb : s.heap.IsList b ws.toArray) (hv : CharsAre vs cs) (hw : CharsAre ws cs) (hc : ∀ c ∈ cs, c < 1114112) (hu : A.units + 64 < cLine) (h : Q (.bool false) s) :
    wpAny (model prog w) A (compareOp .NotEq (.ref a) (.ref b)) Q E s :=
  ne_dataH (reads_newData ha (chars_carried hv)) (reads_newData hb (chars_carried hw)) (chars_shaped cs hc) (chars_shaped cs hc) hu (by rw [chars_eqv cs hc]; exact h)
theorem eq_chars {a b : Addr} {vs ws : List Value} {cs : List Nat} {Q : Value → Shared → Prop} (ha : s.heap.IsList a vs.toArray) (hb : s.heap.IsList b ws.toArray) (hv : CharsAre vs cs) (hw : CharsAre ws cs) (hc : ∀ c ∈ cs, c < 1114112) (hu : A.units + 64 < cLine) (h : Q (.bool true) s) :
    wpAny (model prog w) A (compareOp .Eq (.ref a) (.ref b)) Q E s :=
  eq_dataH (reads_newData ha (chars_carried hv)) (reads_newData hb (chars_carried hw)) (chars_shaped cs hc) (chars_shaped cs hc) hu (by rw [chars_eqv cs hc]; exact h)
/-- two bytes values that hold the same bytes are equal -/
theorem eqAt_bytes {A : Around} {s : Shared} {b : Array UInt8} {t u : Tok} : EqAt A s (.bytes b t) (.bytes b u) true := by
  intro prog w E Q h
  unfold eqBool
  try with_reducible refine wpAny_holding ?_
  show wpAny _ _ (if (Value.bytes b t == Value.bytes b u) = true then _ else _) Q E s
  by_cases hab : (Value.bytes b t == Value.bytes b u) = true
  · rw [if_pos hab]
    exact wpAny_bind (wpAny_rule (wpAny_pure h))
  · rw [if_neg hab]
    refine wpAny_bind (richCompare_gives (op := .Eq) (T := "bytes") rfl rfl FB.slot_bytes_eq FB.entry_bytes_eq (FB.args_bytes_eq_2 _ _) (gives_bytes_eq b b t u) (fun x => nomatch x) (wpAny_truthy_bool ?_))
    have e : (b.toList == b.toList) = true := by simp
    rw [e]
    exact h
theorem bytesAt_are : ∀ (ws : List (List UInt8)) (k : Nat), BytesAre (bytesAt ws k) (ws.map List.toArray)
  | [], _ => .nil
  | w :: r, k => .cons (bytesAt_are r (k + 1))
theorem ne_tuples {a b : Addr} {vs ws : List Value} {bs : List (Array UInt8)} {Q : Value → Shared → Prop} (ha : s.heap.IsTuple a vs.toArray) (hb : s.heap.IsTuple b ws.toArray) (hv : BytesAre vs bs) (hw : BytesAre ws bs) (hu : A.units < cLine) (h : Q (.bool false) s) :
    wpAny (model prog w) A (compareOp .NotEq (.ref a) (.ref b)) Q E s := by
  have key := RcNeAt.tuples (A := A) (e := fun _ => true) ha hb hu (fun j h1 h2 => by
    have h1' : j < vs.length := by simpa using h1
    have h2' : j < ws.length := by simpa using h2
    obtain ⟨t, e1⟩ := hv.get j (by rw [← hv.length]; exact h1')
    obtain ⟨u, e2⟩ := hw.get j (by rw [← hw.length]; exact h2')
    have f1 : vs.toArray[j] = .bytes (bs.getD j #[]) t := by
      have := (List.getElem?_eq_getElem h1').symm.trans e1
      simpa using Option.some.inj this
    have f2 : ws.toArray[j] = .bytes (bs.getD j #[]) u := by
      have := (List.getElem?_eq_getElem h2').symm.trans e2
      simpa using Option.some.inj this
    rw [f1, f2]
    exact eqAt_bytes)
  refine cmp_ofNotEq (key prog w E Q ?_)
  have e : (!((List.range (min vs.toArray.size ws.toArray.size)).all (fun _ => true) && vs.toArray.size == ws.toArray.size)) = false := by
    simp [hv.length, hw.length]
  rw [e]
  exact h
end
end Mine
end
/- part W17 -/
section
open PySem PySem.W PySem.Calls PyProof.Rows
set_option maxRecDepth 100000
set_option maxHeartbeats 4000000
set_option linter.unusedVariables false
namespace Mine
theorem news_add {h₀ h h' : Heap} {L a : Addr} {o : Obj} {m : Str → Option Value} {news : List (Addr × Obj)} (F : Fr h₀ L h m) (N : News h₀ L h' news) (ha : h'.get? a = some o) (hn : h.get? a = none) : News h₀ L h' ((a, o) :: news) := fun p hp => by
  rcases List.mem_cons.mp hp with rfl | hp
  · refine ⟨ha, fun e => ?_, F.noneBack hn⟩
    obtain ⟨o', _, _, hL, _⟩ := F.ns
    rw [← e] at hL
    cases hn.symm.trans hL
  · exact N p hp
noncomputable def lawBody : List Stmt := ((PySem.Program.main PySem.Challenge.rw_kl0204_01.row.prog).body.findSome? fun st => match st with
  | .FunctionDef n _ b _ _ _ _ _ _ _ => if n == Str.ofString "law" then some b else none
  | _ => none).getD []
noncomputable def drawnElt : PySem.Expr := (compOf (lawBody.getD 2 (.Pass default))).1
noncomputable def drawnScope : Scope := (compOf (lawBody.getD 2 (.Pass default))).2
/-- the sign drawn for a row's int -/
noncomputable def dr (x : Int) : Nat := if 0 < x then (917535 + x).toNat else 917505
section
variable {w : World} {dp un : Nat} {fr : Option (List Env)} {gd : Option (List Code)} {env0 : Env} {nm : Str} {sc : Scope} {a : Addr} {cd : Value} {s : Shared} {mg mb : Str → Option Value} {mean : ExcName → Option Value} {h₀ : Heap} {L : Addr} {m : Str → Option Value} {I D1 D2 : Addr} {oI oC oD1 oD2 : Obj}
  {Q E : Value → Shared → Prop}
theorem drawn_elt {C D : Addr} {m' : Str → Option Value} {p : Int} {t : Tok} {ys : List Value} {news : List (Addr × Obj)} (F : Fr h₀ L s.heap m) (N : News h₀ L s.heap ((I, oI) :: (C, oC) :: (D, LCg.lst ys) :: news)) (KX : (Kd w.params).In h₀) (T : Top Qv L3 mean mg mb h₀)
    (hC : LCg.NsObj oC m') (hx : m' (Str.ofString "one") = some (.int p t)) (hp : p < 97)
    (h : ∀ h' t' k, Fr h₀ L h' m → News h₀ L h' ((I, oI) :: (C, oC) :: (D, LCg.lst ys) :: news) → Q (.str ⟨#[dr p]⟩ t') { s with heap := h', toks := k }) :
    wpAny (model PySem.Challenge.rw_kl0204_01.row.prog w) (Around.deeper { handled := none, depth := dp, frames := fr, guards := gd, units := un } env0) (eval drawnElt (compEnvC drawnScope [] C (envOf nm sc L a cd))) Q E s := by
  rw [show drawnElt = Expr.IfExp _ _ _ _ from rfl]
  rw [show drawnScope = Scope.mk _ _ _ _ _ from rfl]
  revert KX
  k_fill
  intro KX
  k_steps
  · have e : dr p = (917535 + p).toNat := if_pos (by assumption)
    rw [← e]
    exact h _ _ _ F N
  · have e : dr p = Int.toNat 917505 := if_neg (by assumption)
    rw [← e]
    exact h _ _ _ F N
end
end Mine
end
/- part W8 -/
section
open PySem PySem.W PySem.Calls PyProof.Rows
set_option maxRecDepth 100000
set_option maxHeartbeats 4000000
set_option linter.unusedVariables false
namespace Mine
section
variable {w : World} {A : Around} {R : Result → Shared → Prop} {s : Shared} {mg mb : Str → Option Value} {mean : ExcName → Option Value}
theorem l_cells {l : Addr} {vs : List Value} {ns : List Int} (hl : s.heap.IsList l vs.toArray) (hi : IntsAre vs ns) (hn : ns.length ≤ 63) (hA : Room A) (C : Ok w mean mg mb s.heap)
    (h : ∀ h' n' a vs' ns' k, s.heap.StaysIn h' → IntsAre vs' ns' → ns'.length = 7 → h'.get? a = some (listOf vs'.toArray k) → s.heap.get? a = none → R (.ok (.ret (.ref a))) { s with heap := h', toks := n' }) :
    codeAny (model PySem.Challenge.rw_kl0204_01.row.prog w) A (.call (.ref 286) ⟨[.ref l], []⟩) R s := by
  obtain ⟨KX, T⟩ := C
  revert KX
  k_fill
  intro KX
  obtain ⟨hd, dp, fr, gd, un⟩ := A
  obtain ⟨hh, hroom, hun⟩ := hA
  dsimp only at hh hroom hun
  subst hh
  refine call_plain_ret (show dp < recursionLimit by omega) (KX 286 _ rfl) (name := .ofString "_law_cells") (pm := _) (doc := .none) (cd := .ref 285) rfl T.nolimit (codeRec_of KX (by kernel_rfl)) (binds := [(.ofString "script", .ref l)]) (by rfl) (locs (by rfl)) (fun h₁ F => ?_)
  have N := news_nil (h₀ := s.heap) (L := s.heap.objs.size) (h := h₁)
  (k_with "pyIter ref" => k_state (fun pre cells => cells.length = 7) "cells")
  k_steps
  dsimp only
  rename News _ _ _ _ => N1
  rename Fr _ _ _ _ => F1
  k_with_none
  exact h _ _ _ _ _ _ F1.keep (by assumption) (by assumption) (N1 _ (.head _)).1 (N1 _ (.head _)).2.2
end
end Mine
end
/- part W10 -/
section
open PySem PySem.W PySem.Calls PyProof.Rows
set_option maxRecDepth 100000
set_option maxHeartbeats 4000000
set_option linter.unusedVariables false
namespace Mine
noncomputable def T4 (ns : List Int) (p q r v : Int) : Prop := (gt' ns v < gt' ns p ∧ gt' ns p < gt' ns q ∧ gt' ns q < gt' ns r) ∨ (gt' ns v < gt' ns q ∧ gt' ns q < gt' ns p ∧ gt' ns p < gt' ns r ∧ ∀ j : Int, p ≤ j → j < q → gt' ns j ≤ gt' ns p)
noncomputable def Four (ns : List Int) : Prop := ∃ p q r v : Int, 0 ≤ p ∧ p < q ∧ q < r ∧ r < v ∧ v < 6 ∧ T4 ns p q r v
theorem slice_nat {ns : List Int} {a b : Nat} (hq : b ≤ ns.length) (x : Int) : x ∈ List.take (b - a) (List.drop a ns) ↔ ∃ j, a ≤ j ∧ j < b ∧ x = ns.getD j 0 := by
  constructor
  · intro h
    obtain ⟨i, hi, rfl⟩ := List.mem_iff_getElem.mp h
    rw [List.length_take] at hi
    have hi2 : a + i < b := Nat.add_lt_of_lt_sub' (Nat.lt_of_lt_of_le hi (Nat.min_le_left _ _))
    refine ⟨a + i, Nat.le_add_right _ _, hi2, ?_⟩
    rw [List.getD_eq_getElem?_getD, List.getElem?_eq_getElem (Nat.lt_of_lt_of_le hi2 hq), List.getElem_take, List.getElem_drop]
    rfl
  · rintro ⟨j, h1, h2, rfl⟩
    obtain ⟨i, rfl⟩ := Nat.exists_eq_add_of_le h1
    have hi : i < b - a := Nat.lt_sub_iff_add_lt'.mpr h2
    have hl : a + i < ns.length := Nat.lt_of_lt_of_le h2 hq
    refine List.mem_iff_getElem.mpr ⟨i, ?_, ?_⟩
    · rw [List.length_take, List.length_drop]
      exact Nat.lt_min.mpr ⟨hi, Nat.lt_sub_iff_add_lt'.mpr hl⟩
    · rw [List.getElem_take, List.getElem_drop, List.getD_eq_getElem?_getD, List.getElem?_eq_getElem hl]
      rfl
theorem slice_mem {ns : List Int} {p q : Int} (hp : 0 ≤ p) (hq : q ≤ ns.length) (x : Int) : x ∈ List.take (min q.toNat ns.length - p.toNat) (List.drop p.toNat ns) ↔ ∃ j : Int, p ≤ j ∧ j < q ∧ x = gt' ns j := by
  have hb : q.toNat ≤ ns.length := Int.toNat_le.mpr hq
  rw [Nat.min_eq_left hb, slice_nat hb]
  constructor
  · rintro ⟨j, h1, h2, rfl⟩
    exact ⟨j, Int.toNat_le.mp h1, Int.lt_toNat.mp h2, rfl⟩
  · rintro ⟨j, h1, h2, rfl⟩
    have h0 : 0 ≤ j := Int.le_trans hp h1
    refine ⟨j.toNat, Int.toNat_le_toNat h1, ?_, rfl⟩
    exact Int.lt_toNat.mpr (by rw [Int.toNat_of_nonneg h0]; exact h2)
theorem max_is {ns : List Int} {p q M : Int} (hp : 0 ≤ p) (hpq : p < q) (hq : q ≤ ns.length) (h1 : M ∈ List.take (min q.toNat ns.length - p.toNat) (List.drop p.toNat ns)) (h2 : ∀ a, a ∈ List.take (min q.toNat ns.length - p.toNat) (List.drop p.toNat ns) → a ≤ M) :
    M = gt' ns p ↔ ∀ j : Int, p ≤ j → j < q → gt' ns j ≤ gt' ns p := by
  constructor
  · rintro rfl j h3 h4
    exact h2 _ ((slice_mem hp hq _).mpr ⟨j, h3, h4, rfl⟩)
  · intro h
    obtain ⟨j, h3, h4, rfl⟩ := (slice_mem hp hq _).mp h1
    exact Int.le_antisymm (h j h3 h4) (h2 _ ((slice_mem hp hq _).mpr ⟨p, Int.le_refl _, hpq, rfl⟩))
section
variable {prog : Program} {w : World} {A : Around} {E : Value → Shared → Prop} {s : Shared} {h₀ : Heap} {L : Addr} {m : Str → Option Value} {news : List (Addr × Obj)}
theorem row_item {value slice : PySem.Expr} {l : Addr} {vs : List Value} {ns : List Int} {k : Int} {u : Tok} {Q : Value → Shared → Prop} (F : Fr h₀ L s.heap m) (hl : h₀.IsList l vs.toArray) (hi : IntsAre vs ns) (hn : ns.length = 6)
    (h0 : 0 ≤ k) (h1 : k < 6) (h : ∀ t, Q (.int (gt' ns k) t) s)
    (hs : subscripted slice false (.ref l) (.int k u) = operate [.ref l, .int k u] (getItem (.ref l) (.int k u)) := by with_unfolding_all rfl) :
    wpAny (model prog w) A (subscriptTail value slice (.ref l) (.int k u)) Q E s :=
  item_anyK (hl.at fun o e => F.keep l o e) hi h0 (by omega) (by omega) h hs
theorem row_it {value slice : PySem.Expr} {l : Addr} {vs : List Value} {ns : List Int} {k : Int} {u : Tok} {Q : Value → Shared → Prop} (F : Fr h₀ L s.heap m) (h : ∀ t, Q (.int (gt' ns k) t) s) (hl : h₀.IsList l vs.toArray := by assumption) (hi : IntsAre vs ns := by assumption) (hn : ns.length = 6 := by assumption)
    (h0 : 0 ≤ k := by assumption) (h1 : k < 6 := by assumption)
    (hs : subscripted slice false (.ref l) (.int k u) = operate [.ref l, .int k u] (getItem (.ref l) (.int k u)) := by with_unfolding_all rfl) :
    wpAny (model prog w) A (subscriptTail value slice (.ref l) (.int k u)) Q E s := row_item F hl hi hn h0 h1 h hs
noncomputable def EndIf (P : Prop) (s : Shared) (h₀ : Heap) (L : Addr) (m : Str → Option Value) (news : List (Addr × Obj)) (f : Flow) (s' : Shared) : Prop :=
  (f = .ret (.bool true) ∧ P ∧ ∃ h tk, s' = { s with heap := h, toks := tk } ∧ Fr h₀ L h m) ∨ (f = .next ∧ ¬ P ∧ ∃ h tk, s' = { s with heap := h, toks := tk } ∧ Fr h₀ L h m ∧ News h₀ L h news)
theorem EndIf.t {P : Prop} {h : Heap} {tk : Nat} (p : P) (F : Fr h₀ L h m) : EndIf P s h₀ L m news (.ret (.bool true)) { s with heap := h, toks := tk } := .inl ⟨rfl, p, h, tk, rfl, F⟩
theorem EndIf.f {P : Prop} {h : Heap} {tk : Nat} (p : ¬ P) (F : Fr h₀ L h m) (N : News h₀ L h news) : EndIf P s h₀ L m news .next { s with heap := h, toks := tk } := .inr ⟨rfl, p, h, tk, rfl, F, N⟩
theorem cutIf (P : Prop) {t : Sem Flow} {Q : Flow → Shared → Prop} {M : Model} {h : Heap} {tk : Nat} (F : Fr h₀ L h m) (N : News h₀ L h news)
    (h1 : wpAny M A t (fun f s' => EndIf P s h₀ L m news f s') E { s with heap := h, toks := tk })
    (ht : P → ∀ h tk, Fr h₀ L h m → Q (.ret (.bool true)) { s with heap := h, toks := tk })
    (hf : ¬ P → ∀ h tk, Fr h₀ L h m → News h₀ L h news → Q .next { s with heap := h, toks := tk }) : wpAny M A t Q E { s with heap := h, toks := tk } := by
  refine wpAny_mono h1 (fun f s' p => ?_) fun _ _ x => x
  rcases p with ⟨rfl, p, h, tk, rfl, F⟩ | ⟨rfl, p, h, tk, rfl, F, N⟩
  · exact ht p h tk F
  · exact hf p h tk F N
end
local macro_rules | `(tactic| walk_at "subscriptTail") => `(tactic| ((rename Fr _ _ _ _ => fR); (refine row_it fR ?_); intro _))
local macro_rules | `(tactic| walk_at "execs cons") => `(tactic| (refine stopIf ?_))
local macro_rules | `(tactic| walk_at $k:str) => if ["exec For Name Call cons nil", "pyIter ref"].contains k.getString then `(tactic| (refine unstop ?_)) else Lean.Macro.throwUnsupported
local macro_rules | `(tactic| walk_at "testChain") => `(tactic| (simp only [evalEach]; first | (with_reducible refine test_link ?_) | refine test_last ?_))
section
variable {w : World} {A : Around} {R : Result → Shared → Prop} {s : Shared} {mg mb : Str → Option Value} {mean : ExcName → Option Value}
theorem l_four {l : Addr} {vs : List Value} {ns : List Int} (hl : s.heap.IsList l vs.toArray) (hi : IntsAre vs ns) (hn : ns.length = 6) (hA : Room A) (C : Ok w mean mg mb s.heap)
    (ht : Four ns → ∀ h' n', s.heap.StaysIn h' → R (.ok (.ret (.bool true))) { s with heap := h', toks := n' })
    (hf : ¬ Four ns → ∀ h' n', s.heap.StaysIn h' → R (.ok (.ret (.bool false))) { s with heap := h', toks := n' }) :
    codeAny (model PySem.Challenge.rw_kl0204_01.row.prog w) A (.call (.ref 324) ⟨[.ref l], []⟩) R s := by
  obtain ⟨KX, T⟩ := C
  revert KX
  k_fill
  intro KX
  obtain ⟨hd, dp, fr, gd, un⟩ := A
  obtain ⟨hh, hroom, hun⟩ := hA
  dsimp only at hh hroom hun
  subst hh
  refine call_plain_ret (show dp < recursionLimit by omega) (KX 324 _ rfl) (name := .ofString "_law_four") (pm := _) (doc := .none) (cd := .ref 323) rfl T.nolimit (codeRec_of KX (by kernel_rfl)) (binds := [(.ofString "row", .ref l)]) (by rfl) (locs (by rfl)) (fun h₁ F => ?_)
  have N := news_nil (h₀ := s.heap) (L := s.heap.objs.size) (h := h₁)
  k_steps
  refine Stop.mk (For_invVF F rfl rfl ?_)
  k_steps
  rename Fr _ _ _ _ => G0
  rename News _ _ _ _ => M0
  rename IsRange _ _ _ _ _ _ _ _ => I0
  refine Stop.mk (kst_range (σ := Unit) (fun _ => []) (fun _ => []) (fun _ => True) [.ofString "q", .ofString "r", .ofString "s"] (fun pre _ => ∀ p ∈ pre, ∀ q r v : Int, p < q → q < r → r < v → v < 6 → ¬ T4 ns p q r v) () rfl I0 (by decide) (n := 6) (by rfl) G0 (fun _ hp => nomatch hp) trivial (fun _ hp => nomatch hp) (fun _ hp => nomatch hp) ?_ ?_)
  · intro _ pre0 p tp u0 h0 tk0 own0 ep lt0 hoff0 _ hpre0 F2 N2
    clear G0 M0 I0
    dsimp only at hpre0 F2 N2 ⊢
    have F2 : Fr s.heap s.heap.objs.size h0 _ := F2
    have N2 : News s.heap s.heap.objs.size h0 _ := N2
    rename Fr s.heap (Env.locals _) _ _ => Fold
    rename News s.heap (Env.locals _) _ _ => Nold
    clear Fold Nold
    have hp6 : Hide (0 ≤ p ∧ p < 6) := Hide.mk (by omega)
    clear ep lt0
    k_steps
    refine Stop.mk (For_invVF F2 rfl rfl ?_)
    k_steps
    rename Fr _ _ _ _ => G1
    rename News _ _ _ _ => M1
    rename IsRange _ _ _ _ _ _ _ _ => I1
    have hp6 := hp6.get
    refine Stop.mk (kst_range (σ := Unit) (fun _ => own0) (fun _ => []) (fun _ => True) [.ofString "r", .ofString "s"] (fun pre _ => ∀ q ∈ pre, ∀ r v : Int, q < r → r < v → v < 6 → ¬ T4 ns p q r v) () rfl I1 (small_one (by omega) (by omega) (by omega) (by omega)) (n := (6 - (p + 1)).toNat) (rangeSize_nat _ _) G1 (by exact M1) trivial (fun _ hp => nomatch hp) (fun _ hp => nomatch hp) ?_ ?_)
    · intro _ pre1 q tq u1 h1 tk1 own1 eq lt1 hoff1 _ hpre1 F4 N4
      clear G1 M1 I1
      dsimp only at hpre1 F4 N4 ⊢
      have F4 : Fr s.heap s.heap.objs.size h1 _ := F4
      have N4 : News s.heap s.heap.objs.size h1 _ := N4
      rename Fr s.heap (Env.locals _) _ _ => Fold
      rename News s.heap (Env.locals _) _ _ => Nold
      clear Fold Nold
      have hq6 : Hide (p < q ∧ q < 6) := Hide.mk (by omega)
      clear eq lt1
      k_steps
      refine Stop.mk (For_invVF F4 rfl rfl ?_)
      k_steps
      rename Fr _ _ _ _ => G2
      rename News _ _ _ _ => M2
      rename IsRange _ _ _ _ _ _ _ _ => I2
      have hq6 := hq6.get
      refine Stop.mk (kst_range (σ := Unit) (fun _ => own0 ++ own1) (fun _ => []) (fun _ => True) [.ofString "s"] (fun pre _ => ∀ r ∈ pre, ∀ v : Int, r < v → v < 6 → ¬ T4 ns p q r v) () rfl I2 (small_one (by omega) (by omega) (by omega) (by omega)) (n := (6 - (q + 1)).toNat) (rangeSize_nat _ _) G2 (by exact M2) trivial (fun _ hp => nomatch hp) (fun _ hp => nomatch hp) ?_ ?_)
      · intro _ pre2 r tr u2 h2 tk2 own2 er lt2 hoff2 _ hpre2 F6 N6
        clear G2 M2 I2
        dsimp only at hpre2 F6 N6 ⊢
        have F6 : Fr s.heap s.heap.objs.size h2 _ := F6
        have N6 : News s.heap s.heap.objs.size h2 _ := N6
        rename Fr s.heap (Env.locals _) _ _ => Fold
        rename News s.heap (Env.locals _) _ _ => Nold
        clear Fold Nold
        have hr6 : Hide (q < r ∧ r < 6) := Hide.mk (by omega)
        clear er lt2
        k_steps
        refine Stop.mk (For_invVF F6 rfl rfl ?_)
        k_steps
        rename Fr _ _ _ _ => G3
        rename News _ _ _ _ => M3
        rename IsRange _ _ _ _ _ _ _ _ => I3
        have hr6 := hr6.get
        refine Stop.mk (kst_range (σ := Unit) (fun _ => own0 ++ own1 ++ own2) (fun _ => []) (fun _ => True) [] (fun pre _ => ∀ v ∈ pre, ¬ T4 ns p q r v) () rfl I3 (small_one (by omega) (by omega) (by omega) (by omega)) (n := (6 - (r + 1)).toNat) (rangeSize_nat _ _) G3 (by exact M3) trivial (fun _ hp => nomatch hp) (fun _ hp => nomatch hp) ?_ ?_)
        · intro _ pre3 v tv u3 h3 tk3 own3 ev lt3 hoff3 _ hpre3 F8 N8
          clear G3 M3 I3
          dsimp only at hpre3 F8 N8 ⊢
          have F8 : Fr s.heap s.heap.objs.size h3 _ := F8
          have N8 : News s.heap s.heap.objs.size h3 _ := N8
          rename Fr s.heap (Env.locals _) _ _ => Fold
          rename News s.heap (Env.locals _) _ _ => Nold
          clear Fold Nold
          have hv6 : r < v ∧ v < 6 := by omega
          have hb0 : 0 ≤ p := hp6.1
          have hb1 : p < 6 := hp6.2
          have hb2 : 0 ≤ q := by omega
          have hb3 : q < 6 := hq6.2
          have hb4 : 0 ≤ r := by omega
          have hb5 : r < 6 := hr6.2
          have hb6 : 0 ≤ v := by omega
          have hb7 : v < 6 := hv6.2
          k_steps
          refine Stop.mk (wpAny_execs_cons (cutIf (gt' ns v < gt' ns p ∧ gt' ns p < gt' ns q ∧ gt' ns q < gt' ns r) F8 N8 ?_ ?_ ?_))
          · k_steps
            all_goals first
              | exact EndIf.t ⟨by assumption, by assumption, by assumption⟩ F8
              | exact EndIf.f (fun x => absurd x.1 (by assumption)) F8 N8
              | exact EndIf.f (fun x => absurd x.2.1 (by assumption)) F8 N8
              | exact EndIf.f (fun x => absurd x.2.2 (by assumption)) F8 N8
          · intro hP h9 tk9 F9
            dsimp only [InvPostN]
            exact ht ⟨p, q, r, v, by omega, hq6.1, hr6.1, hv6.1, hv6.2, .inl hP⟩ _ _ F9.keep
          · intro hP h9 tk9 F9 N9
            clear F8 N8
            dsimp only
            k_steps
            refine Stop.mk (wpAny_execs_cons (cutIf (gt' ns v < gt' ns q ∧ gt' ns q < gt' ns p ∧ gt' ns p < gt' ns r ∧ ∀ j : Int, p ≤ j → j < q → gt' ns j ≤ gt' ns p) F9 N9 ?_ ?_ ?_))
            · k_steps
              all_goals (rename Fr _ _ _ _ => F10)
              all_goals (rename News _ _ _ _ => N10)
              all_goals first
                | exact EndIf.t ⟨by assumption, by assumption, by assumption, (max_is (p := p) (q := q) (ns := ns) hb0 (by omega) (by omega) (by assumption) (by assumption)).mp (by assumption)⟩ F10
                | exact EndIf.f (fun x => absurd x.1 (by assumption)) F10 (fun p hp => N10 p (by repeat (first | exact hp | apply List.mem_cons_of_mem)))
                | exact EndIf.f (fun x => absurd x.2.1 (by assumption)) F10 (fun p hp => N10 p (by repeat (first | exact hp | apply List.mem_cons_of_mem)))
                | exact EndIf.f (fun x => absurd x.2.2.1 (by assumption)) F10 (fun p hp => N10 p (by repeat (first | exact hp | apply List.mem_cons_of_mem)))
                | (refine EndIf.f (fun x => ?_) F10 (fun p hp => N10 p (by repeat (first | exact hp | apply List.mem_cons_of_mem)))
                   exact absurd ((max_is (p := p) (q := q) (ns := ns) hb0 (by omega) (by omega) (by assumption) (by assumption)).mpr x.2.2.2) (by assumption))
            · intro hP2 h10 tk10 F10
              dsimp only [InvPostN]
              exact ht ⟨p, q, r, v, by omega, hq6.1, hr6.1, hv6.1, hv6.2, .inr hP2⟩ _ _ F10.keep
            · intro hP2 h10 tk10 F10 N10
              refine wpAny_execs_nil (kst_end () F10 N10 (fun x hx => List.mem_append_left _ hx) (fun x hx => List.mem_append_right _ hx) rfl trivial (fun _ hp => nomatch hp) (by intro y h1 _ h3; simp [kstB, h1]) ?_)
              intro x hx
              rcases List.mem_append.mp hx with h | h
              · exact hpre3 x h
              · rw [List.mem_singleton.mp h]
                rintro (hq | hq)
                · exact hP hq
                · exact hP2 hq
        · intro _ uu hh tkk _ hall FF NN
          refine wpAny_execs_nil (kst_end () FF NN (fun x hx => List.mem_append_left _ hx) (fun x hx => List.mem_append_right _ hx) rfl trivial (fun _ hp => nomatch hp) (by
            intro y h1 _ h3
            have h13 : y ≠ .ofString "s" := by intro e; subst e; exact absurd h3 (by decide)
            simp [kstB, h1, h13]) ?_)
          intro x hx
          rcases List.mem_append.mp hx with h | h
          · exact hpre2 x h
          · rw [List.mem_singleton.mp h]
            intro v k0 k9
            exact hall v (mem_ks (by omega) (by omega))
      · intro _ uu hh tkk _ hall FF NN
        refine wpAny_execs_nil (kst_end () FF NN (fun x hx => List.mem_append_left _ hx) (fun x hx => List.mem_append_right _ hx) rfl trivial (fun _ hp => nomatch hp) (by
          intro y h1 _ h3
          have h12 : y ≠ .ofString "r" := by intro e; subst e; exact absurd h3 (by decide)
          have h13 : y ≠ .ofString "s" := by intro e; subst e; exact absurd h3 (by decide)
          simp [kstB, h1, h12, h13]) ?_)
        intro x hx
        rcases List.mem_append.mp hx with h | h
        · exact hpre1 x h
        · rw [List.mem_singleton.mp h]
          intro r v k0 k1 k9
          exact hall r (mem_ks (by omega) (by omega)) v k1 k9
    · intro _ uu hh tkk _ hall FF NN
      refine wpAny_execs_nil (kst_end () FF NN (fun x hx => nomatch hx) (fun x hx => hx) rfl trivial (fun _ hp => nomatch hp) (by
        intro y h1 _ h3
        have h11 : y ≠ .ofString "q" := by intro e; subst e; exact absurd h3 (by decide)
        have h12 : y ≠ .ofString "r" := by intro e; subst e; exact absurd h3 (by decide)
        have h13 : y ≠ .ofString "s" := by intro e; subst e; exact absurd h3 (by decide)
        simp [kstB, h1, h11, h12, h13]) ?_)
      intro x hx
      rcases List.mem_append.mp hx with h | h
      · exact hpre0 x h
      · rw [List.mem_singleton.mp h]
        intro q r v k0 k1 k2 k9
        exact hall q (mem_ks (by omega) (by omega)) r v k1 k2 k9
  · intro _ uu hh tkk _ hall FF NN
    k_steps
    rename Fr _ _ _ _ => FF
    exact hf (fun ⟨p, q, r, v, h0, h1, h2, h3, h4, h5⟩ => hall p (mem_ks (by omega) (by omega)) q r v h1 h2 h3 h4 h5) _ _ FF.keep
end
end Mine
end
/- part W12 -/
section
open PySem PySem.W PySem.Calls PyProof.Rows
set_option maxRecDepth 100000
set_option maxHeartbeats 4000000
set_option linter.unusedVariables false
namespace Mine
local macro_rules | `(tactic| walk_at $k:str) => if ["exec For Name Call cons nil", "pyIter ref", "InvPostN"].contains k.getString then `(tactic| (refine unstop ?_)) else Lean.Macro.throwUnsupported
local macro_rules | `(tactic| walk_at "subscriptTail") => `(tactic| ((with_reducible show wpAny _ _ (subscriptTail _ _ (Value.ref _) (Value.int _ _)) _ _ _); first
  | ((rename Fr _ _ _ _ => fRow); (refine item_chars fRow (by assumption) (by assumption) (by assumption) (by assumption) (by assumption) ?_ (by with_unfolding_all rfl)); intro _; walk_say "ITEM OF CHARS")
  | ((rename News _ _ _ _ => nRow); (refine item_in (P := fun x => 917504 ≤ x ∧ x ≤ 917632 ∧ inC9 x = false) nRow (by k_mem) (by assumption) besides_ok (fmod_lo _ (by decide)) (Int.lt_of_lt_of_le (fmod_hi _ (by decide)) (by decide)) (Int.lt_trans (fmod_hi _ (by decide)) (by decide)) ?_ (by with_unfolding_all rfl)); intro _ _ hBes; walk_say "ITEM BESIDE")))
section
variable {w : World} {A : Around} {R : Result → Shared → Prop} {s : Shared} {mg mb : Str → Option Value} {mean : ExcName → Option Value}
theorem l_page {l : Addr} {vs : List Value} {cs : List Nat} (hl : s.heap.IsList l vs.toArray) (hv : CharsAre vs cs) (hn : cs.length = 6) (h9 : ∀ c ∈ cs, c9 c = true ∧ c < 1114112) {lk : Int} {tl : Tok} (hA : Room A) (C : Ok w mean mg mb s.heap)
    (h : ∀ h' n' x t, s.heap.StaysIn h' → PageOk cs 6 x → R (.ok (.ret (.str x t))) { s with heap := h', toks := n' }) :
    codeAny (model PySem.Challenge.rw_kl0204_01.row.prog w) A (.call (.ref 293) ⟨[.ref l, .int lk tl], []⟩) R s := by
  obtain ⟨KX, T⟩ := C
  revert KX
  k_fill
  intro KX
  obtain ⟨hd, dp, fr, gd, un⟩ := A
  obtain ⟨hh, hroom, hun⟩ := hA
  dsimp only at hh hroom hun
  subst hh
  refine call_plain_ret (show dp < recursionLimit by omega) (KX 293 _ rfl) (name := .ofString "_law_page") (pm := _) (doc := .none) (cd := .ref 292) rfl T.nolimit (codeRec_of KX (by kernel_rfl)) (binds := [(.ofString "names", .ref l), (.ofString "look", .int lk tl)]) (by rfl) (locs (by rfl)) (fun h₁ F => ?_)
  have N := news_nil (h₀ := s.heap) (L := s.heap.objs.size) (h := h₁)
  k_steps
  rename Fr _ _ _ _ => F1
  rename News _ _ _ _ => N1
  rename CarriedAll _ _ => C1
  refine kmk_add_ints F1 N1 (News.isList N1 (.head _)) (by assumption) (.cons _ _ (.cons _ _ .nil)) (CarriedAll.intsOf (f := id) C1) (fun D us h' F2 N2 hD hI => ?_) (by decide +kernel)
  clear F1 N1
  k_steps
  rename Fr _ _ _ _ => F3
  refine Stop.mk (For_invVF F3 rfl rfl ?_)
  k_steps
  rename Fr _ _ _ _ => F3
  rename News _ _ _ _ => N3
  rename IsRange _ _ _ _ _ _ _ _ => G3
  have N3 : News s.heap s.heap.objs.size _ [(D, listOf us.toArray 0)] := fun p hp => N3 p (by rw [List.mem_singleton.mp hp]; exact .head _)
  refine Stop.mk (kst_range (σ := Str × Tok) (fun _ => [(D, listOf us.toArray 0)]) (fun c => [(.ofString "page", .str c.1 c.2)]) (fun _ => True) [] (fun pre c => PageOk cs pre.length c.1) (⟨#[]⟩, _) rfl G3 (by decide) (n := 6) (by rfl) F3 N3 trivial (by kst_all) PageOk.zero ?_ ?_)
  · rintro ⟨x, tx⟩ pre k tk2 u h4 tk4 own hk hlt hoff _ hpg F4 N4
    dsimp only at hpg F4 N4 ⊢
    have F4 : Fr s.heap s.heap.objs.size h4 _ := F4
    have N4 : News s.heap s.heap.objs.size h4 ((D, listOf us.toArray 0) :: own) := N4
    clear F3 G3
    rename Fr s.heap (Env.locals _) _ _ => Fold
    rename News s.heap (Env.locals _) _ _ => Nold
    clear Fold Nold
    have hk0 : 0 ≤ k := by omega
    have hk6 : k < 6 := by omega
    obtain ⟨hp1, hp2, hp3⟩ := id hpg
    have hchk : cs[pre.length]? = some (ch cs k) := by
      have e : k.toNat = pre.length := by omega
      unfold ch
      rw [e, List.getD_eq_getElem?_getD, List.getElem?_eq_getElem (by omega)]
      rfl
    obtain ⟨hc9, hcb⟩ := h9 _ (List.mem_of_getElem? hchk)
    have hkk : (pre ++ [k]).length = pre.length + 1 := by rw [List.length_append]; rfl
    k_steps
    · obtain ⟨V, hV⟩ : ∃ V : Int, V = besides.getD ((lk + k).fmod 32).toNat 0 := ⟨_, rfl⟩
      have hVin : 917504 ≤ V ∧ V ≤ 917632 ∧ inC9 V = false := by
        rw [hV]
        refine besides_ok _ ?_
        have h0 : 0 ≤ (lk + k).fmod 32 := fmod_lo _ (by decide)
        have h1 : (lk + k).fmod 32 < 32 := fmod_hi _ (by decide)
        have hlen : besides.length = 32 := by decide +kernel
        rw [List.getD_eq_getElem?_getD, List.getElem?_eq_getElem (by rw [hlen]; omega)]
        exact List.getElem_mem _
      refine chr_of_range (i := besides.getD ((lk + k).fmod 32).toNat 0) (by rw [← hV]; omega) (by rw [← hV]; omega) ?_
      rw [← hV]
      k_steps
      rename Fr _ _ _ _ => F8
      rename News _ _ _ _ => N8
      refine Stop.mk (kst_end ⟨x ++ ⟨#[V.toNat]⟩ ++ ⟨#[ch cs k]⟩, _⟩ F8 N8 (by kst_in) (by intro p hp; kst_mem) rfl trivial (by kst_all) (by intro y h1 h2 h3; have h4 : y ≠ .ofString "page" := h2 _ (.head _); simp [kstB, h1, h4]) ?_)
      show PageOk cs (pre ++ [k]).length _
      rw [hkk]
      refine hpg.beside hchk hc9 hcb ?_ (by omega)
      show inC9 ((V.toNat : Nat) : Int) = false
      rw [Int.toNat_of_nonneg (by omega)]
      exact hVin.2.2
    · rename Fr _ _ _ _ => F8
      rename News _ _ _ _ => N8
      refine Stop.mk (kst_end ⟨x ++ ⟨#[ch cs k]⟩, _⟩ F8 N8 (by kst_in) (by intro p hp; kst_mem) rfl trivial (by kst_all) (by intro y h1 h2 h3; have h4 : y ≠ .ofString "page" := h2 _ (.head _); simp [kstB, h1, h4]) ?_)
      show PageOk cs (pre ++ [k]).length _
      rw [hkk]
      exact hpg.plain hchk hc9 hcb
  · rintro ⟨x, tx⟩ u h4 tk4 _ hpg F4 N4
    k_steps
    dsimp only
    rename Fr _ _ _ _ => F8
    exact h _ _ _ _ F8.keep (by have e : (rangeKs 0 6).length = 6 := rfl; rw [e] at hpg; exact hpg)
end
end Mine
end
/- part W14 -/
section
open PySem PySem.W PySem.Calls PyProof.Rows
set_option maxRecDepth 100000
set_option maxHeartbeats 4000000
set_option linter.unusedVariables false
namespace Mine
local macro_rules | `(tactic| walk_at $k:str) => if ["subscriptTail", "getMethod bytes", "call builtin:bytes.join", "binaryOp Add bytes bytes"].contains k.getString then `(tactic| (refine unstop ?_)) else Lean.Macro.throwUnsupported
local macro_rules | `(tactic| walk_at "eval BinOp") => `(tactic| (refine stopFlag ?_))
local macro_rules | `(tactic| walk_at "execs cons") => `(tactic| (refine stopWhite ?_))
section
variable {w : World} {A : Around} {R : Result → Shared → Prop} {s : Shared} {mg mb : Str → Option Value} {mean : ExcName → Option Value}
theorem l_reply {l : Addr} {c0 c1 c2 c3 c4 c5 : Nat} {t0 t1 t2 t3 t4 t5 : Tok} (hl : s.heap.IsList l #[.str ⟨#[c0]⟩ t0, .str ⟨#[c1]⟩ t1, .str ⟨#[c2]⟩ t2, .str ⟨#[c3]⟩ t3, .str ⟨#[c4]⟩ t4, .str ⟨#[c5]⟩ t5]) (hc0 : 917505 ≤ (c0 : Int) ∧ (c0 : Int) < 917632) (hc1 : 917505 ≤ (c1 : Int) ∧ (c1 : Int) < 917632) (hc2 : 917505 ≤ (c2 : Int) ∧ (c2 : Int) < 917632) (hc3 : 917505 ≤ (c3 : Int) ∧ (c3 : Int) < 917632) (hc4 : 917505 ≤ (c4 : Int) ∧ (c4 : Int) < 917632) (hc5 : 917505 ≤ (c5 : Int) ∧ (c5 : Int) < 917632) {lk : Int} {tl : Tok} (hA : Room A) (C : Ok w mean mg mb s.heap)
    (h : ∀ h' n' a D t u0 u1 u2 u3 u4 u5, s.heap.StaysIn h' → h'.get? a = some { cls := .type "tuple", data := .seq #[.ref D, .bytes (replyOf lk (Builtin.Bytes.joined (whiteOf lk) (six ((c0 : Int) - 917504) ((c1 : Int) - 917504) ((c2 : Int) - 917504) ((c3 : Int) - 917504) ((c4 : Int) - 917504) ((c5 : Int) - 917504)))) t] } →
      h'.get? D = some (LCg.lst [.bytes (flagOf ((c0 : Int) - 917504)) u0, .bytes (flagOf ((c1 : Int) - 917504)) u1, .bytes (flagOf ((c2 : Int) - 917504)) u2, .bytes (flagOf ((c3 : Int) - 917504)) u3, .bytes (flagOf ((c4 : Int) - 917504)) u4, .bytes (flagOf ((c5 : Int) - 917504)) u5]) →
      s.heap.get? a = none → s.heap.get? D = none → R (.ok (.ret (.ref a))) { s with heap := h', toks := n' }) :
    codeAny (model PySem.Challenge.rw_kl0204_01.row.prog w) A (.call (.ref 298) ⟨[.ref l, .int lk tl], []⟩) R s := by
  obtain ⟨KX, T⟩ := C
  revert KX
  k_fill
  intro KX
  obtain ⟨hd, dp, fr, gd, un⟩ := A
  obtain ⟨hh, hroom, hun⟩ := hA
  dsimp only at hh hroom hun
  subst hh
  refine call_plain_ret (show dp < recursionLimit by omega) (KX 298 _ rfl) (name := .ofString "_law_reply") (pm := _) (doc := .none) (cd := .ref 297) rfl T.nolimit (codeRec_of KX (by kernel_rfl)) (binds := [(.ofString "names", .ref l), (.ofString "look", .int lk tl)]) (by rfl) (locs (by rfl)) (fun h₁ F => ?_)
  have N := news_nil (h₀ := s.heap) (L := s.heap.objs.size) (h := h₁)
  have hp0 : 0 ≤ (c0 : Int) - 917504 ∧ (c0 : Int) - 917504 < 128 := by omega
  have hp1 : 0 ≤ (c1 : Int) - 917504 ∧ (c1 : Int) - 917504 < 128 := by omega
  have hp2 : 0 ≤ (c2 : Int) - 917504 ∧ (c2 : Int) - 917504 < 128 := by omega
  have hp3 : 0 ≤ (c3 : Int) - 917504 ∧ (c3 : Int) - 917504 < 128 := by omega
  have hp4 : 0 ≤ (c4 : Int) - 917504 ∧ (c4 : Int) - 917504 < 128 := by omega
  have hp5 : 0 ≤ (c5 : Int) - 917504 ∧ (c5 : Int) - 917504 < 128 := by omega
  k_steps
  iterate 6
    (rename LCg.NsObj _ _ => cBy
     rename News _ _ _ _ => nBy
     rename Fr _ _ _ _ => fBy
     refine Stop.mk (flag_elt fBy nBy (by assumption) (by assumption) cBy (by assumption) (by assumption) ?_)
     clear fBy nBy
     intro _ _ _ _ _ _
     try dsimp only
     k_steps)
  rename Fr _ _ _ _ => F1
  rename News _ _ _ _ => N1
  refine Stop.mk (cut2 F1 N1 ?_)
  clear F1 N1
  repeat (first | (rename_i x; clear x) | (rename_i x; revert x))
  intros
  refine wpAny_execs_cons ?_
  k_steps
  iterate 3
    (rename News _ _ _ _ => nBy
     refine Stop.mk (item_bytes2 nBy (by k_mem) (by repeat constructor) (fmod_lo _ (by decide)) (Int.lt_of_lt_of_le (fmod_hi _ (by decide)) (by decide)) (Int.lt_trans (fmod_hi _ (by decide)) (by decide)) (by decide) ?_ (by with_unfolding_all rfl))
     intro tBy szBy
     try dsimp only
     k_steps)
  iterate 2
    (refine Stop.mk (addB (by (try simp only [Array.size_append, List.size_toArray, List.length_cons, List.length_nil]); omega) ?_)
     intro _ _
     try dsimp only
     k_steps)
  refine Stop.mk (get_bjoin ?_)
  try dsimp only
  k_steps
  rename News _ _ _ _ => nBy
  refine Stop.mk (call_join6 nBy (by k_mem) (by assumption) ?_)
  intro szJ
  try dsimp only
  k_steps
  iterate 3
    (refine Stop.mk (addB (by (try simp only [Array.size_append, List.size_toArray, List.length_cons, List.length_nil]); omega) ?_)
     intro _ _
     try dsimp only
     k_steps)
  rename Fr _ _ _ _ => F9
  rename News _ _ _ _ => N9
  exact h _ _ _ _ _ _ _ _ _ _ _ F9.keep (N9 _ (.head _)).1 (N9 _ (.tail _ (.tail _ (.tail _ (.tail _ (.head _)))))).1 (N9 _ (.head _)).2.2 (N9 _ (.tail _ (.tail _ (.tail _ (.tail _ (.head _)))))).2.2
end
section
variable {w : World} {A : Around} {R : Result → Shared → Prop} {s : Shared} {mg mb : Str → Option Value} {mean : ExcName → Option Value}
theorem l_reply0 {l : Addr} (hl : s.heap.IsList l #[]) {lk : Int} {tl : Tok} (hA : Room A) (C : Ok w mean mg mb s.heap)
    (h : ∀ h' n' a D t, s.heap.StaysIn h' → h'.get? a = some { cls := .type "tuple", data := .seq #[.ref D, .bytes (replyOf lk #[]) t] } → s.heap.get? a = none → R (.ok (.ret (.ref a))) { s with heap := h', toks := n' }) :
    codeAny (model PySem.Challenge.rw_kl0204_01.row.prog w) A (.call (.ref 298) ⟨[.ref l, .int lk tl], []⟩) R s := by
  obtain ⟨KX, T⟩ := C
  revert KX
  k_fill
  intro KX
  obtain ⟨hd, dp, fr, gd, un⟩ := A
  obtain ⟨hh, hroom, hun⟩ := hA
  dsimp only at hh hroom hun
  subst hh
  refine call_plain_ret (show dp < recursionLimit by omega) (KX 298 _ rfl) (name := .ofString "_law_reply") (pm := _) (doc := .none) (cd := .ref 297) rfl T.nolimit (codeRec_of KX (by kernel_rfl)) (binds := [(.ofString "names", .ref l), (.ofString "look", .int lk tl)]) (by rfl) (locs (by rfl)) (fun h₁ F => ?_)
  have N := news_nil (h₀ := s.heap) (L := s.heap.objs.size) (h := h₁)
  k_steps
  refine Stop.mk (wpAny_execs_cons ?_)
  k_steps
  iterate 3
    (rename News _ _ _ _ => nBy
     refine Stop.mk (item_bytes2 nBy (by k_mem) (by repeat constructor) (fmod_lo _ (by decide)) (Int.lt_of_lt_of_le (fmod_hi _ (by decide)) (by decide)) (Int.lt_trans (fmod_hi _ (by decide)) (by decide)) (by decide) ?_ (by with_unfolding_all rfl))
     intro tBy szBy
     try dsimp only
     k_steps)
  iterate 2
    (refine Stop.mk (addB (by (try simp only [Array.size_append, List.size_toArray, List.length_cons, List.length_nil]); omega) ?_)
     intro _ _
     try dsimp only
     k_steps)
  refine Stop.mk (get_bjoin ?_)
  try dsimp only
  k_steps
  rename News _ _ _ _ => nBy
  refine Stop.mk (call_join0 nBy (by k_mem) (by assumption) ?_)
  try dsimp only
  k_steps
  iterate 3
    (refine Stop.mk (addB (by (try simp only [Array.size_append, List.size_toArray, List.length_cons, List.length_nil]); omega) ?_)
     intro _ _
     try dsimp only
     k_steps)
  rename Fr _ _ _ _ => F9
  rename News _ _ _ _ => N9
  exact h _ _ _ _ _ F9.keep (N9 _ (.head _)).1 (N9 _ (.head _)).2.2
end
end Mine
end
/- part W19 -/
section
open PySem PySem.W PySem.Calls PyProof.Rows
set_option maxRecDepth 100000
set_option maxHeartbeats 4000000
set_option linter.unusedVariables false
namespace Mine
theorem ints_byteArr : ∀ (ns : List Int), (∀ n ∈ ns, 0 ≤ n ∧ n < 256) → (ns.map fun n => n.toNat.toUInt8).map (fun c => (c.toNat : Int)) = ns
  | [], _ => rfl
  | n :: ns, h => by
    have hn := h n (.head _)
    rw [List.map_cons, List.map_cons, ints_byteArr ns fun x hx => h x (.tail _ hx)]
    have e : ((n.toNat.toUInt8).toNat : Int) = n := by
      show ((UInt8.ofNat n.toNat).toNat : Int) = n
      rw [UInt8.toNat_ofNat_of_lt' (by show n.toNat < 2 ^ 8; omega)]
      omega
    rw [e]
theorem flag_ints {p : Int} (h0 : 0 ≤ p) (h1 : p < 128) : KBw.bInts (flagOf p) = [243, 160, 128 + p.fdiv 64, 128 + p.fmod 64] ∨ KBw.bInts (flagOf p) = [92, 88, 121, 243, 160, 128 + p.fdiv 64, 128 + p.fmod 64] := by
  have e1 : p.fdiv 64 = p / 64 := Int.fdiv_eq_ediv_of_nonneg _ (by decide)
  have e2 : p.fmod 64 = p % 64 := Int.fmod_eq_emod_of_nonneg _ (by decide)
  have ht : (tagOf p).toList.map (fun c => (c.toNat : Int)) = [243, 160, 128 + p.fdiv 64, 128 + p.fmod 64] := by
    unfold tagOf byteArr
    refine ints_byteArr _ ?_
    rw [e1, e2]
    intro n hn
    simp only [List.mem_cons, List.not_mem_nil, or_false] at hn
    omega
  have h2 : p.fmod 2 = 0 ∨ p.fmod 2 = 1 := by
    have := fmod_lo p (n := 2) (by decide)
    have := fmod_hi p (n := 2) (by decide)
    omega
  unfold KBw.bInts flagOf
  rw [Array.toList_append, List.map_append, ht]
  rcases h2 with e | e
  · left; rw [e]; rfl
  · right; rw [e]; rfl
theorem nth_ints {b : Array UInt8} {ks : List Int} (hk : KBw.bInts b = ks) {i : Nat} (h : i < ks.length) : ∃ c : UInt8, b[i]? = some c ∧ ((c.toNat : Nat) : Int) = ks.getD i 0 := by
  subst hk
  have hs : i < b.size := by rw [← KBw.ints_length b]; exact h
  refine ⟨b[i], Array.getElem?_eq_getElem hs, ?_⟩
  unfold KBw.bInts
  rw [List.getD_eq_getElem?_getD, List.getElem?_map, Array.getElem?_toList, Array.getElem?_eq_getElem hs]
  rfl
section
variable {prog : Program} {w : World} {A : Around} {E : Value → Shared → Prop} {s : Shared}
/-- an item counted from the end: i stands d places ahead of it -/
theorem item_back {value slice : PySem.Expr} {b : Array UInt8} {ks : List Int} {i : Int} {d : Nat} {t u : Tok} {Q : Value → Shared → Prop} (hk : KBw.bInts b = ks) (hl : ks.length ≤ 1000) (h0 : 0 < d) (h1 : d ≤ ks.length) (hi : i = -(d : Int))
    (h : ∀ t' k, Q (.int (ks.getD (ks.length - d) 0) t') { s with toks := k })
    (hs : subscripted slice false (.bytes b t) (.int i u) = operate [.bytes b t, .int i u] (getItem (.bytes b t) (.int i u))) :
    wpAny (model prog w) A (subscriptTail value slice (.bytes b t) (.int i u)) Q E s := by
  obtain ⟨c, hc, e⟩ := nth_ints hk (i := ks.length - d) (by omega)
  have hb : b.size = ks.length := by rw [← hk, KBw.ints_length]
  have hidx : seqIndex? i b.size = some (ks.length - d) := by
    have a1 : i < 0 := by omega
    have a2 : 0 ≤ i + (b.size : Int) := by omega
    have a3 : i + (b.size : Int) < (b.size : Int) := by omega
    have a4 : (i + (b.size : Int)).toNat = ks.length - d := by omega
    simp only [seqIndex?, if_pos a1, a4]
    rw [if_pos (by first | exact ⟨a2, a3⟩ | simp [a2, a3])]
  have hf : Builtin.Bytes.fitsIndex i = true := by
    simp only [Builtin.Bytes.fitsIndex, Bool.and_eq_true, decide_eq_true_eq]
    omega
  refine tail_any (T := "bytes") (typeIs_bytes _ _ _) FB.slot_bytes_getitem.lookup (getItem_gives (typeIs_bytes s _ t) (by decide) FB.slot_bytes_getitem FB.entry_bytes_getitem (FB.args_bytes_getitem_2 _ _) (gives_bytes_getitem b i t u c hf (by rw [hidx]; exact hc)) ?_) hs
  rw [e]
  exact h _ _
theorem item_flag {value slice : PySem.Expr} {p i : Int} {t u : Tok} {Q : Value → Shared → Prop} (h0 : 0 ≤ p) (h1 : p < 128) (hi : i = -2 ∨ i = -1)
    (h : ∀ t' k, Q (.int (if i = -2 then 128 + p.fdiv 64 else 128 + p.fmod 64) t') { s with toks := k })
    (hs : subscripted slice false (.bytes (flagOf p) t) (.int i u) = operate [.bytes (flagOf p) t, .int i u] (getItem (.bytes (flagOf p) t) (.int i u)) := by with_unfolding_all rfl) :
    wpAny (model prog w) A (subscriptTail value slice (.bytes (flagOf p) t) (.int i u)) Q E s := by
  rcases flag_ints h0 h1 with e | e <;> rcases hi with rfl | rfl
  · exact item_back e (by simp only [List.length_cons, List.length_nil]; omega) (d := 2) (by decide) (by simp only [List.length_cons, List.length_nil]; omega) (by decide) (fun t' k => h t' k) hs
  · exact item_back e (by simp only [List.length_cons, List.length_nil]; omega) (d := 1) (by decide) (by simp only [List.length_cons, List.length_nil]; omega) (by decide) (fun t' k => h t' k) hs
  · exact item_back e (by simp only [List.length_cons, List.length_nil]; omega) (d := 2) (by decide) (by simp only [List.length_cons, List.length_nil]; omega) (by decide) (fun t' k => h t' k) hs
  · exact item_back e (by simp only [List.length_cons, List.length_nil]; omega) (d := 1) (by decide) (by simp only [List.length_cons, List.length_nil]; omega) (by decide) (fun t' k => h t' k) hs
theorem item_hi {value slice : PySem.Expr} {p : Int} {t u : Tok} {Q : Value → Shared → Prop} (h0 : 0 ≤ p) (h1 : p < 128) (h : ∀ t' k, Q (.int (128 + p.fdiv 64) t') { s with toks := k })
    (hs : subscripted slice false (.bytes (flagOf p) t) (.int (-2) u) = operate [.bytes (flagOf p) t, .int (-2) u] (getItem (.bytes (flagOf p) t) (.int (-2) u)) := by with_unfolding_all rfl) :
    wpAny (model prog w) A (subscriptTail value slice (.bytes (flagOf p) t) (.int (-2) u)) Q E s := item_flag h0 h1 (.inl rfl) (fun t' k => by rw [if_pos rfl]; exact h t' k) hs
theorem item_lo {value slice : PySem.Expr} {p : Int} {t u : Tok} {Q : Value → Shared → Prop} (h0 : 0 ≤ p) (h1 : p < 128) (h : ∀ t' k, Q (.int (128 + p.fmod 64) t') { s with toks := k })
    (hs : subscripted slice false (.bytes (flagOf p) t) (.int (-1) u) = operate [.bytes (flagOf p) t, .int (-1) u] (getItem (.bytes (flagOf p) t) (.int (-1) u)) := by with_unfolding_all rfl) :
    wpAny (model prog w) A (subscriptTail value slice (.bytes (flagOf p) t) (.int (-1) u)) Q E s := item_flag h0 h1 (.inr rfl) (fun t' k => by rw [if_neg (by decide)]; exact h t' k) hs
end
end Mine
end
/- part W20 -/
section
open PySem PySem.W PySem.Calls PyProof.Rows
set_option maxRecDepth 100000
set_option maxHeartbeats 4000000
set_option linter.unusedVariables false
namespace Mine
noncomputable def turnBody : List Stmt := (lawBody.findSome? fun st => match st with
  | .For (.Name n _) _ b _ _ => if n == Str.ofString "turn" then some b else none
  | _ => none).getD []
noncomputable def lawScope : Scope := ((PySem.Program.main PySem.Challenge.rw_kl0204_01.row.prog).body.findSome? fun st => match st with
  | .FunctionDef n _ _ _ _ _ sc _ _ _ => if n == Str.ofString "law" then some sc else none
  | _ => none).getD default
noncomputable def toldOf : Stmt → PySem.Expr
  | .Assign _ (.Call _ (e :: _) _ _) _ => e
  | _ => .Constant .none 0 default
noncomputable def toldComp : PySem.Expr := toldOf (turnBody.getD 3 (.Pass default))
noncomputable def ToldF (v y : Value) : Prop := ∃ p t t', v = .bytes (flagOf p) t ∧ 0 ≤ p ∧ p < 128 ∧ y = .str ⟨#[(917504 + p).toNat]⟩ t'
theorem flag_inj {p q : Int} (hp0 : 0 ≤ p) (hp1 : p < 128) (hq0 : 0 ≤ q) (hq1 : q < 128) (e : flagOf p = flagOf q) : p = q := by
  have g := congrArg KBw.bInts e
  have a1 : p.fdiv 64 = p / 64 := Int.fdiv_eq_ediv_of_nonneg _ (by decide)
  have a2 : p.fmod 64 = p % 64 := Int.fmod_eq_emod_of_nonneg _ (by decide)
  have b1 : q.fdiv 64 = q / 64 := Int.fdiv_eq_ediv_of_nonneg _ (by decide)
  have b2 : q.fmod 64 = q % 64 := Int.fmod_eq_emod_of_nonneg _ (by decide)
  rcases flag_ints hp0 hp1 with h | h <;> rcases flag_ints hq0 hq1 with h' | h' <;> rw [h, h'] at g
  all_goals (simp only [List.cons.injEq, reduceCtorEq, and_false, true_and, and_true] at g; try omega)
theorem m_split {m : Str → Option Value} {x : Str} {v : Option Value} (h : m x = v) : m = fun y => if y = x then v else m y := by
  funext y
  by_cases e : y = x
  · rw [if_pos e, e, h]
  · rw [if_neg e]
theorem told_one {p : Int} {t : Tok} {y : Value} (hp0 : 0 ≤ p) (hp1 : p < 128) (h : ToldF (.bytes (flagOf p) t) y) : ∃ t', y = .str ⟨#[(917504 + p).toNat]⟩ t' := by
  obtain ⟨q, u, t', e, h0, h1, hy⟩ := h
  injection e with e1 e2
  rw [flag_inj hp0 hp1 h0 h1 e1]
  exact ⟨t', hy⟩
inductive FlagsAre : List Value → List Int → Prop
  | nil : FlagsAre [] []
  | cons {p : Int} {t : Tok} {vs : List Value} {ps : List Int} : 0 ≤ p ∧ p < 128 → FlagsAre vs ps → FlagsAre (.bytes (flagOf p) t :: vs) (p :: ps)
theorem flags_mem : ∀ {vs : List Value} {ps : List Int}, FlagsAre vs ps → ∀ v ∈ vs, ∃ p t, v = .bytes (flagOf p) t ∧ 0 ≤ p ∧ p < 128
  | _, _, .nil, _, h => nomatch h
  | _, _, .cons (p := p) (t := t) h r, v, hv => by
    cases hv with
    | head => exact ⟨p, t, rfl, h⟩
    | tail _ hv => exact flags_mem r v hv
theorem flags_chars : ∀ {vs : List Value} {ps : List Int}, FlagsAre vs ps → ∀ {ys : List Value}, Paired ToldF vs ys → CharsAre ys (ps.map fun p => (917504 + p).toNat)
  | _, _, .nil, _, h => by cases h; exact .nil
  | _, _, .cons h r, _, f => by
    cases f with
    | cons f0 f =>
      obtain ⟨u, rfl⟩ := told_one h.1 h.2 f0
      exact .cons (flags_chars r f)
theorem list_same {α : Type} {vs ws : List α} (hl : vs.length = ws.length) (h : ∀ (j : Nat) (v : α), vs[j]? = some v → ws[j]? = some v) : vs = ws :=
  List.ext_getElem hl fun i h1 h2 => by
    have := h i _ (List.getElem?_eq_getElem h1)
    rw [List.getElem?_eq_getElem h2] at this
    exact (Option.some.inj this).symm
local macro_rules | `(tactic| walk_at $k:str) => if ["subscriptTail", "call builtin:chr", "pyIter ref"].contains k.getString then `(tactic| (refine unstop ?_)) else Lean.Macro.throwUnsupported
section
variable {w : World} {dp un : Nat} {fr : Option (List Env)} {gd : Option (List Code)} {env0 : Env} {nm : Str} {a : Addr} {cd : Value} {s : Shared} {mg mb : Str → Option Value} {mean : ExcName → Option Value} {h₀ : Heap} {L : Addr} {m : Str → Option Value}
  {Q E : Value → Shared → Prop}
theorem told_comp {a3 : Addr} {vs0 : List Value} {ps : List Int} (F : Fr h₀ L s.heap m) (KX : (Kd w.params).In h₀) (T : Top Qv L3 mean mg mb h₀)
    (ht : s.heap.IsTuple a3 (List.toArray vs0)) (hp : FlagsAre vs0 ps) (hl0 : vs0.length ≤ 100) (hm : m (Str.ofString "told") = some (.ref a3))
    (h : ∀ D h' tk ys, s.heap.StaysIn h' → h'.IsList D (List.toArray ys) → CharsAre ys (ps.map fun p => (917504 + p).toNat) → Q (.ref D) { s with heap := h', toks := tk }) :
    wpAny (model PySem.Challenge.rw_kl0204_01.row.prog w) (Around.deeper { handled := none, depth := dp, frames := fr, guards := gd, units := un } env0) (eval toldComp (envOf nm lawScope L a cd)) Q E s := by
  rw [m_split hm] at F
  rw [show toldComp = Expr.ListComp _ _ _ _ from rfl]
  rw [show lawScope = Scope.mk _ _ _ _ _ from rfl]
  revert KX
  k_fill
  intro KX
  refine wpAny_ListComp_free (fun _ => true) ToldF rfl (by decide) rfl (by decide) (by rfl) ?_
  k_steps
  refine Stop.mk (wpAny_pyIter_tuple ht ?_)
  obtain ⟨o3, ho3, hc3⟩ := ht
  have hlt : a3 < s.heap.objs.size := Heap.lt_size ho3
  have hI : s.heap.get? s.heap.objs.size = none := Heap.get?_none_of_le (Nat.le_refl _)
  refine ⟨s.heap.objs.size, [s.heap.objs.size, a3], [s.heap.objs.size], _, _, _, rfl, Walks.tuple rfl s.heap.objs.size a3 (Nat.ne_of_lt hlt) (List.toArray vs0), (by rw [sizeLine_eq, List.size_toArray]; omega),
    ⟨⟨_, Heap.get?_push_size _ rfl, rfl, rfl⟩, Heap.IsTuple.push ⟨o3, ho3, hc3⟩ _⟩, ?_, ⟨?_, ?_⟩, ?_⟩
  · intro b hb
    rw [Heap.size_push]
    simp only [List.mem_cons, List.not_mem_nil, or_false] at hb
    rcases hb with rfl | rfl
    · exact Nat.lt_succ_self _
    · exact Nat.lt_succ_of_lt hlt
  · intro C i v s₃ m₃ E' hC hP hns hx hk htk
    exact wpAny_tests_nil ⟨rfl, _, _, rfl, fun _ _ e => e⟩
  · intro C i v s₃ m₃ E' hC hP _ hns hx hk htk
    obtain ⟨p, t, rfl, hp0, hp1⟩ := flags_mem hp v (List.mem_of_getElem? (by rw [← List.getElem?_toArray]; exact hP))
    have hk' : s.heap.StaysIn s₃.heap := fun b o e => hk b o (by
      intro hb
      rw [List.mem_singleton] at hb
      rw [hb, hI] at e
      cases e) (Heap.get?_push_of_some _ e)
    have F4 := F.keeps hk'
    clear F
    k_steps
    refine Stop.mk (item_hi hp0 hp1 (fun _ _ => ?_))
    k_steps
    refine Stop.mk (item_lo hp0 hp1 (fun _ _ => ?_))
    k_steps
    have a1 : p.fdiv 64 = p / 64 := Int.fdiv_eq_ediv_of_nonneg _ (by decide)
    have a2 : p.fmod 64 = p % 64 := Int.fmod_eq_emod_of_nonneg _ (by decide)
    have e : 917504 + (128 + p.fdiv 64 - 128) * 64 + (128 + p.fmod 64) - 128 = 917504 + p := by omega
    rw [e]
    refine Stop.mk (chr_of_range (by omega) (by omega) ?_)
    k_steps
    · exact ⟨p, t, _, rfl, hp0, hp1, rfl⟩
    · exact ⟨_, _, rfl, fun _ _ e => e⟩
  · intro D h' tk ys vs hD hys _ hlen hP hF hk
    refine h D h' tk ys.toList (fun b o e => hk b o (by
      intro hb
      rw [List.mem_singleton] at hb
      rw [hb, hI] at e
      cases e) (Heap.get?_push_of_some _ e)) (by rw [Array.toArray_toList]; exact hys) (flags_chars hp (by
      have e := list_same (vs := vs) (ws := vs0) (by rw [hlen, List.size_toArray]) (fun j v e => by rw [← List.getElem?_toArray]; exact hP j v e)
      rw [List.filter_eq_self.mpr (fun _ _ => rfl), e] at hF
      exact hF))
end
end Mine
end
/- part W23 -/
section
open PySem PySem.W PySem.Calls PyProof.Rows
set_option maxRecDepth 100000
set_option maxHeartbeats 4000000
set_option linter.unusedVariables false
namespace Mine
/-- an object that is a list of these values -/
noncomputable def IsL (o : Obj) (vs : List Value) : Prop := o.cls = .type "list" ∧ ∃ n, o.data = .seq (List.toArray vs) n
theorem isl {h₀ h : Heap} {L a : Addr} {o : Obj} {vs : List Value} {news : List (Addr × Obj)} (N : News h₀ L h news) (hm : (a, o) ∈ news) (ho : IsL o vs) : h.IsList a vs.toArray :=
  ⟨o, (N _ hm).1, ho.1, ho.2⟩
section
variable {E : Value → Shared → Prop} {s : Shared} {h₀ : Heap} {L : Addr} {m : Str → Option Value} {news : List (Addr × Obj)} {Q : Value → Shared → Prop}
noncomputable def EndR (s : Shared) (h₀ : Heap) (L : Addr) (m : Str → Option Value) (news : List (Addr × Obj)) (ks : List Int) (v : Value) (s' : Shared) : Prop :=
  ∃ D us h tk, v = .ref D ∧ s' = { s with heap := h, toks := tk } ∧ Fr h₀ L h m ∧ News h₀ L h news ∧ h.IsList D (List.toArray us) ∧ IntsAre us ks
theorem EndR.mk {D : Addr} {us : List Value} {ks : List Int} {h : Heap} {tk : Nat} (F : Fr h₀ L h m) (N : News h₀ L h news) (hl : h.IsList D us.toArray) (hi : IntsAre us ks) : EndR s h₀ L m news ks (.ref D) { s with heap := h, toks := tk } :=
  ⟨D, us, h, tk, rfl, rfl, F, N, hl, hi⟩
theorem cutR {t : Sem Value} {M : Model} {A : Around} {ks : List Int} (F : Fr h₀ L s.heap m) (N : News h₀ L s.heap news)
    (h1 : wpAny M A t (fun v s' => EndR s h₀ L m news ks v s') E s)
    (h2 : ∀ D us h tk, Fr h₀ L h m → News h₀ L h news → h.IsList D (List.toArray us) → IntsAre us ks → Q (.ref D) { s with heap := h, toks := tk }) : wpAny M A t Q E s := by
  refine wpAny_mono h1 (fun f s' p => ?_) fun _ _ x => x
  obtain ⟨D, us, h, tk, rfl, rfl, F', N', hl, hi⟩ := p
  exact h2 D us h tk F' N' hl hi
end
end Mine
end
/- part S1 -/
section
set_option maxRecDepth 100000
set_option linter.unusedVariables false
namespace Mine
noncomputable def ltB (x y : Nat) : Bool := cond (Nat.ble y x) false true
noncomputable def popR (K : List Nat → List Nat → List Nat) (c : Nat) (st : List Nat) : List Nat → List Nat :=
  List.rec (motive := fun _ => List Nat → List Nat) (fun out => K [] out) (fun d st ih out => cond (Nat.ble c d) (K (d :: st) out) (ih (d :: out))) st
noncomputable def revR (out : List Nat) : List Nat → List Nat :=
  List.rec (motive := fun _ => List Nat → List Nat) (fun acc => acc) (fun d _ ih acc => ih (d :: acc)) out
noncomputable def goR (l : List Nat) : List Nat → List Nat → List Nat :=
  List.rec (motive := fun _ => List Nat → List Nat → List Nat) (fun st out => revR out st) (fun c _ ih st out => popR (fun st' out' => ih (c :: st') out') c st out) l
noncomputable def srt (l : List Nat) : List Nat := goR l [] []
noncomputable def upR (l : List Nat) : Nat → Bool :=
  List.rec (motive := fun _ => Nat → Bool) (fun _ => true) (fun d _ ih x => cond (Nat.ble x d) (ih d) false) l
noncomputable def threeB (a b c d e f : Nat) : Bool := ((ltB c a && ltB a b) || ((ltB d a && ltB a b) || ((ltB e a && ltB a b) || ((ltB f a && ltB a b) || ((ltB d a && ltB a c) || ((ltB e a && ltB a c) || ((ltB f a && ltB a c) || ((ltB e a && ltB a d) || ((ltB f a && ltB a d) || ((ltB f a && ltB a e) || ((ltB d b && ltB b c) || ((ltB e b && ltB b c) || ((ltB f b && ltB b c) || ((ltB e b && ltB b d) || ((ltB f b && ltB b d) || ((ltB f b && ltB b e) || ((ltB e c && ltB c d) || ((ltB f c && ltB c d) || ((ltB f c && ltB c e) || ((ltB f d && ltB d e) || false))))))))))))))))))))
noncomputable def fourB (a b c d e f : Nat) : Bool := (((ltB d a && (ltB a b && ltB b c)) || (ltB d b && (ltB b a && (ltB a c && true)))) || (((ltB e a && (ltB a b && ltB b c)) || (ltB e b && (ltB b a && (ltB a c && true)))) || (((ltB f a && (ltB a b && ltB b c)) || (ltB f b && (ltB b a && (ltB a c && true)))) || (((ltB e a && (ltB a b && ltB b d)) || (ltB e b && (ltB b a && (ltB a d && true)))) || (((ltB f a && (ltB a b && ltB b d)) || (ltB f b && (ltB b a && (ltB a d && true)))) || (((ltB f a && (ltB a b && ltB b e)) || (ltB f b && (ltB b a && (ltB a e && true)))) || (((ltB e a && (ltB a c && ltB c d)) || (ltB e c && (ltB c a && (ltB a d && (Nat.ble b a && true))))) || (((ltB f a && (ltB a c && ltB c d)) || (ltB f c && (ltB c a && (ltB a d && (Nat.ble b a && true))))) || (((ltB f a && (ltB a c && ltB c e)) || (ltB f c && (ltB c a && (ltB a e && (Nat.ble b a && true))))) || (((ltB f a && (ltB a d && ltB d e)) || (ltB f d && (ltB d a && (ltB a e && (Nat.ble b a && (Nat.ble c a && true)))))) || (((ltB e b && (ltB b c && ltB c d)) || (ltB e c && (ltB c b && (ltB b d && true)))) || (((ltB f b && (ltB b c && ltB c d)) || (ltB f c && (ltB c b && (ltB b d && true)))) || (((ltB f b && (ltB b c && ltB c e)) || (ltB f c && (ltB c b && (ltB b e && true)))) || (((ltB f b && (ltB b d && ltB d e)) || (ltB f d && (ltB d b && (ltB b e && (Nat.ble c b && true))))) || (((ltB f c && (ltB c d && ltB d e)) || (ltB f d && (ltB d c && (ltB c e && true)))) || false)))))))))))))))
noncomputable def idx3 : List (Nat × Nat × Nat) := [(0, 1, 2), (0, 1, 3), (0, 1, 4), (0, 1, 5), (0, 2, 3), (0, 2, 4), (0, 2, 5), (0, 3, 4), (0, 3, 5), (0, 4, 5), (1, 2, 3), (1, 2, 4), (1, 2, 5), (1, 3, 4), (1, 3, 5), (1, 4, 5), (2, 3, 4), (2, 3, 5), (2, 4, 5), (3, 4, 5)]
noncomputable def idx4 : List (Nat × Nat × Nat × Nat) := [(0, 1, 2, 3), (0, 1, 2, 4), (0, 1, 2, 5), (0, 1, 3, 4), (0, 1, 3, 5), (0, 1, 4, 5), (0, 2, 3, 4), (0, 2, 3, 5), (0, 2, 4, 5), (0, 3, 4, 5), (1, 2, 3, 4), (1, 2, 3, 5), (1, 2, 4, 5), (1, 3, 4, 5), (2, 3, 4, 5)]
noncomputable def leafB (a b c d e f : Nat) (l : List Nat) : Bool :=
  (upR (srt l) 0 == !threeB a b c d e f) && ((upR (srt (srt l)) 0 == !fourB a b c d e f) && upR (srt (srt (srt (srt (srt l))))) 0)
noncomputable def cntB (l : List Nat) (x : Nat) : Nat := List.rec (motive := fun _ => Nat) 0 (fun d _ ih => cond (Nat.ble x d) ih (Nat.succ ih)) l
noncomputable def okB (l : List Nat) : Bool := l.all fun x => Nat.ble (cntB l x) x && Nat.ble (l.length + x) (6 + cntB l x)
noncomputable def all6 (f : Nat → Bool) : Bool := f 0 && (f 1 && (f 2 && (f 3 && (f 4 && f 5))))
noncomputable def tree2 (a b : Nat) : Bool := cond (okB [a, b]) (all6 fun c => cond (okB [a, b, c]) (all6 fun d => cond (okB [a, b, c, d]) (all6 fun e => cond (okB [a, b, c, d, e]) (all6 fun f => cond (okB [a, b, c, d, e, f]) (leafB a b c d e f [a, b, c, d, e, f]) true) true) true) true) true
theorem tree_00 : tree2 0 0 = true := by decide +kernel
theorem tree_01 : tree2 0 1 = true := by decide +kernel
theorem tree_02 : tree2 0 2 = true := by decide +kernel
theorem tree_03 : tree2 0 3 = true := by decide +kernel
theorem tree_04 : tree2 0 4 = true := by decide +kernel
theorem tree_05 : tree2 0 5 = true := by decide +kernel
theorem tree_10 : tree2 1 0 = true := by decide +kernel
theorem tree_11 : tree2 1 1 = true := by decide +kernel
theorem tree_12 : tree2 1 2 = true := by decide +kernel
theorem tree_13 : tree2 1 3 = true := by decide +kernel
theorem tree_14 : tree2 1 4 = true := by decide +kernel
theorem tree_15 : tree2 1 5 = true := by decide +kernel
theorem tree_20 : tree2 2 0 = true := by decide +kernel
theorem tree_21 : tree2 2 1 = true := by decide +kernel
theorem tree_22 : tree2 2 2 = true := by decide +kernel
theorem tree_23 : tree2 2 3 = true := by decide +kernel
theorem tree_24 : tree2 2 4 = true := by decide +kernel
theorem tree_25 : tree2 2 5 = true := by decide +kernel
theorem tree_30 : tree2 3 0 = true := by decide +kernel
theorem tree_31 : tree2 3 1 = true := by decide +kernel
theorem tree_32 : tree2 3 2 = true := by decide +kernel
theorem tree_33 : tree2 3 3 = true := by decide +kernel
theorem tree_34 : tree2 3 4 = true := by decide +kernel
theorem tree_35 : tree2 3 5 = true := by decide +kernel
theorem tree_40 : tree2 4 0 = true := by decide +kernel
theorem tree_41 : tree2 4 1 = true := by decide +kernel
theorem tree_42 : tree2 4 2 = true := by decide +kernel
theorem tree_43 : tree2 4 3 = true := by decide +kernel
theorem tree_44 : tree2 4 4 = true := by decide +kernel
theorem tree_45 : tree2 4 5 = true := by decide +kernel
theorem tree_50 : tree2 5 0 = true := by decide +kernel
theorem tree_51 : tree2 5 1 = true := by decide +kernel
theorem tree_52 : tree2 5 2 = true := by decide +kernel
theorem tree_53 : tree2 5 3 = true := by decide +kernel
theorem tree_54 : tree2 5 4 = true := by decide +kernel
theorem tree_55 : tree2 5 5 = true := by decide +kernel
end Mine
end
/- part S2 -/
section
set_option maxRecDepth 100000
set_option linter.unusedVariables false
set_option linter.unusedSimpArgs false
namespace Mine
theorem ble_no {x y : Nat} (h : y < x) : Nat.ble x y = false := Bool.eq_false_iff.mpr fun g => absurd (Nat.ble_eq.mp g) (by omega)
theorem ltB_eq (x y : Nat) : ltB x y = decide (x < y) := by
  unfold ltB
  by_cases h : x < y
  · rw [decide_eq_true h, ble_no h]; rfl
  · rw [decide_eq_false h, Nat.ble_eq.mpr (by omega)]; rfl
theorem popS_all (c : Nat) : ∀ st out, (popS c st out).2 ++ (popS c st out).1 = out ++ st
  | [], out => rfl
  | d :: st, out => by
    unfold popS
    split
    · rw [popS_all c st (out ++ [d]), List.append_assoc]; rfl
    · rfl
theorem runS_perm (cs : List Nat) : ∀ s : List Nat × List Nat, List.Perm ((cs.foldl stepS s).2 ++ (cs.foldl stepS s).1) (s.2 ++ s.1 ++ cs) := by
  induction cs with
  | nil => intro s; rw [List.append_nil]; exact .refl _
  | cons c cs ih =>
    intro s
    refine (ih (stepS s c)).trans ?_
    show List.Perm ((popS c s.1 s.2).2 ++ c :: (popS c s.1 s.2).1 ++ cs) _
    have h := popS_all c s.1 s.2
    have e1 : List.Perm ((popS c s.1 s.2).2 ++ c :: (popS c s.1 s.2).1) (c :: (s.2 ++ s.1)) := by
      rw [← h]; exact List.perm_middle
    refine (e1.append_right cs).trans ?_
    exact (List.perm_middle (l₁ := s.2 ++ s.1) (a := c) (l₂ := cs)).symm
theorem sortS_perm (cs : List Nat) : List.Perm (sortS cs) cs := runS_perm cs ([], [])
theorem popS_map {f : Nat → Nat} {S : Nat → Prop} (hf : ∀ a b, S a → S b → (f a < f b ↔ a < b)) {c : Nat} (hc : S c) : ∀ st out, (∀ d ∈ st, S d) → popS (f c) (st.map f) (out.map f) = ((popS c st out).1.map f, (popS c st out).2.map f)
  | [], out, _ => rfl
  | d :: st, out, h => by
    have hd := hf d c (h d (.head _)) hc
    rw [List.map_cons]
    unfold popS
    by_cases e : d < c
    · rw [if_pos e, if_pos (hd.mpr e)]
      have := popS_map hf hc st (out ++ [d]) (fun x hx => h x (.tail _ hx))
      rw [List.map_append] at this
      exact this
    · rw [if_neg e, if_neg (fun g => e (hd.mp g))]
      rfl
theorem runS_map {f : Nat → Nat} {S : Nat → Prop} (hf : ∀ a b, S a → S b → (f a < f b ↔ a < b)) : ∀ (cs : List Nat) (s : List Nat × List Nat), (∀ c ∈ cs, S c) → (∀ c ∈ s.1, S c) →
    (cs.map f).foldl stepS (s.1.map f, s.2.map f) = ((cs.foldl stepS s).1.map f, (cs.foldl stepS s).2.map f)
  | [], s, _, _ => rfl
  | c :: cs, s, h1, h2 => by
    have hc := h1 c (.head _)
    have e : stepS (s.1.map f, s.2.map f) (f c) = ((stepS s c).1.map f, (stepS s c).2.map f) := by
      unfold stepS
      dsimp only
      rw [popS_map hf hc s.1 s.2 h2]
      rfl
    show List.foldl stepS (stepS _ (f c)) (cs.map f) = _
    rw [e]
    refine runS_map hf cs (stepS s c) (fun x hx => h1 x (.tail _ hx)) (fun x hx => ?_)
    have hx : x ∈ c :: (popS c s.1 s.2).1 := hx
    cases hx with
    | head => exact hc
    | tail _ hx =>
      refine h2 x ?_
      have : ∀ st out, ∀ x ∈ (popS c st out).1, x ∈ st := by
        intro st
        induction st with
        | nil => intro out x hx; exact hx
        | cons d st ih =>
          intro out x hx
          unfold popS at hx
          split at hx
          · exact .tail _ (ih _ x hx)
          · exact hx
      exact this _ _ x hx
theorem sortS_map {f : Nat → Nat} {cs : List Nat} (hf : ∀ a ∈ cs, ∀ b ∈ cs, (f a < f b ↔ a < b)) : sortS (cs.map f) = (sortS cs).map f := by
  have := runS_map (S := (· ∈ cs)) (fun a b ha hb => hf a ha b hb) cs ([], []) (fun _ h => h) (fun _ h => nomatch h)
  unfold sortS runS
  have e : List.foldl stepS ([], []) (cs.map f) = _ := this
  rw [e, List.map_append]
theorem popR_eq (K : List Nat → List Nat → List Nat) (c : Nat) : ∀ st out, popR K c st out = K (popS c st out.reverse).1 (popS c st out.reverse).2.reverse
  | [], out => by
    show K [] out = K [] out.reverse.reverse
    rw [List.reverse_reverse]
  | d :: st, out => by
    have ih := popR_eq K c st (d :: out)
    rw [List.reverse_cons] at ih
    show cond (Nat.ble c d) (K (d :: st) out) (popR K c st (d :: out)) = _
    unfold popS
    by_cases h : d < c
    · rw [ble_no h, if_pos h]
      exact ih
    · rw [Nat.ble_eq.mpr (by omega), if_neg h]
      show K (d :: st) out = K (d :: st) out.reverse.reverse
      rw [List.reverse_reverse]
theorem revR_eq : ∀ out acc, revR out acc = out.reverse ++ acc
  | [], acc => rfl
  | d :: out, acc => by
    show revR out (d :: acc) = _
    rw [revR_eq out, List.reverse_cons, List.append_assoc]; rfl
theorem goR_eq : ∀ (l st out : List Nat), goR l st out = (l.foldl stepS (st, out.reverse)).2 ++ (l.foldl stepS (st, out.reverse)).1
  | [], st, out => revR_eq out st
  | c :: l, st, out => by
    show popR (fun st' out' => goR l (c :: st') out') c st out = _
    rw [popR_eq, goR_eq l, List.reverse_reverse]
    rfl
theorem srt_eq (l : List Nat) : srt l = sortS l := goR_eq l [] []
/-- the six stand in order -/
noncomputable def upB (l : List Nat) : Prop := l.Pairwise (· ≤ ·)
theorem upR_iff : ∀ (l : List Nat) (x : Nat), upR l x = true ↔ (x :: l).Pairwise (· ≤ ·)
  | [], x => by simp [upR]
  | d :: l, x => by
    have ih := upR_iff l d
    have e : upR (d :: l) x = cond (Nat.ble x d) (upR l d) false := rfl
    rw [e]
    by_cases h : x ≤ d
    · rw [Nat.ble_eq.mpr h]
      show upR l d = true ↔ _
      rw [ih, List.pairwise_cons (a := x)]
      constructor
      · intro g
        refine ⟨fun b hb => ?_, g⟩
        cases hb with
        | head => exact h
        | tail _ hb => exact Nat.le_trans h ((List.pairwise_cons.mp g).1 b hb)
      · exact fun g => g.2
    · rw [ble_no (by omega)]
      constructor
      · intro g; cases g
      · intro g; exact absurd ((List.pairwise_cons.mp g).1 d (.head _)) h
theorem up0 (l : List Nat) : upR l 0 = true ↔ l.Pairwise (· ≤ ·) := by
  rw [upR_iff, List.pairwise_cons]
  exact ⟨fun h => h.2, fun h => ⟨fun _ _ => Nat.zero_le _, h⟩⟩
noncomputable def cnt (l : List Nat) (x : Nat) : Nat := (l.filter (fun y => decide (y < x))).length
theorem cntB_eq (x : Nat) : ∀ l, cntB l x = cnt l x
  | [] => rfl
  | d :: l => by
    have ih := cntB_eq x l
    show cond (Nat.ble x d) (cntB l x) (Nat.succ (cntB l x)) = _
    unfold cnt
    rw [ih, List.filter_cons]
    by_cases h : d < x
    · rw [ble_no h, if_pos (decide_eq_true h)]; rfl
    · rw [Nat.ble_eq.mpr (by omega), if_neg (by simpa using h)]; rfl
theorem cnt_cons (d : Nat) (l : List Nat) (x : Nat) : cnt (d :: l) x = (if d < x then 1 else 0) + cnt l x := by
  unfold cnt
  rw [List.filter_cons]
  by_cases h : d < x
  · rw [if_pos (decide_eq_true h), if_pos h, List.length_cons]; omega
  · rw [if_neg (by simpa using h), if_neg h]; omega
theorem cnt_mono {a b : Nat} (h : a ≤ b) : ∀ l, cnt l a ≤ cnt l b
  | [] => Nat.le_refl _
  | d :: l => by
    have := cnt_mono h l
    rw [cnt_cons, cnt_cons]
    split <;> split <;> omega
theorem cnt_lt {a b : Nat} (h : a < b) : ∀ l, a ∈ l → cnt l a < cnt l b
  | d :: l, hm => by
    rw [cnt_cons, cnt_cons]
    cases hm with
    | head => have := cnt_mono (Nat.le_of_lt h) l; rw [if_neg (Nat.lt_irrefl _), if_pos h]; omega
    | tail _ hm => have := cnt_lt h l hm; split <;> split <;> omega
theorem cnt_iff {l : List Nat} {a b : Nat} (ha : a ∈ l) (hb : b ∈ l) : cnt l a < cnt l b ↔ a < b :=
  ⟨fun h => Nat.lt_of_not_le fun g => Nat.not_le_of_lt h (cnt_mono g l), fun h => cnt_lt h l ha⟩
theorem cnt_map {f : Nat → Nat} {a : Nat} : ∀ l, (∀ b ∈ l, (f b < f a ↔ b < a)) → cnt (l.map f) (f a) = cnt l a
  | [], _ => rfl
  | d :: l, h => by
    rw [List.map_cons, cnt_cons, cnt_cons, cnt_map l (fun b hb => h b (.tail _ hb))]
    have := h d (.head _)
    by_cases e : d < a
    · rw [if_pos e, if_pos (this.mpr e)]
    · rw [if_neg e, if_neg (fun g => e (this.mp g))]
theorem cnt_le : ∀ (l : List Nat) (x : Nat), cnt l x ≤ l.length
  | [], _ => Nat.le_refl _
  | d :: l, x => by
    have := cnt_le l x
    rw [cnt_cons, List.length_cons]
    split <;> omega
theorem cnt_lt_len : ∀ (l : List Nat) (x : Nat), x ∈ l → cnt l x < l.length
  | d :: l, x, hm => by
    rw [cnt_cons, List.length_cons]
    cases hm with
    | head => have := cnt_le l d; rw [if_neg (Nat.lt_irrefl _)]; omega
    | tail _ hm => have := cnt_lt_len l x hm; split <;> omega
theorem cnt_append (x : Nat) (k l : List Nat) : cnt (k ++ l) x = cnt k x + cnt l x := by
  unfold cnt
  rw [List.filter_append, List.length_append]
/-- a front of a word of ranks is well -/
theorem ok_front {k l : List Nat} (hl : (k ++ l).length = 6) (h : ∀ x ∈ k ++ l, cnt (k ++ l) x = x) : okB k = true := by
  unfold okB
  rw [List.all_eq_true]
  intro x hx
  have hc := h x (List.mem_append_left _ hx)
  rw [cnt_append] at hc
  have h2 := cnt_le l x
  rw [List.length_append] at hl
  rw [Bool.and_eq_true, Nat.ble_eq, Nat.ble_eq, cntB_eq]
  omega
theorem all6_get {f : Nat → Bool} (h : all6 f = true) {x : Nat} (hx : x < 6) : f x = true := by
  unfold all6 at h
  simp only [Bool.and_eq_true] at h
  obtain ⟨h0, h1, h2, h3, h4, h5⟩ := h
  rcases (by omega : x = 0 ∨ x = 1 ∨ x = 2 ∨ x = 3 ∨ x = 4 ∨ x = 5) with rfl | rfl | rfl | rfl | rfl | rfl <;> assumption
theorem tree_all {a b : Nat} (ha : a < 6) (hb : b < 6) : tree2 a b = true :=
  match a, b, ha, hb with
  | 0, 0, _, _ => tree_00
  | 0, 1, _, _ => tree_01
  | 0, 2, _, _ => tree_02
  | 0, 3, _, _ => tree_03
  | 0, 4, _, _ => tree_04
  | 0, 5, _, _ => tree_05
  | 1, 0, _, _ => tree_10
  | 1, 1, _, _ => tree_11
  | 1, 2, _, _ => tree_12
  | 1, 3, _, _ => tree_13
  | 1, 4, _, _ => tree_14
  | 1, 5, _, _ => tree_15
  | 2, 0, _, _ => tree_20
  | 2, 1, _, _ => tree_21
  | 2, 2, _, _ => tree_22
  | 2, 3, _, _ => tree_23
  | 2, 4, _, _ => tree_24
  | 2, 5, _, _ => tree_25
  | 3, 0, _, _ => tree_30
  | 3, 1, _, _ => tree_31
  | 3, 2, _, _ => tree_32
  | 3, 3, _, _ => tree_33
  | 3, 4, _, _ => tree_34
  | 3, 5, _, _ => tree_35
  | 4, 0, _, _ => tree_40
  | 4, 1, _, _ => tree_41
  | 4, 2, _, _ => tree_42
  | 4, 3, _, _ => tree_43
  | 4, 4, _, _ => tree_44
  | 4, 5, _, _ => tree_45
  | 5, 0, _, _ => tree_50
  | 5, 1, _, _ => tree_51
  | 5, 2, _, _ => tree_52
  | 5, 3, _, _ => tree_53
  | 5, 4, _, _ => tree_54
  | 5, 5, _, _ => tree_55
  | a + 6, _, h, _ => absurd h (by omega)
  | 0, b + 6, _, h => absurd h (by omega)
  | 1, b + 6, _, h => absurd h (by omega)
  | 2, b + 6, _, h => absurd h (by omega)
  | 3, b + 6, _, h => absurd h (by omega)
  | 4, b + 6, _, h => absurd h (by omega)
  | 5, b + 6, _, h => absurd h (by omega)
theorem leaf_all {a b c d e f : Nat} (hlt : ∀ x ∈ [a, b, c, d, e, f], x < 6) (h : ∀ x ∈ [a, b, c, d, e, f], cnt [a, b, c, d, e, f] x = x) : leafB a b c d e f [a, b, c, d, e, f] = true := by
  have t := tree_all (hlt a (by simp)) (hlt b (by simp))
  unfold tree2 at t
  rw [ok_front (k := [a, b]) (l := [c, d, e, f]) rfl h, cond_true] at t
  have t := all6_get t (hlt c (by simp))
  try dsimp only at t
  rw [ok_front (k := [a, b, c]) (l := [d, e, f]) rfl h, cond_true] at t
  have t := all6_get t (hlt d (by simp))
  try dsimp only at t
  rw [ok_front (k := [a, b, c, d]) (l := [e, f]) rfl h, cond_true] at t
  have t := all6_get t (hlt e (by simp))
  try dsimp only at t
  rw [ok_front (k := [a, b, c, d, e]) (l := [f]) rfl h, cond_true] at t
  have t := all6_get t (hlt f (by simp))
  try dsimp only at t
  rw [ok_front (k := [a, b, c, d, e, f]) (l := []) rfl h, cond_true] at t
  exact t
theorem pw_map {f : Nat → Nat} {l : List Nat} (hf : ∀ a ∈ l, ∀ b ∈ l, (f a < f b ↔ a < b)) : (l.map f).Pairwise (· ≤ ·) ↔ l.Pairwise (· ≤ ·) := by
  rw [List.pairwise_map]
  constructor <;> intro h
  · refine h.imp_of_mem fun {a b} ha hb g => ?_
    have := hf b hb a ha
    omega
  · refine h.imp_of_mem fun {a b} ha hb g => ?_
    have := hf b hb a ha
    omega
/-- what the five passes do -/
theorem passes {a b c d e f : Nat} {cs : List Nat} (hcs : cs = [a, b, c, d, e, f]) :
    ((sortS cs).Pairwise (· ≤ ·) ↔ threeB a b c d e f = false) ∧ ((sortS (sortS cs)).Pairwise (· ≤ ·) ↔ fourB a b c d e f = false) ∧ (sortS (sortS (sortS (sortS (sortS cs))))).Pairwise (· ≤ ·) := by
  have hr : ∀ a ∈ cs, ∀ b ∈ cs, (cnt cs a < cnt cs b ↔ a < b) := fun a ha b hb => cnt_iff ha hb
  have hlen : cs.length = 6 := by rw [hcs]; rfl
  have hw : cs.map (cnt cs) = [cnt cs a, cnt cs b, cnt cs c, cnt cs d, cnt cs e, cnt cs f] := by rw [hcs]; rfl
  have hle := leaf_all (a := cnt cs a) (b := cnt cs b) (c := cnt cs c) (d := cnt cs d) (e := cnt cs e) (f := cnt cs f)
    (by rw [← hw]; intro x hx; obtain ⟨y, hy, rfl⟩ := List.mem_map.mp hx; have := cnt_lt_len cs y hy; omega)
    (by rw [← hw]; intro x hx; obtain ⟨y, hy, rfl⟩ := List.mem_map.mp hx; exact cnt_map cs fun z hz => hr z hz y hy)
  have p1 := sortS_perm cs
  have p2 := (sortS_perm (sortS cs)).trans p1
  have p3 := (sortS_perm (sortS (sortS cs))).trans p2
  have p4 := (sortS_perm (sortS (sortS (sortS cs)))).trans p3
  have p5 := (sortS_perm (sortS (sortS (sortS (sortS cs))))).trans p4
  have tr : ∀ {l : List Nat}, List.Perm l cs → ∀ a ∈ l, ∀ b ∈ l, (cnt cs a < cnt cs b ↔ a < b) := fun p a ha b hb => hr a (p.subset ha) b (p.subset hb)
  rw [← hw] at hle
  unfold leafB at hle
  simp only [srt_eq] at hle
  rw [sortS_map hr, sortS_map (tr p1), sortS_map (tr p2), sortS_map (tr p3), sortS_map (tr p4)] at hle
  simp only [Bool.and_eq_true, beq_iff_eq] at hle
  obtain ⟨h1, h2, h3⟩ := hle
  have ma : a ∈ cs := by rw [hcs]; simp
  have mb : b ∈ cs := by rw [hcs]; simp
  have mc : c ∈ cs := by rw [hcs]; simp
  have md : d ∈ cs := by rw [hcs]; simp
  have me : e ∈ cs := by rw [hcs]; simp
  have mf : f ∈ cs := by rw [hcs]; simp
  have lt : ∀ {x y : Nat}, x ∈ cs → y ∈ cs → ltB (cnt cs x) (cnt cs y) = ltB x y := fun hx hy => by
    rw [ltB_eq, ltB_eq]; exact decide_eq_decide.mpr (hr _ hx _ hy)
  have le : ∀ {x y : Nat}, x ∈ cs → y ∈ cs → Nat.ble (cnt cs x) (cnt cs y) = Nat.ble x y := fun hx hy => by
    have := hr _ hy _ hx
    rw [Bool.eq_iff_iff, Nat.ble_eq, Nat.ble_eq]; omega
  have e3 : threeB (cnt cs a) (cnt cs b) (cnt cs c) (cnt cs d) (cnt cs e) (cnt cs f) = threeB a b c d e f := by
    unfold threeB
    simp only [lt ma mb, lt ma mc, lt ma md, lt ma me, lt ma mf, lt mb ma, lt mb mc, lt mb md, lt mb me, lt mb mf, lt mc ma, lt mc mb, lt mc md, lt mc me, lt mc mf, lt md ma, lt md mb, lt md mc, lt md me, lt md mf, lt me ma, lt me mb, lt me mc, lt me md, lt me mf, lt mf ma, lt mf mb, lt mf mc, lt mf md, lt mf me]
  have e4 : fourB (cnt cs a) (cnt cs b) (cnt cs c) (cnt cs d) (cnt cs e) (cnt cs f) = fourB a b c d e f := by
    unfold fourB
    simp only [lt ma mb, lt ma mc, lt ma md, lt ma me, lt ma mf, lt mb ma, lt mb mc, lt mb md, lt mb me, lt mb mf, lt mc ma, lt mc mb, lt mc md, lt mc me, lt mc mf, lt md ma, lt md mb, lt md mc, lt md me, lt md mf, lt me ma, lt me mb, lt me mc, lt me md, lt me mf, lt mf ma, lt mf mb, lt mf mc, lt mf md, lt mf me, le ma mb, le ma mc, le ma md, le ma me, le ma mf, le mb ma, le mb mc, le mb md, le mb me, le mb mf, le mc ma, le mc mb, le mc md, le mc me, le mc mf, le md ma, le md mb, le md mc, le md me, le md mf, le me ma, le me mb, le me mc, le me md, le me mf, le mf ma, le mf mb, le mf mc, le mf md, le mf me]
  rw [e3] at h1
  rw [e4] at h2
  refine ⟨?_, ?_, ?_⟩
  · rw [← pw_map (tr p1), ← up0, h1]; cases threeB a b c d e f <;> simp
  · rw [← pw_map (tr p2), ← up0, h2]; cases fourB a b c d e f <;> simp
  · rw [← pw_map (tr p5), ← up0]; exact h3
end Mine
end
/- part S3 -/
section
set_option maxRecDepth 100000
set_option maxHeartbeats 4000000
set_option linter.unusedVariables false
set_option linter.unusedSimpArgs false
namespace Mine
theorem sgn_one {a b : Nat} : (sgn a b == 1) = decide (b < a) := by
  unfold sgn
  by_cases h : a < b
  · rw [if_pos h, decide_eq_false (Nat.not_lt.mpr (Nat.le_of_lt h))]; rfl
  · by_cases g : b < a
    · rw [if_neg h, if_pos g, decide_eq_true g]; rfl
    · rw [if_neg h, if_neg g, decide_eq_false g]; rfl
theorem isUp_iff {c0 c1 c2 c3 c4 c5 : Nat} : isUp [c0, c1, c2, c3, c4, c5] = true ↔ [c0, c1, c2, c3, c4, c5].Pairwise (· ≤ ·) := by
  have e : isUp [c0, c1, c2, c3, c4, c5] = !([sgn c0 c1, sgn c1 c2, sgn c2 c3, sgn c3 c4, sgn c4 c5].any fun x => x == 1) := rfl
  rw [e, ← up0]
  have u : upR [c0, c1, c2, c3, c4, c5] 0 = cond (Nat.ble 0 c0) (cond (Nat.ble c0 c1) (cond (Nat.ble c1 c2) (cond (Nat.ble c2 c3) (cond (Nat.ble c3 c4) (cond (Nat.ble c4 c5) true false) false) false) false) false) false := rfl
  have b : ∀ x y : Nat, decide (y < x) = !Nat.ble x y := fun x y => by
    by_cases h : y < x
    · rw [decide_eq_true h, ble_no h]; rfl
    · rw [decide_eq_false h, Nat.ble_eq.mpr (Nat.le_of_not_lt h)]; rfl
  rw [u, show Nat.ble 0 c0 = true from Nat.ble_eq.mpr (Nat.zero_le _)]
  simp only [List.any_cons, List.any_nil, sgn_one, b]
  cases Nat.ble c0 c1 <;> cases Nat.ble c1 c2 <;> cases Nat.ble c2 c3 <;> cases Nat.ble c3 c4 <;> cases Nat.ble c4 c5 <;> decide
theorem dr_lt {x y : Int} (hx : 0 ≤ x) (hy : 0 ≤ y) : dr x < dr y ↔ x < y := by
  unfold dr
  split <;> split <;> omega
/-- the sign at the i-th place -/
noncomputable def gd (ns : List Int) (i : Nat) : Nat := (ns.map dr).getD i 0
theorem gd_is {ns : List Int} {i : Nat} (hi : i < ns.length) : gd ns i = dr (gt' ns i) ∧ gt' ns i ∈ ns := by
  unfold gd gt'
  rw [Int.toNat_natCast, List.getD_eq_getElem?_getD, List.getD_eq_getElem?_getD, List.getElem?_map, List.getElem?_eq_getElem hi]
  exact ⟨rfl, List.getElem_mem hi⟩
theorem gd_lt {ns : List Int} (h0 : ∀ y ∈ ns, 0 ≤ y) {i j : Nat} (hi : i < ns.length) (hj : j < ns.length) : gd ns i < gd ns j ↔ gt' ns i < gt' ns j := by
  rw [(gd_is hi).1, (gd_is hj).1]
  exact dr_lt (h0 _ (gd_is hi).2) (h0 _ (gd_is hj).2)
theorem gd_le {ns : List Int} (h0 : ∀ y ∈ ns, 0 ≤ y) {i j : Nat} (hi : i < ns.length) (hj : j < ns.length) : gd ns i ≤ gd ns j ↔ gt' ns i ≤ gt' ns j := by
  rw [← Nat.not_lt, ← Int.not_lt, gd_lt h0 hj hi]
noncomputable def three1 (g : Nat → Nat) (x : Nat × Nat × Nat) : Bool := ltB (g x.2.2) (g x.1) && ltB (g x.1) (g x.2.1)
noncomputable def four1 (g : Nat → Nat) (x : Nat × Nat × Nat × Nat) : Bool :=
  (ltB (g x.2.2.2) (g x.1) && (ltB (g x.1) (g x.2.1) && ltB (g x.2.1) (g x.2.2.1))) || (ltB (g x.2.2.2) (g x.2.1) && (ltB (g x.2.1) (g x.1) && (ltB (g x.1) (g x.2.2.1) && (List.range' (x.1 + 1) (x.2.1 - x.1 - 1)).all fun j => Nat.ble (g j) (g x.1))))
theorem mem3 (r : Nat) (hr : r < 6) (q : Nat) (hq : q < r) (p : Nat) (hp : p < q) : (p, q, r) ∈ idx3 := by
  have h : ((List.range 6).all fun r => (List.range r).all fun q => (List.range q).all fun p => idx3.contains (p, q, r)) = true := by decide +kernel
  exact List.contains_iff_mem.mp (List.all_eq_true.mp (List.all_eq_true.mp (List.all_eq_true.mp h r (List.mem_range.mpr hr)) q (List.mem_range.mpr hq)) p (List.mem_range.mpr hp))
theorem in3 : ∀ x ∈ idx3, x.1 < x.2.1 ∧ x.2.1 < x.2.2 ∧ x.2.2 < 6 := by decide
theorem mem4 (v : Nat) (hv : v < 6) (r : Nat) (hr : r < v) (q : Nat) (hq : q < r) (p : Nat) (hp : p < q) : (p, q, r, v) ∈ idx4 := by
  have h : ((List.range 6).all fun v => (List.range v).all fun r => (List.range r).all fun q => (List.range q).all fun p => idx4.contains (p, q, r, v)) = true := by decide +kernel
  exact List.contains_iff_mem.mp (List.all_eq_true.mp (List.all_eq_true.mp (List.all_eq_true.mp (List.all_eq_true.mp h v (List.mem_range.mpr hv)) r (List.mem_range.mpr hr)) q (List.mem_range.mpr hq)) p (List.mem_range.mpr hp))
theorem in4 : ∀ x ∈ idx4, x.1 < x.2.1 ∧ x.2.1 < x.2.2.1 ∧ x.2.2.1 < x.2.2.2 ∧ x.2.2.2 < 6 := by decide
theorem three_any {ns : List Int} (h6 : ns.length = 6) (h0 : ∀ y ∈ ns, 0 ≤ y) : Three ns ↔ idx3.any (three1 (gd ns)) = true := by
  rw [List.any_eq_true]
  constructor
  · rintro ⟨p, q, r, hp, hpq, hqr, hr, h1, h2⟩
    obtain ⟨p, rfl⟩ := Int.eq_ofNat_of_zero_le hp
    obtain ⟨q, rfl⟩ := Int.eq_ofNat_of_zero_le (Int.le_trans hp (Int.le_of_lt hpq))
    obtain ⟨r, rfl⟩ := Int.eq_ofNat_of_zero_le (Int.le_trans hp (Int.le_of_lt (Int.lt_trans hpq hqr)))
    have k3 : r < 6 := Int.ofNat_lt.mp hr
    have k2 : q < r := Int.ofNat_lt.mp hqr
    have k1 : p < q := Int.ofNat_lt.mp hpq
    refine ⟨(p, q, r), mem3 r k3 q k2 p k1, ?_⟩
    simp only [three1, ltB_eq, Bool.and_eq_true, decide_eq_true_eq]
    have l3 : r < ns.length := h6 ▸ k3
    have l2 := Nat.lt_trans k2 l3
    have l1 := Nat.lt_trans k1 l2
    exact ⟨(gd_lt h0 l3 l1).mpr h1, (gd_lt h0 l1 l2).mpr h2⟩
  · rintro ⟨⟨p, q, r⟩, hm, hb⟩
    obtain ⟨k1, k2, k3⟩ := in3 _ hm
    simp only [three1, ltB_eq, Bool.and_eq_true, decide_eq_true_eq] at hb k1 k2 k3
    have l3 : r < ns.length := h6 ▸ k3
    have l2 := Nat.lt_trans k2 l3
    have l1 := Nat.lt_trans k1 l2
    exact ⟨p, q, r, Int.natCast_nonneg p, Int.ofNat_lt.mpr k1, Int.ofNat_lt.mpr k2, Int.ofNat_lt.mpr k3, (gd_lt h0 l3 l1).mp hb.1, (gd_lt h0 l1 l2).mp hb.2⟩
theorem four_any {ns : List Int} (h6 : ns.length = 6) (h0 : ∀ y ∈ ns, 0 ≤ y) : Four ns ↔ idx4.any (four1 (gd ns)) = true := by
  rw [List.any_eq_true]
  constructor
  · rintro ⟨p, q, r, v, hp, hpq, hqr, hrv, hv, h⟩
    obtain ⟨p, rfl⟩ := Int.eq_ofNat_of_zero_le hp
    obtain ⟨q, rfl⟩ := Int.eq_ofNat_of_zero_le (Int.le_trans hp (Int.le_of_lt hpq))
    obtain ⟨r, rfl⟩ := Int.eq_ofNat_of_zero_le (Int.le_trans hp (Int.le_of_lt (Int.lt_trans hpq hqr)))
    obtain ⟨v, rfl⟩ := Int.eq_ofNat_of_zero_le (Int.le_trans hp (Int.le_of_lt (Int.lt_trans (Int.lt_trans hpq hqr) hrv)))
    have k4 : v < 6 := Int.ofNat_lt.mp hv
    have k3 : r < v := Int.ofNat_lt.mp hrv
    have k2 : q < r := Int.ofNat_lt.mp hqr
    have k1 : p < q := Int.ofNat_lt.mp hpq
    refine ⟨(p, q, r, v), mem4 v k4 r k3 q k2 p k1, ?_⟩
    simp only [four1, ltB_eq, Bool.and_eq_true, Bool.or_eq_true, decide_eq_true_eq, List.all_eq_true, Nat.ble_eq, List.mem_range'_1]
    have l4 : v < ns.length := h6 ▸ k4
    have l3 := Nat.lt_trans k3 l4
    have l2 := Nat.lt_trans k2 l3
    have l1 := Nat.lt_trans k1 l2
    rcases h with ⟨a1, a2, a3⟩ | ⟨a1, a2, a3, a4⟩
    · exact .inl ⟨(gd_lt h0 l4 l1).mpr a1, (gd_lt h0 l1 l2).mpr a2, (gd_lt h0 l2 l3).mpr a3⟩
    · refine .inr ⟨(gd_lt h0 l4 l2).mpr a1, (gd_lt h0 l2 l1).mpr a2, (gd_lt h0 l1 l3).mpr a3, fun j hj => ?_⟩
      have j2 : j < q := by omega
      exact (gd_le h0 (Nat.lt_trans j2 l2) l1).mpr (a4 j (by omega) (Int.ofNat_lt.mpr j2))
  · rintro ⟨⟨p, q, r, v⟩, hm, hb⟩
    obtain ⟨k1, k2, k3, k4⟩ := in4 _ hm
    simp only [four1, ltB_eq, Bool.and_eq_true, Bool.or_eq_true, decide_eq_true_eq, List.all_eq_true, Nat.ble_eq, List.mem_range'_1] at hb k1 k2 k3 k4
    have l4 : v < ns.length := h6 ▸ k4
    have l3 := Nat.lt_trans k3 l4
    have l2 := Nat.lt_trans k2 l3
    have l1 := Nat.lt_trans k1 l2
    refine ⟨p, q, r, v, Int.natCast_nonneg p, Int.ofNat_lt.mpr k1, Int.ofNat_lt.mpr k2, Int.ofNat_lt.mpr k3, Int.ofNat_lt.mpr k4, ?_⟩
    rcases hb with ⟨a1, a2, a3⟩ | ⟨a1, a2, a3, a4⟩
    · exact .inl ⟨(gd_lt h0 l4 l1).mp a1, (gd_lt h0 l1 l2).mp a2, (gd_lt h0 l2 l3).mp a3⟩
    · refine .inr ⟨(gd_lt h0 l4 l2).mp a1, (gd_lt h0 l2 l1).mp a2, (gd_lt h0 l1 l3).mp a3, fun j g1 g2 => ?_⟩
      obtain ⟨j, rfl⟩ := Int.eq_ofNat_of_zero_le (Int.le_trans (Int.natCast_nonneg p) g1)
      have j1 : p ≤ j := Int.ofNat_le.mp g1
      have j2 : j < q := Int.ofNat_lt.mp g2
      by_cases e : j = p
      · rw [e]; exact Int.le_refl _
      · exact (gd_le h0 (Nat.lt_trans j2 l2) l1).mp (a4 j (by omega))
theorem three_iff {y0 y1 y2 y3 y4 y5 : Int} (h : ∀ y ∈ [y0, y1, y2, y3, y4, y5], 0 ≤ y) : Three [y0, y1, y2, y3, y4, y5] ↔ threeB (dr y0) (dr y1) (dr y2) (dr y3) (dr y4) (dr y5) = true := three_any rfl h
theorem four_iff {y0 y1 y2 y3 y4 y5 : Int} (h : ∀ y ∈ [y0, y1, y2, y3, y4, y5], 0 ≤ y) : Four [y0, y1, y2, y3, y4, y5] ↔ fourB (dr y0) (dr y1) (dr y2) (dr y3) (dr y4) (dr y5) = true := four_any rfl h
end Mine
end
/- part W18 -/
section
local macro_rules | `(tactic| walk_at "-") => `(tactic| skip)
open PySem PySem.W PySem.Calls PyProof.Rows
set_option maxRecDepth 100000
set_option maxHeartbeats 4000000
set_option linter.unusedVariables false
namespace Mine
theorem chars6 {us : List Value} {ds : List Nat} (h : CharsAre us ds) (hl : ds.length = 6) : ∃ d0 d1 d2 d3 d4 d5 t0 t1 t2 t3 t4 t5, us = [.str ⟨#[d0]⟩ t0, .str ⟨#[d1]⟩ t1, .str ⟨#[d2]⟩ t2, .str ⟨#[d3]⟩ t3, .str ⟨#[d4]⟩ t4, .str ⟨#[d5]⟩ t5] ∧ ds = [d0, d1, d2, d3, d4, d5] := by
  cases h with | nil => cases hl | cons h => ?_
  cases h with | nil => cases hl | cons h => ?_
  cases h with | nil => cases hl | cons h => ?_
  cases h with | nil => cases hl | cons h => ?_
  cases h with | nil => cases hl | cons h => ?_
  cases h with | nil => cases hl | cons h => ?_
  cases h with | cons h => cases hl | nil => exact ⟨_, _, _, _, _, _, _, _, _, _, _, _, rfl, rfl⟩
local macro_rules | `(tactic| walk_at $k:str) => if ["call ref", "compareOp NotEq ref ref", "binaryOp Add bytes bytes", "eval ListComp"].contains k.getString then `(tactic| (refine unstop ?_)) else Lean.Macro.throwUnsupported
section
variable {w : World} {dp un : Nat} {fr : Option (List Env)} {gd : Option (List Code)} {env0 : Env} {nm : Str} {a : Addr} {cd : Value} {s : Shared} {mg mb : Str → Option Value} {mean : ExcName → Option Value} {h₀ : Heap} {L : Addr} {m : Str → Option Value}
  {Q : Flow → Shared → Prop} {E : Value → Shared → Prop}
theorem l_turn {Dn Dr : Addr} {kk : Nat} {c0 c1 c2 c3 c4 c5 : Nat} {t0 t1 t2 t3 t4 t5 tl tg tk : Tok} {cs : List Nat} {rs : List Value} {oR : Obj} {lk k : Int} {z : Str} {news : List (Addr × Obj)}
    (F : Fr h₀ L s.heap m) (N : News h₀ L s.heap ((Dn, listOf #[.str ⟨#[c0]⟩ t0, .str ⟨#[c1]⟩ t1, .str ⟨#[c2]⟩ t2, .str ⟨#[c3]⟩ t3, .str ⟨#[c4]⟩ t4, .str ⟨#[c5]⟩ t5] kk) :: (Dr, oR) :: news)) (KX : (Kd w.params).In h₀) (T : Top Qv L3 mean mg mb h₀)
    (hA' : Room2 { handled := none, depth := dp, frames := fr, guards := gd, units := un }) (hA2 : Room2 (Around.deeper { handled := none, depth := dp, frames := fr, guards := gd, units := un } env0)) (hcs : cs = [c0, c1, c2, c3, c4, c5]) (hc : ∀ c ∈ cs, 917505 ≤ (c : Int) ∧ (c : Int) < 917632)
    (hz : z = .ofString "ISO8859-15" ∨ z = .ofString "UTF-8")
    (m1 : m (Str.ofString "names") = some (.ref Dn)) (m2 : m (Str.ofString "look") = some (.int lk tl)) (m3 : m (Str.ofString "ground") = some (.str (.ofString "C." ++ z) tg)) (m4 : m (Str.ofString "row") = some (.ref Dr)) (m5 : m (Str.ofString "turn") = some (.int k tk))
    {ns : List Int} (hR : IsL oR rs) (hri : IntsAre rs ns) (hrn : ns.length = 6) (hk3 : k = 0 → (isUp (sortS cs) = true ↔ ¬ Three ns)) (hk4 : k = 1 → (isUp (sortS cs) = true ↔ ¬ Four ns))
    (h : ∀ h' tk' m' D' us kk', Fr h₀ L h' m' → News h₀ L h' ((D', listOf (List.toArray us) kk') :: (Dn, listOf #[.str ⟨#[c0]⟩ t0, .str ⟨#[c1]⟩ t1, .str ⟨#[c2]⟩ t2, .str ⟨#[c3]⟩ t3, .str ⟨#[c4]⟩ t4, .str ⟨#[c5]⟩ t5] kk) :: (Dr, oR) :: news) → CharsAre us (sortS cs) →
      m' (Str.ofString "names") = some (.ref D') → (∀ y, y ≠ Str.ofString "flags" → y ≠ Str.ofString "reply" → y ≠ Str.ofString "told" → y ≠ Str.ofString "names" → m' y = m y) → Q .next { s with heap := h', toks := tk' }) :
    wpAny (model PySem.Challenge.rw_kl0204_01.row.prog w) (Around.deeper { handled := none, depth := dp, frames := fr, guards := gd, units := un } env0) (execs turnBody (envOf nm lawScope L a cd)) Q E s := by
  rw [m_split m1, m_split m2, m_split m3, m_split m4, m_split m5] at F
  have hun3 : un + 3 < cLine := by have := hA'.hu; dsimp only at this; omega
  generalize hb : turnBody = tb
  have hb2 : turnBody = (_ :: _ :: _ :: _ :: _ :: _ :: _ :: []) := rfl
  rw [hb2] at hb
  subst hb
  rw [show lawScope = Scope.mk _ _ _ _ _ from rfl]
  revert KX
  k_fill
  intro KX
  k_steps
  refine Stop.mk (wpAny_call (l_reply (News.isList N (by k_mem)) (hc c0 (by rw [hcs]; simp)) (hc c1 (by rw [hcs]; simp)) (hc c2 (by rw [hcs]; simp)) (hc c3 (by rw [hcs]; simp)) (hc c4 (by rw [hcs]; simp)) (hc c5 (by rw [hcs]; simp)) hA'.deeper (Ok.keeps ⟨KX, T⟩ F.keep) fun h' n' a2 D2 t2 u0 u1 u2 u3 u4 u5 hk ha2 hD2 hn2 hnD2 => ?_))
  have F2 := F.keeps hk
  have N2 := news_add F (news_add F (N.keeps hk) hD2 hnD2) ha2 hn2
  clear F N
  dsimp only
  k_steps
  rename Fr _ _ _ _ => F3
  rename News _ _ _ _ => N3
  have hp6 : ∀ p ∈ [(c0 : Int) - 917504, (c1 : Int) - 917504, (c2 : Int) - 917504, (c3 : Int) - 917504, (c4 : Int) - 917504, (c5 : Int) - 917504], 0 ≤ p ∧ p < 128 := by
    have q0 := hc c0 (by rw [hcs]; simp)
    have q1 := hc c1 (by rw [hcs]; simp)
    have q2 := hc c2 (by rw [hcs]; simp)
    have q3 := hc c3 (by rw [hcs]; simp)
    have q4 := hc c4 (by rw [hcs]; simp)
    have q5 := hc c5 (by rw [hcs]; simp)
    intro p hp
    simp only [List.mem_cons, List.not_mem_nil, or_false] at hp
    omega
  refine Stop.mk (wpAny_call (parse_six hA'.deeper (Ok.keeps ⟨KX, T⟩ F3.keep) hp6 fun h' n' a3 k3 hk ha3 hn3 => ?_))
  have F4 := F3.keeps hk
  have N4 := news_add F3 (N3.keeps hk) ha3 hn3
  clear F3 N3
  dsimp only
  k_steps
  rename Fr _ _ _ _ => F5
  rename News _ _ _ _ => N5
  refine Stop.mk (ne_tuples (bs := six ((c0 : Int) - 917504) ((c1 : Int) - 917504) ((c2 : Int) - 917504) ((c3 : Int) - 917504) ((c4 : Int) - 917504) ((c5 : Int) - 917504)) (News.isTup N5 (by k_mem)) (News.isTup N5 (by k_mem)) (.cons (.cons (.cons (.cons (.cons (.cons .nil)))))) (.cons (.cons (.cons (.cons (.cons (.cons .nil)))))) hun3 ?_)
  k_steps
  have hrs : (replyOf lk (Builtin.Bytes.joined (whiteOf lk) (six ((c0 : Int) - 917504) ((c1 : Int) - 917504) ((c2 : Int) - 917504) ((c3 : Int) - 917504) ((c4 : Int) - 917504) ((c5 : Int) - 917504)))).size ≤ 100000 := (rep_ok lk (dull_six lk _ _ _ _ _ _ hp6)).1
  refine addB (by show 3 + _ ≤ 16777216; omega) (fun t' k' => ?_)
  k_steps
  rename Fr _ _ _ _ => F6
  rename News _ _ _ _ => N6
  refine Stop.mk (wpAny_call (parse_none hA'.deeper (Ok.keeps ⟨KX, T⟩ F6.keep) (rep_no lk (dull_six lk _ _ _ _ _ _ hp6)) fun h' n' a5 hk ha5 hn5 => ?_))
  have F7 := F6.keeps hk
  have N7 := news_add F6 (N6.keeps hk) ha5 hn5
  clear F6 N6
  dsimp only
  k_steps
  rename Fr _ _ _ _ => F8
  rename News _ _ _ _ => N8
  refine Stop.mk (ne_tuples (bs := []) (vs := []) (ws := []) (News.isTup N8 (items := #[]) (by k_mem)) (News.isTup N8 (items := #[]) (by k_mem)) .nil .nil hun3 ?_)
  k_steps
  rename Fr _ _ _ _ => F9
  rename News _ _ _ _ => N9
  refine Stop.mk (told_comp (vs0 := [.bytes (flagOf ((c0 : Int) - 917504)) _, .bytes (flagOf ((c1 : Int) - 917504)) _, .bytes (flagOf ((c2 : Int) - 917504)) _, .bytes (flagOf ((c3 : Int) - 917504)) _, .bytes (flagOf ((c4 : Int) - 917504)) _, .bytes (flagOf ((c5 : Int) - 917504)) _]) F9 KX T (News.isTup N9 (by k_mem)) (.cons (hp6 _ (by simp)) (.cons (hp6 _ (by simp)) (.cons (hp6 _ (by simp)) (.cons (hp6 _ (by simp)) (.cons (hp6 _ (by simp)) (.cons (hp6 _ (by simp)) .nil)))))) (by show (6 : Nat) ≤ 100; decide) (if_pos rfl) (fun D4 h' tk' ys hk hys hch => ?_))
  have F10 := F9.keeps hk
  have N10 := N9.keeps hk
  clear F9 N9
  dsimp only
  have ec : ∀ c : Nat, (917504 + ((c : Int) - 917504)).toNat = c := fun c => by omega
  simp only [List.map_cons, List.map_nil, ec] at hch
  rw [← hcs] at hch
  k_steps
  refine Stop.mk (wpAny_call (l_over hys hch (by rw [hcs]; show (6 : Nat) ≤ 10; decide) hz hA2 (Ok.keeps ⟨KX, T⟩ F10.keep) fun h' n' a6 us6 k6 hk ha6 hch6 hn6 => ?_))
  have F11 := F10.keeps hk
  have N11 := news_add F10 (N10.keeps hk) ha6 hn6
  clear F10 N10 hys hch
  have hl6 : (sortS cs).length = 6 := by rw [(sortS_perm cs).length_eq, hcs]; rfl
  obtain ⟨d0, d1, d2, d3, d4, d5, u0, u1, u2, u3, u4, u5, hus, hds⟩ := chars6 hch6 hl6
  rw [hus, hds] at hch6
  rw [hds] at h hk3 hk4
  rw [hus] at N11 ha6
  dsimp only
  k_steps
  · rename Fr _ _ _ _ => F12
    rename News _ _ _ _ => N12
    have hk0 : k = 0 := by assumption
    subst hk0
    by_cases hT : Three ns
    · have hu : isUp [d0, d1, d2, d3, d4, d5] = false := Bool.eq_false_iff.mpr fun g => (hk3 rfl).mp g hT
      refine Stop.mk (wpAny_call (l_up (News.isList N12 (by k_mem)) rfl hA2 (Ok.keeps ⟨KX, T⟩ F12.keep) fun h' n' hk => ?_))
      rw [hu]
      have F13 := F12.keeps hk
      have N13 := N12.keeps hk
      clear F12 N12
      dsimp only
      k_steps
      rename Fr _ _ _ _ => F14
      rename News _ _ _ _ => N14
      refine Stop.mk (wpAny_call (l_three (isl N14 (by k_mem) hR) hri hrn hA'.deeper (Ok.keeps ⟨KX, T⟩ F14.keep) (fun _ h' n' hk => ?_) (fun hn => absurd hT hn)))
      have F15 := F14.keeps hk
      have N15 := N14.keeps hk
      clear F14 N14
      dsimp only
      k_steps
      rename Fr _ _ _ _ => F16
      rename News _ _ _ _ => N16
      refine h _ _ _ a6 _ _ F16 (fun p hp => N16 p (by
        rcases List.mem_cons.mp hp with rfl | hp
        · k_mem
        rcases List.mem_cons.mp hp with rfl | hp
        · k_mem
        rcases List.mem_cons.mp hp with rfl | hp
        · k_mem
        · repeat (first | exact hp | apply List.mem_cons_of_mem))) hch6 (if_pos rfl) (fun y y1 y2 y3 y4 => ?_)
      simp only [if_neg y1, if_neg y2, if_neg y3, if_neg y4]
      repeat (split; · (rename _ = _ => ey; rw [ey]; exact Eq.symm (by assumption)))
      rfl
    · have hu : isUp [d0, d1, d2, d3, d4, d5] = true := (hk3 rfl).mpr hT
      refine Stop.mk (wpAny_call (l_up (News.isList N12 (by k_mem)) rfl hA2 (Ok.keeps ⟨KX, T⟩ F12.keep) fun h' n' hk => ?_))
      rw [hu]
      have F13 := F12.keeps hk
      have N13 := N12.keeps hk
      clear F12 N12
      dsimp only
      k_steps
      rename Fr _ _ _ _ => F14
      rename News _ _ _ _ => N14
      refine Stop.mk (wpAny_call (l_three (isl N14 (by k_mem) hR) hri hrn hA'.deeper (Ok.keeps ⟨KX, T⟩ F14.keep) (fun hn => absurd hn hT) (fun _ h' n' hk => ?_)))
      have F15 := F14.keeps hk
      have N15 := N14.keeps hk
      clear F14 N14
      dsimp only
      k_steps
      rename Fr _ _ _ _ => F16
      rename News _ _ _ _ => N16
      refine h _ _ _ a6 _ _ F16 (fun p hp => N16 p (by
        rcases List.mem_cons.mp hp with rfl | hp
        · k_mem
        rcases List.mem_cons.mp hp with rfl | hp
        · k_mem
        rcases List.mem_cons.mp hp with rfl | hp
        · k_mem
        · repeat (first | exact hp | apply List.mem_cons_of_mem))) hch6 (if_pos rfl) (fun y y1 y2 y3 y4 => ?_)
      simp only [if_neg y1, if_neg y2, if_neg y3, if_neg y4]
      repeat (split; · (rename _ = _ => ey; rw [ey]; exact Eq.symm (by assumption)))
      rfl
  · rename Fr _ _ _ _ => F12
    rename News _ _ _ _ => N12
    have hk0 : k = 1 := by assumption
    subst hk0
    by_cases hT : Four ns
    · have hu : isUp [d0, d1, d2, d3, d4, d5] = false := Bool.eq_false_iff.mpr fun g => (hk4 rfl).mp g hT
      refine Stop.mk (wpAny_call (l_up (News.isList N12 (by k_mem)) rfl hA2 (Ok.keeps ⟨KX, T⟩ F12.keep) fun h' n' hk => ?_))
      rw [hu]
      have F13 := F12.keeps hk
      have N13 := N12.keeps hk
      clear F12 N12
      dsimp only
      k_steps
      rename Fr _ _ _ _ => F14
      rename News _ _ _ _ => N14
      refine Stop.mk (wpAny_call (l_four (isl N14 (by k_mem) hR) hri hrn hA'.deeper (Ok.keeps ⟨KX, T⟩ F14.keep) (fun _ h' n' hk => ?_) (fun hn => absurd hT hn)))
      have F15 := F14.keeps hk
      have N15 := N14.keeps hk
      clear F14 N14
      dsimp only
      k_steps
      rename Fr _ _ _ _ => F16
      rename News _ _ _ _ => N16
      refine h _ _ _ a6 _ _ F16 (fun p hp => N16 p (by
        rcases List.mem_cons.mp hp with rfl | hp
        · k_mem
        rcases List.mem_cons.mp hp with rfl | hp
        · k_mem
        rcases List.mem_cons.mp hp with rfl | hp
        · k_mem
        · repeat (first | exact hp | apply List.mem_cons_of_mem))) hch6 (if_pos rfl) (fun y y1 y2 y3 y4 => ?_)
      simp only [if_neg y1, if_neg y2, if_neg y3, if_neg y4]
      repeat (split; · (rename _ = _ => ey; rw [ey]; exact Eq.symm (by assumption)))
      rfl
    · have hu : isUp [d0, d1, d2, d3, d4, d5] = true := (hk4 rfl).mpr hT
      refine Stop.mk (wpAny_call (l_up (News.isList N12 (by k_mem)) rfl hA2 (Ok.keeps ⟨KX, T⟩ F12.keep) fun h' n' hk => ?_))
      rw [hu]
      have F13 := F12.keeps hk
      have N13 := N12.keeps hk
      clear F12 N12
      dsimp only
      k_steps
      rename Fr _ _ _ _ => F14
      rename News _ _ _ _ => N14
      refine Stop.mk (wpAny_call (l_four (isl N14 (by k_mem) hR) hri hrn hA'.deeper (Ok.keeps ⟨KX, T⟩ F14.keep) (fun hn => absurd hn hT) (fun _ h' n' hk => ?_)))
      have F15 := F14.keeps hk
      have N15 := N14.keeps hk
      clear F14 N14
      dsimp only
      k_steps
      rename Fr _ _ _ _ => F16
      rename News _ _ _ _ => N16
      refine h _ _ _ a6 _ _ F16 (fun p hp => N16 p (by
        rcases List.mem_cons.mp hp with rfl | hp
        · k_mem
        rcases List.mem_cons.mp hp with rfl | hp
        · k_mem
        rcases List.mem_cons.mp hp with rfl | hp
        · k_mem
        · repeat (first | exact hp | apply List.mem_cons_of_mem))) hch6 (if_pos rfl) (fun y y1 y2 y3 y4 => ?_)
      simp only [if_neg y1, if_neg y2, if_neg y3, if_neg y4]
      repeat (split; · (rename _ = _ => ey; rw [ey]; exact Eq.symm (by assumption)))
      rfl
  · rename Fr _ _ _ _ => F16
    rename News _ _ _ _ => N16
    refine h _ _ _ a6 _ _ F16 (fun p hp => N16 p (by
      rcases List.mem_cons.mp hp with rfl | hp
      · k_mem
      rcases List.mem_cons.mp hp with rfl | hp
      · k_mem
      rcases List.mem_cons.mp hp with rfl | hp
      · k_mem
      · repeat (first | exact hp | apply List.mem_cons_of_mem))) hch6 (if_pos rfl) (fun y y1 y2 y3 y4 => ?_)
    simp only [if_neg y1, if_neg y2, if_neg y3, if_neg y4]
    repeat (split; · (rename _ = _ => ey; rw [ey]; exact Eq.symm (by assumption)))
    rfl
end
end Mine
end
/- part P35 -/
section
open PySem PySem.W PySem.Calls PyProof.Rows
set_option maxRecDepth 100000
set_option linter.unusedVariables false
namespace Mine
noncomputable def oneS (c : Nat) : Str := ⟨#[c]⟩
theorem strs_of_chars : ∀ {vs : List Value} {cs : List Nat}, CharsAre vs cs → StrsAre vs (cs.map oneS)
  | _, _, .nil => .nil
  | _, _, .cons h => .cons _ _ (strs_of_chars h)
theorem chars_of_strs : ∀ {cs : List Nat} {vs : List Value}, StrsAre vs (cs.map oneS) → CharsAre vs cs
  | [], _, h => by cases h; exact .nil
  | c :: cs, _, h => by cases h with | cons _ _ h => exact .cons (chars_of_strs h)
theorem rise_chars : ∀ (ds : List Nat) (d : Nat), risingS (oneS d) (ds.map oneS) = true → (d :: ds).Pairwise (· ≤ ·)
  | [], d, _ => by simp
  | e :: ds, d, h => by
    have h : (!PySem.Spec.ltCps [e] [d] && risingS (oneS e) (ds.map oneS)) = true := h
    rw [Bool.and_eq_true] at h
    have ih := rise_chars ds e h.2
    have hde : d ≤ e := by
      have h1 := h.1
      by_cases g : e < d
      · simp [PySem.Spec.ltCps, g] at h1
      · omega
    rw [List.pairwise_cons]
    refine ⟨fun b hb => ?_, ih⟩
    cases hb with
    | head => exact hde
    | tail _ hb => exact Nat.le_trans hde ((List.pairwise_cons.mp ih).1 b hb)
theorem sorted_chars {ss : List Str} {cs : List Nat} (hp : ss.Perm (cs.map oneS)) (hs : sortedS ss = true) : ∃ ds : List Nat, ss = ds.map oneS ∧ ds.Perm cs ∧ ds.Pairwise (· ≤ ·) := by
  have e : ss = (ss.map fun x => x.cps.getD 0 0).map oneS := by
    rw [List.map_map]
    refine (List.map_id' ss).symm.trans (List.map_congr_left fun x hx => ?_)
    obtain ⟨c, _, rfl⟩ := List.mem_map.mp (hp.subset hx)
    rfl
  refine ⟨_, e, ?_, ?_⟩
  · have := hp.map fun x => x.cps.getD 0 0
    rw [List.map_map] at this
    have g : List.map ((fun x : Str => x.cps.getD 0 0) ∘ oneS) cs = cs := List.map_id'' (fun _ => rfl) cs
    rw [g] at this
    exact this
  · rw [e] at hs
    generalize (ss.map fun x => x.cps.getD 0 0) = ds at hs
    cases ds with
    | nil => exact .nil
    | cons d ds => exact rise_chars ds d hs
theorem sorted_same {as bs cs : List Nat} (ha : as.Perm cs) (hb : bs.Perm cs) (h1 : as.Pairwise (· ≤ ·)) (h2 : bs.Pairwise (· ≤ ·)) : as = bs :=
  List.Perm.eq_of_pairwise (fun a b _ _ x y => Nat.le_antisymm x y) h1 h2 (ha.trans hb.symm)
end Mine
end
/- part W21 -/
section
open PySem PySem.W PySem.Calls PyProof.Rows
set_option maxRecDepth 100000
set_option maxHeartbeats 4000000
set_option linter.unusedVariables false
namespace Mine
noncomputable def lawTail : List Stmt := lawBody.drop 10
theorem head_apart {h₀ h : Heap} {L a : Addr} {o : Obj} {rest : List (Addr × Obj)} (N : News h₀ L h ((a, o) :: rest)) (ho : ∀ p ∈ rest, p.2 ≠ o) : ∀ p ∈ rest, p.1 ≠ a := fun p hp e => by
  have h1 := (N _ (.head _)).1
  have h2 := (N p (.tail _ hp)).1
  rw [e, h1] at h2
  exact ho p hp (Option.some.inj h2).symm
noncomputable def iterS : Nat → List Nat → List Nat
  | 0, cs => cs
  | i + 1, cs => sortS (iterS i cs)
theorem iterS_perm (cs : List Nat) : ∀ i, (iterS i cs).Perm cs
  | 0 => .refl _
  | i + 1 => (sortS_perm _).trans (iterS_perm cs i)
local macro_rules | `(tactic| walk_at $k:str) => if ["compareOp Eq ref ref", "RangeRest", "call builtin:sorted"].contains k.getString then `(tactic| (refine unstop ?_)) else Lean.Macro.throwUnsupported
section
variable {w : World} {dp un : Nat} {fr : Option (List Env)} {gd : Option (List Code)} {env0 : Env} {nm : Str} {a : Addr} {cd : Value} {s : Shared} {mg mb : Str → Option Value} {mean : ExcName → Option Value} {h₀ : Heap} {L : Addr} {m : Str → Option Value}
  {Q : Flow → Shared → Prop}
theorem rest_all {Dr Dd I : Addr} {oR oD : Obj} {tl tg : Tok} {cs : List Nat} {rs ds : List Value} {ns : List Int} {lk : Int} {z : Str} (KX : (Kd w.params).In h₀) (T : Top Qv L3 mean mg mb h₀)
    (hA' : Room2 { handled := none, depth := dp, frames := fr, guards := gd, units := un }) (hA2 : Room2 (Around.deeper { handled := none, depth := dp, frames := fr, guards := gd, units := un } env0)) (hcl : cs.length = 6) (hc : ∀ c ∈ cs, 917505 ≤ (c : Int) ∧ (c : Int) < 917632)
    (hz : z = .ofString "ISO8859-15" ∨ z = .ofString "UTF-8") (hR : IsL oR rs) (hD : IsL oD ds) (hri : IntsAre rs ns) (hrn : ns.length = 6) (hk3 : isUp (sortS cs) = true ↔ ¬ Three ns) (hk4 : isUp (sortS (sortS cs)) = true ↔ ¬ Four ns)
    (hfin : ∀ h tk m Dn us kk, Fr h₀ L h m → News h₀ L h [(Dn, listOf (List.toArray us) kk), (Dr, oR), (Dd, oD)] → CharsAre us (iterS 5 cs) → m (Str.ofString "names") = some (.ref Dn) → m (Str.ofString "drawn") = some (.ref Dd) → Q .next { s with heap := h, toks := tk }) :
    ∀ (k i : Nat) (m : Str → Option Value) (Dn : Addr) (us : List Value) (kk : Nat), k + i = 5 → CharsAre us (iterS i cs) → m (Str.ofString "names") = some (.ref Dn) → m (Str.ofString "look") = some (.int lk tl) → m (Str.ofString "ground") = some (.str (.ofString "C." ++ z) tg) → m (Str.ofString "row") = some (.ref Dr) → m (Str.ofString "drawn") = some (.ref Dd) →
      RangeRest PySem.Challenge.rw_kl0204_01.row.prog w (Around.deeper { handled := none, depth := dp, frames := fr, guards := gd, units := un } env0) (fun _ _ => False) h₀ (envOf nm lawScope L a cd) (Str.ofString "turn") turnBody Q s I 0 5 k i m [(Dn, listOf (List.toArray us) kk), (Dr, oR), (Dd, oD)]
  | 0, i, m, Dn, us, kk, hki, hch, m1, m2, m3, m4, m5 => RangeRest.zero fun h tk F N => by
    have : i = 5 := by omega
    subst this
    exact hfin h tk m Dn us kk F N hch m1 m5
  | k + 1, i, m, Dn, us, kk, hki, hch, m1, m2, m3, m4, m5 => RangeRest.succ fun t h1 tk F N => by
    obtain ⟨d0, d1, d2, d3, d4, d5, u0, u1, u2, u3, u4, u5, rfl, hds⟩ := chars6 hch (by rw [(iterS_perm cs i).length_eq, hcl])
    have F : Fr h₀ L h1 _ := F
    have N : News h₀ L h1 _ := N
    have N1 : News h₀ L h1 ((Dn, listOf #[.str ⟨#[d0]⟩ u0, .str ⟨#[d1]⟩ u1, .str ⟨#[d2]⟩ u2, .str ⟨#[d3]⟩ u3, .str ⟨#[d4]⟩ u4, .str ⟨#[d5]⟩ u5] kk) :: (Dr, oR) :: [(I, itR (0 + ((i + 1 : Nat) : Int)) (((5 : Nat) : Int) - ((i + 1 : Nat) : Int))), (Dd, oD)]) := fun p hp => N p (by
      simp only [List.mem_cons, List.not_mem_nil, or_false] at hp ⊢
      rcases hp with rfl | rfl | rfl | rfl <;> simp)
    refine l_turn (s := { s with heap := h1, toks := tk }) (cs := iterS i cs) (news := [(I, itR (0 + ((i + 1 : Nat) : Int)) (((5 : Nat) : Int) - ((i + 1 : Nat) : Int))), (Dd, oD)]) F N1 KX T hA' hA2 hds (fun c hm => hc c ((iterS_perm cs i).subset hm)) hz ((if_neg (by decide)).trans m1) ((if_neg (by decide)).trans m2) ((if_neg (by decide)).trans m3) ((if_neg (by decide)).trans m4) (if_pos rfl) hR hri hrn
      (fun e => by
        have : i = 0 := by omega
        subst this
        exact hk3) (fun e => by
        have : i = 1 := by omega
        subst this
        exact hk4) fun h2 tk2 m2' D' us' kk' F2 N2 hch2 n1 n2 => ?_
    have N3 : News h₀ L h2 ((I, itR (0 + ((i + 1 : Nat) : Int)) (((5 : Nat) : Int) - ((i + 1 : Nat) : Int))) :: [(D', listOf (List.toArray us') kk'), (Dr, oR), (Dd, oD)]) := fun p hp => N2 p (by
      simp only [List.mem_cons, List.not_mem_nil, or_false] at hp ⊢
      rcases hp with rfl | rfl | rfl | rfl <;> simp)
    refine UnrEnd.intro (s₁ := { s with heap := h1, toks := tk }) F2 N3 _ (fun p hp => hp) (head_apart N3 ?_) ?_
    · intro p hp
      simp only [List.mem_cons, List.not_mem_nil, or_false] at hp
      rcases hp with rfl | rfl | rfl
      · intro e; have h1 : Value.type "list" = Value.type "range_iterator" := congrArg Obj.cls e; exact absurd (Value.type.inj h1) (by decide)
      · intro e; have h1 : Value.type "list" = Value.type "range_iterator" := hR.1.symm.trans (congrArg Obj.cls e); exact absurd (Value.type.inj h1) (by decide)
      · intro e; have h1 : Value.type "list" = Value.type "range_iterator" := hD.1.symm.trans (congrArg Obj.cls e); exact absurd (Value.type.inj h1) (by decide)
    · refine rest_all (tl := tl) (tg := tg) (lk := lk) KX T hA' hA2 hcl hc hz hR hD hri hrn hk3 hk4 hfin k (i + 1) m2' D' us' kk' (by omega) hch2 n1 ?_ ?_ ?_ ?_
      · exact (n2 _ (by decide) (by decide) (by decide) (by decide)).trans ((if_neg (by decide)).trans m2)
      · exact (n2 _ (by decide) (by decide) (by decide) (by decide)).trans ((if_neg (by decide)).trans m3)
      · exact (n2 _ (by decide) (by decide) (by decide) (by decide)).trans ((if_neg (by decide)).trans m4)
      · exact (n2 _ (by decide) (by decide) (by decide) (by decide)).trans ((if_neg (by decide)).trans m5)
theorem l_tail {Dn Dr Dd : Addr} {kk : Nat} {c0 c1 c2 c3 c4 c5 : Nat} {t0 t1 t2 t3 t4 t5 tl tg : Tok} {cs : List Nat} {oR oD : Obj} {rs ds : List Value} {ns : List Int} {lk : Int} {z : Str}
    (F : Fr h₀ L s.heap m) (N : News h₀ L s.heap [(Dn, listOf #[.str ⟨#[c0]⟩ t0, .str ⟨#[c1]⟩ t1, .str ⟨#[c2]⟩ t2, .str ⟨#[c3]⟩ t3, .str ⟨#[c4]⟩ t4, .str ⟨#[c5]⟩ t5] kk), (Dr, oR), (Dd, oD)]) (KX : (Kd w.params).In h₀) (T : Top Qv L3 mean mg mb h₀)
    (hA' : Room2 { handled := none, depth := dp, frames := fr, guards := gd, units := un }) (hA2 : Room2 (Around.deeper { handled := none, depth := dp, frames := fr, guards := gd, units := un } env0)) (hcs : cs = [c0, c1, c2, c3, c4, c5]) (hc : ∀ c ∈ cs, 917505 ≤ (c : Int) ∧ (c : Int) < 917632)
    (hz : z = .ofString "ISO8859-15" ∨ z = .ofString "UTF-8")
    (m1 : m (Str.ofString "names") = some (.ref Dn)) (m2 : m (Str.ofString "look") = some (.int lk tl)) (m3 : m (Str.ofString "ground") = some (.str (.ofString "C." ++ z) tg)) (m4 : m (Str.ofString "row") = some (.ref Dr)) (m5 : m (Str.ofString "drawn") = some (.ref Dd))
    (hR : IsL oR rs) (hD : IsL oD ds) (hcv : CharsAre ds cs) (hri : IntsAre rs ns) (hrn : ns.length = 6) (hk3 : isUp (sortS cs) = true ↔ ¬ Three ns) (hk4 : isUp (sortS (sortS cs)) = true ↔ ¬ Four ns)
    (h : ∀ h' tk', h₀.StaysIn h' → Q (.ret (.bool true)) { s with heap := h', toks := tk' }) :
    wpAny (model PySem.Challenge.rw_kl0204_01.row.prog w) (Around.deeper { handled := none, depth := dp, frames := fr, guards := gd, units := un } env0) (execs lawTail (envOf nm lawScope L a cd)) Q (fun _ _ => False) s := by
  rw [m_split m1, m_split m2, m_split m3, m_split m4, m_split m5] at F
  have hun3 : un + 3 < cLine := by have := hA'.hu; dsimp only at this; omega
  generalize hb : lawTail = tb
  have hb2 : lawTail = (Stmt.For _ _ _ _ _ :: Stmt.Return _ _ :: []) := rfl
  rw [hb2] at hb
  subst hb
  rw [show lawScope = Scope.mk _ _ _ _ _ from rfl]
  revert KX
  k_fill
  intro KX
  refine wpAny_execs_cons (For_invVF F rfl rfl ?_)
  k_steps
  have hct : CharsAre [Value.str ⟨#[c0]⟩ t0, .str ⟨#[c1]⟩ t1, .str ⟨#[c2]⟩ t2, .str ⟨#[c3]⟩ t3, .str ⟨#[c4]⟩ t4, .str ⟨#[c5]⟩ t5] (iterS 0 cs) := by show CharsAre _ cs; rw [hcs]; exact .cons (.cons (.cons (.cons (.cons (.cons .nil)))))
  refine Stop.mk (rest_all KX T hA' hA2 (by rw [hcs]; rfl) hc hz hR hD hri hrn hk3 hk4 (fun h' tk' m' D' us' kk' F2 N2 hch2 n1 n5 => ?_) 5 0 _ Dn _ kk rfl hct (if_pos rfl) ((if_neg (by decide)).trans (if_pos rfl)) ((if_neg (by decide)).trans ((if_neg (by decide)).trans (if_pos rfl))) ((if_neg (by decide)).trans ((if_neg (by decide)).trans ((if_neg (by decide)).trans (if_pos rfl)))) ((if_neg (by decide)).trans ((if_neg (by decide)).trans ((if_neg (by decide)).trans ((if_neg (by decide)).trans (if_pos rfl))))))
  rw [m_split n1, m_split n5] at F2
  dsimp only
  k_steps
  rename Fr _ _ _ _ => F3
  rename News _ _ _ _ => N3
  refine Stop.mk (sorted_N_str F3 N3 (isl N3 (by k_mem) hD) (strs_of_chars hcv) (by rw [hcv.length, hcs]; show (6 : Nat) < 64; decide) fun h3 vs3 ss3 e3 F4 N4 hS3 hp3 hs3 => ?_)
  obtain ⟨ds3, rfl, hpd, hsd⟩ := sorted_chars hp3 hs3
  have hds : ds3 = iterS 5 cs := sorted_same hpd (iterS_perm cs 5) hsd (passes hcs).2.2
  subst hds
  clear F3 N3
  dsimp only
  k_steps
  rename Fr _ _ _ _ => F5
  rename News _ _ _ _ => N5
  refine Stop.mk (eq_chars (News.isList N5 (by k_mem)) (News.isList N5 (by k_mem)) hch2 (chars_of_strs hS3) (fun c hm => by
    have := hc c ((iterS_perm cs 5).subset hm)
    omega) (by have := hA2.hu; omega) ?_)
  k_steps
  exact h _ _ F5.keep
end
end Mine
end
/- part W24 -/
section
open PySem PySem.W PySem.Calls PyProof.Rows
set_option maxRecDepth 100000
set_option maxHeartbeats 4000000
set_option linter.unusedVariables false
namespace Mine
noncomputable def rowStmt : Stmt := lawBody.getD 1 (.Pass default)
noncomputable def drawnStmt : Stmt := lawBody.getD 2 (.Pass default)
noncomputable def RowF (v y : Value) : Prop := ∃ k t t', v = .int k t ∧ y = .int (k.fmod 97) t'
noncomputable def DrawnF (v y : Value) : Prop := ∃ k t t', v = .int k t ∧ y = .str ⟨#[dr k]⟩ t'
theorem row_ints : ∀ {vs : List Value} {ns : List Int}, IntsAre vs ns → ∀ {ys : List Value}, Paired RowF vs ys → IntsAre ys (ns.map (·.fmod 97))
  | _, _, .nil, _, h => by cases h; exact .nil
  | _, _, .cons k t r, _, f => by
    cases f with
    | cons f0 f =>
      obtain ⟨k', t', t'', e, rfl⟩ := f0
      cases e
      exact .cons _ _ (row_ints r f)
theorem drawn_chars : ∀ {vs : List Value} {ns : List Int}, IntsAre vs ns → ∀ {ys : List Value}, Paired DrawnF vs ys → CharsAre ys (ns.map dr)
  | _, _, .nil, _, h => by cases h; exact .nil
  | _, _, .cons k t r, _, f => by
    cases f with
    | cons f0 f =>
      obtain ⟨k', t', t'', e, rfl⟩ := f0
      cases e
      exact .cons (drawn_chars r f)
theorem ints_mem : ∀ {vs : List Value} {ns : List Int}, IntsAre vs ns → ∀ v ∈ vs, ∃ k t, v = .int k t ∧ k ∈ ns
  | _, _, .nil, _, h => nomatch h
  | _, _, .cons k t r, v, hv => by
    cases hv with
    | head => exact ⟨k, t, rfl, .head _⟩
    | tail _ hv =>
      obtain ⟨k', t', e, hk⟩ := ints_mem r v hv
      exact ⟨k', t', e, .tail _ hk⟩
section
variable {prog : Program} {w : World} {A : Around} {E : Value → Shared → Prop} {s : Shared} {env : Env} {h₀ : Heap} {m : Str → Option Value} {news : List (Addr × Obj)} {Q : Flow → Shared → Prop}
theorem assign_comp {elt iter : PySem.Expr} {x y : Str} {px py pos spos : Pos} {scope : Scope} {cl : List (Str × Addr)} (R : Value → Value → Prop) (hh : A.handled = none)
    (hsw : swapsWith (.ListComp elt [⟨.Name x px, iter, [], 0⟩] scope pos) (some (.Name y py)) spos.line env = pure true)
    (hclos : closureFor scope env = pure cl) (hcell : ∀ z ∈ scope.names, z.2 ≠ .cell) (hkind : scope.kind = .function)
    (hnames : ∀ z ∈ scope.names, z.2 = .local → scope.names.lookup z.1 = some .local) (hx : scope.names.lookup x = some .local)
    (hy : env.kindOf y = some .local) (hp : (env.scope.kind == .class || (env.scope.kind == .module && env.locals != env.globals)) = false)
    (hs : ∀ x, foldedSetIterable iter env x = pure x)
    (h : wpAny (model prog w) A (eval iter env) (fun xv s₁ => ∃ D us h1 tk, xv = .ref D ∧ s₁ = { s with heap := h1, toks := tk } ∧ Fr h₀ env.locals h1 m ∧ News h₀ env.locals h1 news ∧ h1.IsList D (List.toArray us) ∧ us.length ≤ 100 ∧
      (∀ C v s₃ m₃ E', v ∈ us → s₃.heap.Ns C m₃ → m₃ x = some v → h1.StaysIn s₃.heap → wpAny (model prog w) A (eval elt (compEnvC scope cl C env)) (fun y s₄ => R v y ∧ Keeps s₃ s₄) E' s₃) ∧
      (∀ D h' tk ys n, Fr h₀ env.locals h' (fun z => if z = y then some (.ref D) else m z) → News h₀ env.locals h' ((D, listOf (List.toArray ys) n) :: news) → Paired R us ys → Q .next { s with heap := h', toks := tk })) E s) :
    wpAny (model prog w) A (exec (.Assign [.Name y py] (.ListComp elt [⟨.Name x px, iter, [], 0⟩] scope pos) spos) env) Q E s := by
  refine wpAny_Assign_ListComp_free (fun _ => true) R hsw hclos hcell hkind hnames hx hy hp (wpAny_mono h (fun xv s₁ q => ?_) fun _ _ e => e) hs
  obtain ⟨D0, us, h1, tk, rfl, rfl, F, N, hl, hlen, helt, hfin⟩ := q
  refine wpAny_pyIter_list hl ?_
  have hl' := hl
  obtain ⟨o0, ho0, _⟩ := hl'
  have hlt : D0 < h1.objs.size := Heap.lt_size ho0
  have hI : h1.get? h1.objs.size = none := Heap.get?_none_of_le (Nat.le_refl _)
  have hL : env.locals < h1.objs.size := F.ns.lt
  have keepI : ∀ {h' : Heap}, (∀ b o, b ∉ [h1.objs.size] → (h1.push { cls := .type "list_iterator", data := .fields #[.ref D0, .int 0 0] }).get? b = some o → h'.get? b = some o) → h1.StaysIn h' := fun hk b o e => hk b o (by
    intro hb
    rw [List.mem_singleton] at hb
    rw [hb, hI] at e
    cases e) (Heap.get?_push_of_some _ e)
  refine ⟨h1.objs.size, [h1.objs.size, D0], [h1.objs.size], _, _, _, m, rfl, Walks.list hh h1.objs.size D0 (Nat.ne_of_lt hlt) us.toArray, (by rw [sizeLine_eq, List.size_toArray]; omega), ⟨⟨_, Heap.get?_push_size _ rfl, rfl, rfl⟩, hl.push _⟩, ?_, ?_, ?_, ⟨?_, ?_⟩, ?_⟩
  · intro b hb
    rw [Heap.size_push]
    simp only [List.mem_cons, List.not_mem_nil, or_false] at hb
    rcases hb with rfl | rfl
    · exact Nat.lt_succ_self _
    · exact Nat.lt_succ_of_lt hlt
  · intro hb
    exact Nat.ne_of_lt hL (List.mem_singleton.mp hb)
  · exact (F.push _).ns
  · intro C i v s₃ m₃ E' hC hP hns hx' hk htk
    exact wpAny_tests_nil ⟨rfl, _, _, rfl, fun _ _ e => e⟩
  · intro C i v s₃ m₃ E' hC hP _ hns hx' hk htk
    exact helt C v s₃ m₃ E' (List.mem_of_getElem? (by rw [← List.getElem?_toArray]; exact hP)) hns hx' (keepI hk)
  · intro D h' tk' ys vs hD hys hpl hlen' hP hF hns hk
    have e : vs = us := list_same (by rw [hlen', List.size_toArray]) (fun j v e => by rw [← List.getElem?_toArray]; exact hP j v e)
    rw [List.filter_eq_self.mpr (fun _ _ => rfl), e] at hF
    obtain ⟨n, hn⟩ := hpl
    have kk : ∀ b o, b ≠ env.locals → h1.get? b = some o → h'.get? b = some o := fun b o hb e => hk b o hb (by
      intro hb
      rw [List.mem_singleton] at hb
      rw [hb, hI] at e
      cases e) (Heap.get?_push_of_some _ e)
    have hD1 : h1.get? D = none := by
      cases e : h1.get? D with
      | none => rfl
      | some o => rw [Heap.get?_push_of_some _ e] at hD; cases hD
    have F' : Fr h₀ env.locals h' (fun z => if z = y then some (.ref D) else m z) := ⟨hns, fun b o e => kk b o (Nat.ne_of_lt (Nat.lt_of_lt_of_le (Heap.lt_size e) F.above)) (F.keep b o e), F.above⟩
    refine hfin D h' tk' ys.toList n F' (fun p hp => ?_) hF
    rcases List.mem_cons.mp hp with rfl | hp
    · refine ⟨by rw [Array.toArray_toList]; exact hn, fun e => ?_, F.noneBack hD1⟩
      have e : D = env.locals := e
      obtain ⟨o', _, _, hLo, _⟩ := F.ns
      rw [← e, hD1] at hLo
      cases hLo
    · have q := N p hp
      exact ⟨kk p.1 p.2 q.2.1 q.1, q.2.1, q.2.2⟩
end
section
variable {w : World} {dp un : Nat} {fr : Option (List Env)} {gd : Option (List Code)} {env0 : Env} {nm : Str} {a : Addr} {cd : Value} {s : Shared} {mg mb : Str → Option Value} {mean : ExcName → Option Value} {h₀ : Heap} {L : Addr} {m : Str → Option Value}
  {Q : Flow → Shared → Prop} {E : Value → Shared → Prop} {news : List (Addr × Obj)}
theorem row_stmt {ac : Addr} {y0 y1 y2 y3 y4 y5 y6 : Int} {b0 b1 b2 b3 b4 b5 b6 : Tok} {kc : Nat} (F : Fr h₀ L s.heap m) (N : News h₀ L s.heap ((ac, listOf #[.int y0 b0, .int y1 b1, .int y2 b2, .int y3 b3, .int y4 b4, .int y5 b5, .int y6 b6] kc) :: news)) (KX : (Kd w.params).In h₀) (T : Top Qv L3 mean mg mb h₀)
    (hm : m (Str.ofString "cells") = some (.ref ac))
    (h : ∀ D h' tk ys n, Fr h₀ L h' (fun z => if z = Str.ofString "row" then some (.ref D) else m z) → News h₀ L h' ((D, listOf (List.toArray ys) n) :: (ac, listOf #[.int y0 b0, .int y1 b1, .int y2 b2, .int y3 b3, .int y4 b4, .int y5 b5, .int y6 b6] kc) :: news) → IntsAre ys [y0.fmod 97, y1.fmod 97, y2.fmod 97, y3.fmod 97, y4.fmod 97, y5.fmod 97] → Q .next { s with heap := h', toks := tk }) :
    wpAny (model PySem.Challenge.rw_kl0204_01.row.prog w) (Around.deeper { handled := none, depth := dp, frames := fr, guards := gd, units := un } env0) (exec rowStmt (envOf nm lawScope L a cd)) Q E s := by
  have hms := m_split hm
  rw [show rowStmt = Stmt.Assign [Expr.Name _ _] (Expr.ListComp _ _ _ _) _ from rfl]
  rw [show lawScope = Scope.mk _ _ _ _ _ from rfl]
  revert KX
  k_fill
  intro KX
  refine assign_comp (h₀ := h₀) (m := m) (news := (ac, listOf #[.int y0 b0, .int y1 b1, .int y2 b2, .int y3 b3, .int y4 b4, .int y5 b5, .int y6 b6] kc) :: news) RowF rfl (by rfl) rfl (by decide) rfl (by decide) (by rfl) (by rfl) (by rfl) (by intro _; rfl) (cutR F N (ks := [y0, y1, y2, y3, y4, y5]) ?_ ?_)
  · rw [hms] at F
    k_steps
    rename Fr _ _ _ _ => F1
    rename News _ _ _ _ => N1
    rw [← hms] at F1
    exact EndR.mk F1 (fun p hp => N1 p (.tail _ hp)) (News.isList N1 (.head _)) (.cons _ _ (.cons _ _ (.cons _ _ (.cons _ _ (.cons _ _ (.cons _ _ .nil))))))
  · intro D us h3 tk3 F3 N3 hl hi
    have hlen : us.length = 6 := by have := hi.length; exact this
    refine ⟨D, us, h3, tk3, rfl, rfl, F3, N3, hl, by omega, ?_, fun D2 h' tk' ys n F' N' hp => h D2 h' tk' ys n F' N' (row_ints hi hp)⟩
    intro C v s₂ m₂ E' hmem hns hx hk
    obtain ⟨k, t, rfl, _⟩ := ints_mem hi v hmem
    have F4 := F3.keeps hk
    clear F F3 N N3
    k_steps
    · exact ⟨k, t, _, rfl, rfl⟩
    · exact ⟨_, _, rfl, fun _ _ e => e⟩
theorem drawn_stmt {ar : Addr} {rs : List Value} {kr : Nat} {ns : List Int} (F : Fr h₀ L s.heap m) (N : News h₀ L s.heap news) (hr : (ar, listOf (List.toArray rs) kr) ∈ news) (hi : IntsAre rs ns) (hn : ns.length ≤ 100) (hx : ∀ k ∈ ns, k < 97) (KX : (Kd w.params).In h₀) (T : Top Qv L3 mean mg mb h₀)
    (hm : m (Str.ofString "row") = some (.ref ar))
    (h : ∀ D h' tk ys n, Fr h₀ L h' (fun z => if z = Str.ofString "drawn" then some (.ref D) else m z) → News h₀ L h' ((D, listOf (List.toArray ys) n) :: news) → CharsAre ys (ns.map dr) → Q .next { s with heap := h', toks := tk }) :
    wpAny (model PySem.Challenge.rw_kl0204_01.row.prog w) (Around.deeper { handled := none, depth := dp, frames := fr, guards := gd, units := un } env0) (exec drawnStmt (envOf nm lawScope L a cd)) Q E s := by
  have hms := m_split hm
  rw [show drawnStmt = Stmt.Assign [Expr.Name _ _] (Expr.ListComp _ _ _ _) _ from rfl]
  rw [show lawScope = Scope.mk _ _ _ _ _ from rfl]
  revert KX
  k_fill
  intro KX
  refine assign_comp (h₀ := h₀) (m := m) (news := news) DrawnF rfl (by rfl) rfl (by decide) rfl (by decide) (by rfl) (by rfl) (by rfl) (by intro _; rfl) (cutR F N (ks := ns) ?_ ?_)
  · rw [hms] at F
    k_steps
    rw [← hms] at F
    exact EndR.mk F N (News.isList N hr) hi
  · intro D us h3 tk3 F3 N3 hl hi
    have hlen : us.length ≤ 100 := by rw [hi.length]; exact hn
    refine ⟨D, us, h3, tk3, rfl, rfl, F3, N3, hl, hlen, ?_, fun D2 h' tk' ys n F' N' hp => h D2 h' tk' ys n F' N' (drawn_chars hi hp)⟩
    intro C v s₂ m₂ E' hmem hns hx2 hk
    obtain ⟨k, t, rfl, hkn⟩ := ints_mem hi v hmem
    have hk97 := hx k hkn
    have F4 := F3.keeps hk
    clear F F3 N N3
    k_steps
    · exact ⟨k, t, _, rfl, by rw [show dr k = (917535 + k).toNat from if_pos (by assumption)]⟩
    · exact ⟨_, _, rfl, fun _ _ e => e⟩
    · exact ⟨k, t, _, rfl, by rw [show dr k = Int.toNat 917505 from if_neg (by assumption)]⟩
    · exact ⟨_, _, rfl, fun _ _ e => e⟩
end
end Mine
end
/- part P36 -/
section
set_option maxRecDepth 100000
set_option linter.unusedVariables false
namespace Mine
theorem list6 : ∀ (l : List Nat), l.length = 6 → ∃ a b c d e f, l = [a, b, c, d, e, f]
  | [a, b, c, d, e, f], _ => ⟨a, b, c, d, e, f, rfl⟩
theorem isUp_pw {l : List Nat} (hl : l.length = 6) : isUp l = true ↔ l.Pairwise (· ≤ ·) := by
  obtain ⟨a, b, c, d, e, f, rfl⟩ := list6 l hl
  exact isUp_iff
theorem up_three {y0 y1 y2 y3 y4 y5 : Int} {cs : List Nat} (h : ∀ y ∈ [y0, y1, y2, y3, y4, y5], 0 ≤ y) (hcs : cs = [dr y0, dr y1, dr y2, dr y3, dr y4, dr y5]) :
    isUp (sortS cs) = true ↔ ¬ Three [y0, y1, y2, y3, y4, y5] := by
  rw [isUp_pw (by rw [(sortS_perm cs).length_eq, hcs]; rfl), three_iff h, (passes hcs).1]
  cases threeB (dr y0) (dr y1) (dr y2) (dr y3) (dr y4) (dr y5) <;> simp
theorem up_four {y0 y1 y2 y3 y4 y5 : Int} {cs : List Nat} (h : ∀ y ∈ [y0, y1, y2, y3, y4, y5], 0 ≤ y) (hcs : cs = [dr y0, dr y1, dr y2, dr y3, dr y4, dr y5]) :
    isUp (sortS (sortS cs)) = true ↔ ¬ Four [y0, y1, y2, y3, y4, y5] := by
  rw [isUp_pw (by rw [(sortS_perm _).length_eq, (sortS_perm cs).length_eq, hcs]; rfl), four_iff h, (passes hcs).2.1]
  cases fourB (dr y0) (dr y1) (dr y2) (dr y3) (dr y4) (dr y5) <;> simp
theorem dr_in {x : Int} (h0 : 0 ≤ x) (h1 : x < 97) : 917505 ≤ (dr x : Int) ∧ (dr x : Int) < 917632 := by
  unfold dr
  split <;> omega
end Mine
end
/- part W16 -/
section
open PySem PySem.W PySem.Calls PyProof.Rows
set_option maxRecDepth 100000
set_option maxHeartbeats 4000000
set_option linter.unusedVariables false
namespace Mine
theorem lst_ne {vs : List Value} {n : Nat} (hv : vs.length = 6) : listOf (List.toArray vs) n ≠ listOf #[] 0 := fun e => by
  have h1 : vs.toArray = (#[] : Array Value) := (Data.seq.inj (congrArg Obj.data e)).1
  have h2 : vs.length = 0 := congrArg Array.size h1
  rw [hv] at h2
  exact absurd h2 (by decide)
theorem pick3 {h₀ h : Heap} {L : Addr} {a1 a2 a3 a4 a5 a6 n d r : Addr × Obj} {tl : List (Addr × Obj)} (N : News h₀ L h (a1 :: a2 :: a3 :: a4 :: a5 :: a6 :: n :: d :: r :: tl)) : News h₀ L h [n, r, d] := fun p hp => N p (by
  simp only [List.mem_cons, List.not_mem_nil, or_false] at hp ⊢
  rcases hp with rfl | rfl | rfl <;> simp)
theorem fr_split {h₀ h : Heap} {L : Addr} {m : Str → Option Value} (F : Fr h₀ L h m) : ∃ m', m' = m ∧ Fr h₀ L h m' := ⟨m, rfl, F⟩
theorem m_none {f : Str → Option Value} {y : Str} {v : Option Value} (h : f y = v) : kstB f [] y = v := h
theorem dr_ok {x : Int} (h0 : 0 ≤ x) (h1 : x < 97) : c9 (dr x) = true ∧ dr x < 1114112 := by
  unfold c9 inC9 dr
  split
  · refine ⟨decide_eq_true (.inr ?_), ?_⟩ <;> omega
  · exact ⟨by decide, by decide⟩
local macro_rules | `(tactic| walk_at $k:str) => if ["call ref", "exec Assign cons ListComp", "compareOp NotEq ref ref", "InvPostN"].contains k.getString then `(tactic| (refine unstop ?_)) else Lean.Macro.throwUnsupported
local macro_rules | `(tactic| walk_at "execs cons") => `(tactic| (refine stopFor ?_))
local macro_rules | `(tactic| walk_at "subscriptTail") => `(tactic| (refine stopTwo ?_))
section
variable {w : World} {A : Around} {R : Result → Shared → Prop} {s : Shared} {mg mb : Str → Option Value} {mean : ExcName → Option Value}
theorem l_law {l fa : Addr} {cd : Value} {h₁ : Heap} {tk : Nat} {vs : List Value} {ns : List Int} {Q : Flow → Shared → Prop} (F : Fr s.heap s.heap.objs.size h₁ fun x => List.lookup x [(Str.ofString "script", Value.ref l)].reverse) (hl : s.heap.IsList l vs.toArray) (hi : IntsAre vs ns) (hn : ns.length ≤ 63) (hA : Room2 A) (hA2 : ∀ env : Env, Room2 (A.deeper env)) (C : Ok w mean mg mb s.heap)
    (h : ∀ h' n', s.heap.StaysIn h' → Q (.ret (.bool true)) { s with heap := h', toks := n' }) :
    wpAny (model PySem.Challenge.rw_kl0204_01.row.prog w) (A.deeper (envOf (Str.ofString "law") lawScope s.heap.objs.size fa cd)) (execs lawBody (envOf (Str.ofString "law") lawScope s.heap.objs.size fa cd)) Q (fun _ _ => False) { s with heap := h₁, toks := tk } := by
  obtain ⟨KX, T⟩ := C
  generalize hb : lawBody = tb
  have hb2 : lawBody = (_ :: _ :: _ :: _ :: _ :: _ :: _ :: _ :: _ :: _ :: _ :: _ :: []) := rfl
  rw [hb2] at hb
  subst hb
  rw [show lawScope = Scope.mk _ _ _ _ _ from rfl]
  revert KX
  k_fill
  intro KX
  obtain ⟨hd, dp, fr, gd, un⟩ := A
  have hA' := hA
  obtain ⟨hh, hroom, hun⟩ := hA
  dsimp only at hh hroom hun
  subst hh
  have N := news_nil (h₀ := s.heap) (L := s.heap.objs.size) (h := h₁)
  k_steps
  refine Stop.mk (wpAny_call (l_cells (hl.at fun o e => F.keep l o e) hi hn hA'.deeper (Ok.keeps ⟨KX, T⟩ F.keep) fun h' n' a vs' ns' k hk hi' hn' ha hnone => ?_))
  have F1 := F.keeps hk
  have N1 := news_add F (fun _ hp => nomatch hp : News s.heap s.heap.objs.size h' []) ha hnone
  clear F N ha hnone hk
  obtain ⟨y0, b0, us, ks, rfl, hi', hn'⟩ := ints_cons hi' hn'
  obtain ⟨y1, b1, us, ks, rfl, hi', hn'⟩ := ints_cons hi' hn'
  obtain ⟨y2, b2, us, ks, rfl, hi', hn'⟩ := ints_cons hi' hn'
  obtain ⟨y3, b3, us, ks, rfl, hi', hn'⟩ := ints_cons hi' hn'
  obtain ⟨y4, b4, us, ks, rfl, hi', hn'⟩ := ints_cons hi' hn'
  obtain ⟨y5, b5, us, ks, rfl, hi', hn'⟩ := ints_cons hi' hn'
  obtain ⟨lk, b6, us, ks, rfl, hi', hn'⟩ := ints_cons hi' hn'
  have := ints_nil hi' hn'
  subst this
  clear hi' hn'
  dsimp only
  k_steps
  rename Fr _ _ _ _ => F1
  rename News _ _ _ _ => N1
  refine Stop.mk (row_stmt F1 N1 KX T (if_pos rfl) fun D1 h' tk' rs n1 F2 N2 hri => ?_)
  clear F1 N1
  k_steps
  rename Fr _ _ _ _ => F1
  rename News _ _ _ _ => N1
  refine Stop.mk (drawn_stmt F1 N1 (by k_mem) hri (by show (6 : Nat) ≤ 100; decide) (fun k hk => by
    simp only [List.mem_cons, List.not_mem_nil, or_false] at hk
    rcases hk with rfl | rfl | rfl | rfl | rfl | rfl <;> exact fmod_hi _ (by decide)) KX T (if_pos rfl) fun D2 h' tk' ds0 n2 F2 N2 hcd => ?_)
  clear F1 N1
  k_steps
  rename Fr _ _ _ _ => F1
  rename News _ _ _ _ => N1
  refine Stop.mk (cut2 F1 N1 ?_)
  clear F1 N1
  repeat (first | (rename_i x; clear x) | (rename_i x; revert x))
  intros
  rename Fr _ _ _ _ => F1
  rename News _ _ _ _ => N1
  obtain ⟨cs, hcs⟩ : ∃ cs : List Nat, cs = [dr (y0.fmod 97), dr (y1.fmod 97), dr (y2.fmod 97), dr (y3.fmod 97), dr (y4.fmod 97), dr (y5.fmod 97)] := ⟨_, rfl⟩
  have hcd : CharsAre ds0 cs := by rw [hcs]; exact hcd
  have hd6 : ds0.length = 6 := by rw [hcd.length, hcs]; rfl
  have h9 : ∀ c ∈ cs, c9 c = true ∧ c < 1114112 := by
    rw [hcs]
    intro c hc
    simp only [List.mem_cons, List.not_mem_nil, or_false] at hc
    rcases hc with rfl | rfl | rfl | rfl | rfl | rfl <;> exact dr_ok (fmod_lo _ (by decide)) (fmod_hi _ (by decide))
  refine wpAny_execs_cons (For_invVF F1 rfl rfl ?_)
  k_steps
  refine Stop.mk (wpAny_call (l_page (cs := cs) (News.isList N1 (by k_mem)) hcd (by rw [hcs]; rfl) h9 hA'.deeper (Ok.keeps ⟨KX, T⟩ F1.keep) fun h' n' x t hk hpg => ?_))
  have F2 := F1.keeps hk
  have N2 := N1.keeps hk
  clear F1 N1
  dsimp only
  have hne := head_apart N2 (by
    intro p hp
    simp only [List.mem_cons, List.not_mem_nil, or_false] at hp
    rcases hp with rfl | rfl | rfl
    · exact lst_ne hd6
    · exact lst_ne (by rw [hri.length]; rfl)
    · intro e; cases e)
  refine kst_str (σ := NS) (fun c => (_, listOf c.us.toArray c.k) :: _) (fun _ => []) (fun c => CharsAre c.us c.ds) [.ofString "told"] (fun pre c => c.ds = (pre.map Int.toNat).filter c9 ∧ c.ds.length ≤ pre.length) ⟨[], [], 0⟩ rfl F2 N2 .nil (fun _ hp => nomatch hp) ⟨rfl, Nat.le_refl _⟩ ?_ ?_
  · rintro ⟨us, ds, k3⟩ pre n tn u h4 tk4 own hmem hplt hoff hch ⟨hds, hdl⟩ F4 N4
    dsimp only at hch hds hdl F4 N4 ⊢
    clear F2 N2
    have F4 : Fr s.heap s.heap.objs.size h4 _ := F4
    have N4 : News s.heap s.heap.objs.size h4 _ := N4
    rename Fr s.heap (Env.locals _) _ _ => Fold
    rename News s.heap (Env.locals _) _ _ => Nold
    clear Fold Nold
    k_steps
    refine Stop.mk (wpAny_call (in_c9 hA'.deeper (Ok.keeps ⟨KX, T⟩ F4.keep) (hpg.2.2 n hmem) fun h' n' hk => ?_))
    have F5 := F4.keeps hk
    have N5 := N4.keeps hk
    clear F4 N4
    dsimp only
    have hx12 : x.cps.size ≤ 12 := hpg.2.1
    cases hc9 : inC9 n with
    | true =>
      k_steps
      rename Fr _ _ _ _ => F8
      rename News _ _ _ _ => N8
      have hus : us.length ≤ 12 := by rw [hch.length]; omega
      refine append_K F8 N8 (.head fun p hp => ?_) (fun h9' F9 N9 => ?_) (by rw [List.size_toArray, sizeLine_eq]; omega)
      · rcases List.mem_append.mp hp with hp | hp
        · exact hne p hp
        · exact hoff p hp _ (.head _)
      rw [List.push_toArray] at N9
      clear F8 N8
      dsimp only
      k_steps
      rename Fr _ _ _ _ => F10
      rename News _ _ _ _ => N10
      refine Stop.mk (kst_end ⟨us ++ [.str ⟨#[n]⟩ _], ds ++ [n], k3 + 1⟩ F10 N10 (by intro p hp; kst_mem) (by intro p hp; kst_mem) rfl (hch.append (.cons .nil)) (fun _ hp => nomatch hp) (by
        intro y h1 _ h3
        have h4 : y ≠ .ofString "told" := by intro e; subst e; exact absurd h3 (by decide)
        simp [kstB, h1, h4]) ?_)
      refine ⟨?_, by dsimp only; rw [List.length_append, List.length_append]; exact Nat.succ_le_succ hdl⟩
      dsimp only
      rw [List.map_append, List.filter_append, ← hds]
      have e : c9 n = true := hc9
      simp [e]
    | false =>
      k_steps
      rename Fr _ _ _ _ => F10
      rename News _ _ _ _ => N10
      refine Stop.mk (kst_end ⟨us, ds, k3⟩ F10 N10 (by intro p hp; kst_mem) (by intro p hp; kst_mem) rfl hch (fun _ hp => nomatch hp) (by
        intro y h1 _ h3
        have h4 : y ≠ .ofString "told" := by intro e; subst e; exact absurd h3 (by decide)
        simp [kstB, h1, h4]) ?_)
      refine ⟨?_, by dsimp only; rw [List.length_append]; exact Nat.le_succ_of_le hdl⟩
      dsimp only
      rw [List.map_append, List.filter_append, ← hds]
      have e : c9 n = false := hc9
      simp [e]
  · rintro ⟨us, ds, k3⟩ u h4 tk4 hch ⟨hds, hdl⟩ F4 N4
    dsimp only at hch hds hdl F4 N4 ⊢
    clear F2 N2 hne
    have F4 : Fr s.heap s.heap.objs.size h4 _ := F4
    have N4 : News s.heap s.heap.objs.size h4 _ := N4
    rename Fr s.heap (Env.locals _) _ _ => Fold
    rename News s.heap (Env.locals _) _ _ => Nold
    clear Fold Nold
    have hds2 : ds = cs := by
      rw [hds, List.map_map]
      have e : List.map (Int.toNat ∘ Int.ofNat) x.cps.toList = x.cps.toList := List.map_id'' (fun _ => rfl) _
      rw [e, hpg.1, List.take_of_length_le (by rw [hcs]; exact Nat.le_refl _)]
    clear hds hdl
    subst hds2
    rw [hcs] at hch
    cases hch; rename CharsAre _ _ => hch
    cases hch; rename CharsAre _ _ => hch
    cases hch; rename CharsAre _ _ => hch
    cases hch; rename CharsAre _ _ => hch
    cases hch; rename CharsAre _ _ => hch
    cases hch; rename CharsAre _ _ => hch
    cases hch
    k_steps
    rename Fr _ _ _ _ => F6
    rename News _ _ _ _ => N6
    refine Stop.mk <| ne_chars (cs := ds) (News.isList N6 (by k_mem)) (News.isList N6 (by k_mem)) (by rw [hcs]; exact .cons (.cons (.cons (.cons (.cons (.cons .nil)))))) hcd (fun c hc => (h9 c hc).2) (show un + 3 + 64 < _ by omega) ?_
    k_steps
    rename News _ _ _ _ => nTw
    refine Stop.mk (item_two nTw (by k_mem) (fmod_lo _ (by decide)) (fmod_hi _ (by decide)) ?_ (by with_unfolding_all rfl))
    intro _
    try dsimp only
    k_steps
    rename News _ _ _ _ => nTx
    refine Stop.mk (item_two nTx (by k_mem) (fmod_lo _ (by decide)) (fmod_hi _ (by decide)) ?_ (by with_unfolding_all rfl))
    intro _
    try dsimp only
    k_steps
    rename Fr _ _ _ _ => F6
    rename News _ _ _ _ => N6
    refine Stop.mk (wpAny_call (am_two hA'.deeper (Ok.keeps ⟨KX, T⟩ F6.keep) fun h' n' t hk => ?_))
    have F7 := F6.keeps hk
    have N7 := N6.keeps hk
    clear F6 N6
    dsimp only
    k_steps
    · exact (cl1 (by assumption)).elim
    rename Fr _ _ _ _ => F8
    rename News _ _ _ _ => N8
    refine Stop.mk (wpAny_call (l_reply0 (News.isList N8 (by k_mem)) hA'.deeper (Ok.keeps ⟨KX, T⟩ F8.keep) fun h' n' a2 D2 t2 hk ha2 hn2 => ?_))
    have F9 := F8.keeps hk
    have N9 := news_add F8 (N8.keeps hk) ha2 hn2
    clear F8 N8
    dsimp only
    k_steps
    rename Fr _ _ _ _ => F8
    rename News _ _ _ _ => N8
    refine Stop.mk (wpAny_call (parse_rep (ws := []) hA'.deeper (Ok.keeps ⟨KX, T⟩ F8.keep) (rep_ok _ dull_nil) (by decide) (by rfl) (by decide) (fun _ h => nomatch h) fun h' n' a3 k3' hk ha3 hn3 => ?_))
    have F9 := F8.keeps hk
    have N9 := news_add F8 (N8.keeps hk) ha3 hn3
    clear F8 N8
    dsimp only
    k_steps
    rename Fr _ _ _ _ => F8
    rename News _ _ _ _ => N8
    refine Stop.mk (ne_tuples (bs := []) (vs := []) (ws := []) (News.isTup N8 (items := #[]) (by k_mem)) (News.isTup N8 (items := #[]) (by k_mem)) .nil .nil (show un + 3 < _ by omega) ?_)
    k_steps
    rename Fr _ _ _ _ => F8
    rename News _ _ _ _ => N8
    refine Stop.mk (cut2 F8 N8 ?_)
    clear F8 N8
    refine fun h8 tk8 F8 N8 => ?_
    have N9 := pick3 N8
    clear N8
    obtain ⟨z, hz, ez⟩ := two_ground (((ns'.getD (Int.toNat 6) 0).fdiv 2304).fmod 2)
    rw [ez] at F8
    obtain ⟨m8, hm8, F8⟩ := fr_split F8
    obtain ⟨tl, m2⟩ : ∃ t, m8 (Str.ofString "look") = some (.int (ns'.getD (Int.toNat 6) 0) t) := by
      rw [hm8]
      exact ⟨_, (if_neg (by decide)).trans ((if_neg (by decide)).trans (m_none ((if_neg (by decide)).trans ((if_neg (by decide)).trans (if_pos rfl)))))⟩
    obtain ⟨tg, m3⟩ : ∃ t, m8 (Str.ofString "ground") = some (.str (.ofString "C." ++ z) t) := by
      rw [hm8]
      exact ⟨_, if_pos rfl⟩
    have g : ∀ y : Int, 0 ≤ y.fmod 97 ∧ y.fmod 97 < 97 := fun y => ⟨fmod_lo _ (by decide), fmod_hi _ (by decide)⟩
    have g6 : ∀ y ∈ [y0.fmod 97, y1.fmod 97, y2.fmod 97, y3.fmod 97, y4.fmod 97, y5.fmod 97], 0 ≤ y := by
      intro y hy
      simp only [List.mem_cons, List.not_mem_nil, or_false] at hy
      rcases hy with rfl | rfl | rfl | rfl | rfl | rfl <;> exact (g _).1
    refine wpAny_mono (l_tail (s := { s with heap := h8, toks := tk8 }) (cs := ds) (z := z) (ns := [y0.fmod 97, y1.fmod 97, y2.fmod 97, y3.fmod 97, y4.fmod 97, y5.fmod 97]) F8 N9 KX T hA' (hA2 _) hcs ?_ hz ?_ m2 m3 ?_ ?_
      ⟨rfl, _, rfl⟩ ⟨rfl, _, rfl⟩ hcd hri rfl (up_three g6 hcs) (up_four g6 hcs) fun h' tk' hk => h h' tk' hk) (fun _ _ x => x) fun _ _ x => x.elim
    · rw [hcs]
      intro c hm
      simp only [List.mem_cons, List.not_mem_nil, or_false] at hm
      rcases hm with rfl | rfl | rfl | rfl | rfl | rfl <;> exact dr_in (g _).1 (g _).2
    · rw [hm8]
      exact (if_neg (by decide)).trans ((if_neg (by decide)).trans (m_none ((if_neg (by decide)).trans (if_pos rfl))))
    · rw [hm8]
      exact (if_neg (by decide)).trans ((if_neg (by decide)).trans (m_none ((if_neg (by decide)).trans ((if_neg (by decide)).trans ((if_neg (by decide)).trans ((if_neg (by decide)).trans (if_pos rfl)))))))
    · rw [hm8]
      exact (if_neg (by decide)).trans ((if_neg (by decide)).trans (m_none ((if_neg (by decide)).trans ((if_neg (by decide)).trans ((if_neg (by decide)).trans (if_pos rfl))))))
end
end Mine
end
/- part W22 -/
section
open PySem PySem.W PyProof.Rows
set_option maxRecDepth 100000
set_option maxHeartbeats 8000000
set_option linter.unusedVariables false
namespace Mine
theorem top_of : PySem.Challenge.rw_kl0204_01.Holds := by
  w_on
  o_law
  refine holds_open (q := Qv) (loose := [.ofString "locale_encoding_alias", .ofString "Flags", .ofString "c9_set"]) (Xt := fun s => xlAt Qv [] s && recOk (RowW.records (OpenRow.toRowW (OpenLaw.row PySem.Challenge.rw_kl0204_01))) s) (XP := XL Qv []) (Yf := Hook.obs Hk) (Ya := Hook.val Hk) (YP := Hook.says Hk) (N := 30000) ?hl (Hook.of Hk) (Hook.keeps Hk) (fun s e => xl_of s (Bool.and_eq_true_iff.mp e).1) XL.keeps (by rfl) (by rfl) (by rfl) (fun s e => recFacts_of (Bool.and_eq_true_iff.mp e).2) (by rfl) (by first | assumption | decide +kernel) (by decide +kernel) ⟨rfl, rfl, rfl, rfl, rfl, by decide +kernel⟩ ?hw ?hc
  case hw => w_witness2
  case hl => exact left
  unfold Hk
  w_strict (k_go0)
  rename Fr _ _ _ _ => F
  rename Top _ _ _ _ _ _ => T
  rename Frag.In _ _ => KX
  rename IntsAre _ _ => hI
  rename Heap.IsList _ _ _ => hL
  rename ¬ _ < _ => hlen
  refine wpAny_mono (l_law F hL hI (by omega) ⟨rfl, by decide +kernel, by decide +kernel⟩ (fun _ => ⟨rfl, show callerA.depth + 1 + 30 < recursionLimit by decide +kernel, show callerA.units + 3 + 200 < cLine by decide +kernel⟩) ⟨KX, T⟩ (fun h' n' hk => ?_)) (fun _ _ x => x) (fun _ _ x => x.elim)
  rename _ = #[] => hg
  refine ⟨.inl ⟨.bool true, _, _, rfl, raisesW_false ?_, ReadsW.bool _, ?_, unshared_nil⟩, hk, rfl, hg⟩
  · wrow_none_raised
  · wrow_post
end Mine
end
theorem PySem.Challenge.cw_kl0204_01_holds : PySem.Challenge.rw_kl0204_01.Holds :=
  Mine.top_of
