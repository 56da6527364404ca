import PyProof.Rows.All
import Wide.All
import OpenK.AllK
import Wide.FinOn
import PySem.Challenge.RW_ab6016_01
set_option Elab.async false
set_option maxRecDepth 100000

noncomputable section
open PySem PySem.W PyProof.Rows
set_option maxHeartbeats 8000000
namespace Mine
open_top hd for PySem.Challenge.rw_ab6016_01
end Mine
end

noncomputable section
open PySem PySem.W PyProof.Rows PySem.Calls
set_option maxHeartbeats 8000000
namespace Mine
/-- what a def gives back, for any caller -/
def Con (w : World) (mean : ExcName → Option Value) (mg mb : Str → Option Value) (f : Addr) (k : Nat) (vs : List Value) (R : Value → Prop) : Prop :=
  ∀ (news : List (Addr × Obj)) (dp un : Nat) (gd : Option (List Code)) (cn : Str) (cs : Scope) (a : Addr) (ccd : Value) (cl : List (Str × Addr)) (outer : List Env) (A₀ : Around) (base h₀ : Heap) (L : Addr) (m : Str → Option Value) (s : Shared) (Q E : Value → Shared → Prop),
    Below A₀ base outer h₀ → Fr h₀ L s.heap m → (Mine.hd.heap_39 w.params).In h₀ → News h₀ L s.heap news → Top Mine.hd.view_39 (looseW Mine.hd.view_39 []) mean mg mb h₀ → cs.kind = .function →
    dp + k < recursionLimit → un + 8 * k < cLine →
    (∀ (v : Value) (h' : Heap) (tk' : Nat), R v → Fr h₀ L h' m → News h₀ L h' news → Q v { s with heap := h', toks := tk' }) →
      wpAny (model PySem.Challenge.rw_ab6016_01.row.prog w) (ktrTop dp un gd cn cs L a ccd cl outer) (call (.ref f) vs) Q E s

theorem Con.use {w : World} {mean : ExcName → Option Value} {mg mb : Str → Option Value} {f : Addr} {k : Nat} {vs : List Value} {R : Value → Prop} (C : Con w mean mg mb f k vs R)
    {news : List (Addr × Obj)} {dp un : Nat} {gd : Option (List Code)} {cn : Str} {cs : Scope} {a : Addr} {ccd : Value} {cl : List (Str × Addr)} {outer : List Env} {A₀ : Around} {base h₀ : Heap} {L : Addr} {m : Str → Option Value} {s : Shared} {Q E : Value → Shared → Prop}
    (B : Below A₀ base outer h₀) (F : Fr h₀ L s.heap m) (X : (Mine.hd.heap_39 w.params).In h₀) (N : News h₀ L s.heap news) (T : Top Mine.hd.view_39 (looseW Mine.hd.view_39 []) mean mg mb h₀) (hk : cs.kind = .function)
    (hd : dp + k < recursionLimit) (hu : un + 8 * k < cLine)
    (h : ∀ (v : Value) (h' : Heap) (tk' : Nat), R v → Fr h₀ L h' m → News h₀ L h' news → Q v { s with heap := h', toks := tk' }) :
    wpAny (model PySem.Challenge.rw_ab6016_01.row.prog w) (ktrTop dp un gd cn cs L a ccd cl outer) (call (.ref f) vs) Q E s :=
  C _ _ _ _ _ _ _ _ _ _ _ _ _ _ _ _ _ _ B F X N T hk hd hu h

section
variable {prog : Program} {w : World} {A : Around} {E : Value → Shared → Prop} {s : Shared} {Q : Value → Shared → Prop}
theorem kind_isn : builtinKind "issubclass.nested" = none := by decide +kernel
theorem plain_isn : plainId "issubclass.nested" = true := by decide +kernel
theorem args_isn (a b c : Value) : argsOk "issubclass.nested" ⟨[a, b, c], []⟩ := by unfold argsOk; kernel_rfl
theorem type_bytes : typeOf (.type "bytes") = pure (.type "type") := by kernel_rfl
theorem type_str : typeOf (.type "str") = pure (.type "type") := by kernel_rfl

theorem isn_types {X T : String} {v : Bool} {dep : Int} {tk : Tok} (ht : typeOf (.type T) = pure (.type "type")) (hs : isSubtype (.type X) (.type T) = pure v) :
    Meets (Builtin.«issubclass.nested» ⟨[.type X, .type T, .int dep tk], []⟩) (fun _ R s => R (.ok (.ret (.bool v))) s) := by
  refine .of_wp fun prog w A R s h => ?_
  show wpAny _ _ (typeOf (.type T) >>= fun r => _) _ _ s
  refine wpAny_bind (wpAny_of_eq ht ?_)
  refine wpAny_ite ?_
  rw [if_pos (by decide)]
  refine wpAny_bind ?_
  refine wpAny_of_eq (a := v) ?_ (wpAny_pure ⟨_, rfl, h⟩)
  rw [← hs]
  rfl

theorem isn_tuple {x : Value} {v1 v2 : Bool} {a b : Value} {tp : Addr} {tk : Tok}
    (h1 : ∀ dep tk, Meets (Builtin.«issubclass.nested» ⟨[x, a, .int dep tk], []⟩) (fun _ R s => R (.ok (.ret (.bool v1))) s))
    (h2 : ∀ dep tk, Meets (Builtin.«issubclass.nested» ⟨[x, b, .int dep tk], []⟩) (fun _ R s => R (.ok (.ret (.bool v2))) s))
    {Q : Fin → Shared → Prop} {cs : List Value} (hcs : cs = [a, b])
    (htp : s.heap.get? tp = some { cls := .type "tuple", data := .seq cs.toArray })
    (hq : Q (.done (.ret (.bool (v1 || v2)))) s) : wpAny (model prog w) A (Builtin.«issubclass.nested» ⟨[x, .ref tp, .int 0 tk], []⟩) Q E s := by
  obtain ⟨h, g, d, t, os⟩ := s
  have hT2 : (⟨h, g, d, t, os⟩ : Shared).TypeIs (.ref tp) "tuple" := ⟨_, htp, rfl⟩
  have f1 := F.isi_sub_tuple
  repeat (any_goals (first | assumption | wp_step))
  refine wpAny_arrayLoop ?_
  simp only [Option.getD_some, List.toList_toArray]
  subst hcs
  rw [List.forIn_cons]
  refine wpAny_bind (wpAny_bind (call_function_meets kind_isn plain_isn F.entry_issubclass_nested (args_isn _ _ _) (h1 _ _) ?_))
  show wpAny _ _ (truthy (.bool v1) >>= _) _ _ _
  refine wpAny_bind (m := truthy (.bool v1)) (wpAny_pure ?_)
  cases v1 with
  | true => 
    exact wpAny_bind (wpAny_pure (wpAny_pure (wpAny_pure (wpAny_pure hq))))
  | false =>
    refine wpAny_pure ?_
    dsimp only
    rw [List.forIn_cons]
    refine wpAny_bind (wpAny_bind (call_function_meets kind_isn plain_isn F.entry_issubclass_nested (args_isn _ _ _) (h2 _ _) ?_))
    show wpAny _ _ (truthy (.bool v2) >>= _) _ _ _
    refine wpAny_bind (m := truthy (.bool v2)) (wpAny_pure ?_)
    cases v2 with
    | true => exact wpAny_bind (wpAny_pure (wpAny_pure (wpAny_pure (wpAny_pure hq))))
    | false => exact wpAny_pure (wpAny_pure (wpAny_pure hq))

theorem isub_pair {x a b : Value} {v1 v2 : Bool} {tp : Addr} {h₀ : Heap} {L : Addr} {news : List (Addr × Obj)}
    (h1 : ∀ dep tk, Meets (Builtin.«issubclass.nested» ⟨[x, a, .int dep tk], []⟩) (fun _ R s => R (.ok (.ret (.bool v1))) s))
    (h2 : ∀ dep tk, Meets (Builtin.«issubclass.nested» ⟨[x, b, .int dep tk], []⟩) (fun _ R s => R (.ok (.ret (.bool v2))) s))
    (N : News h₀ L s.heap news) (hm : (tp, ({ cls := .type "tuple", data := .seq #[a, b] } : Obj)) ∈ news) (h : Q (.bool (v1 || v2)) s) :
    wpAny (model prog w) A (call (.builtin "issubclass") [x, .ref tp]) Q E s :=
  call_issubclass (S := fun _ R s => s.heap.get? tp = some { cls := .type "tuple", data := .seq #[a, b] } ∧ R (.ok (.ret (.bool (v1 || v2)))) s)
    (fun _ _ _ _ _ hs => issubclass_outer (isn_tuple h1 h2 (cs := [a, b]) rfl hs.1 hs.2)) ⟨(N _ hm).1, h⟩
theorem isub_str {tp : Addr} {h₀ : Heap} {L : Addr} {news : List (Addr × Obj)}
    (N : News h₀ L s.heap news) (hm : (tp, ({ cls := .type "tuple", data := .seq #[.type "str", .type "bytes"] } : Obj)) ∈ news) (h : Q (.bool true) s) :
    wpAny (model prog w) A (call (.builtin "issubclass") [.type "str", .ref tp]) Q E s :=
  isub_pair (v1 := true) (v2 := false) (fun _ _ => isn_types type_str F.sub_str_str) (fun _ _ => isn_types type_bytes F.sub_str_bytes) N hm h
theorem isub_bytes {tp : Addr} {h₀ : Heap} {L : Addr} {news : List (Addr × Obj)}
    (N : News h₀ L s.heap news) (hm : (tp, ({ cls := .type "tuple", data := .seq #[.type "str", .type "bytes"] } : Obj)) ∈ news) (h : Q (.bool true) s) :
    wpAny (model prog w) A (call (.builtin "issubclass") [.type "bytes", .ref tp]) Q E s :=
  isub_pair (v1 := false) (v2 := true) (fun _ _ => isn_types type_str F.sub_bytes_str) (fun _ _ => isn_types type_bytes F.sub_bytes_bytes) N hm h
theorem type_of_bytes {b : Array UInt8} {t : Tok} (h : Q (.type "bytes") s) : wpAny (model prog w) A (call (.type "type") [.bytes b t]) Q E s :=
  call_type_of (Tx := "bytes") rfl (by decide +kernel) h
end
end Mine
end

noncomputable section
open PySem PySem.W PyProof.Rows PySem.Calls
set_option maxHeartbeats 8000000
namespace Mine
local macro_rules | `(tactic| walk_at "call builtin:issubclass") => `(tactic| (k_here; k_dflt (first | (refine' isub_str ?k1 ?k2 ?_; (case k1 => k_asm); (case k2 => k_mem); k_whole) | (refine' isub_bytes ?k1 ?k2 ?_; (case k1 => k_asm); (case k2 => k_mem); k_whole))))
local macro_rules | `(tactic| walk_at "call type:type cons nil") => `(tactic| ((with_reducible show wpAny _ _ (call _ [Value.bytes _ _]) _ _ _); refine type_of_bytes ?_))
theorem fspath_str (w : World) (mean : ExcName → Option Value) (mg mb : Str → Option Value) (x : Str) (t : Tok) :
    Con w mean mg mb 94 1 [.str x t] (fun v => v = .str x t) := by
  w_on
  unfold Con
  k_fill
  intro news dp un gd cn cs a ccd cl outer A₀ base h₀ L m s Q E B F X N T hk hd hu hret
  refine wpAny_call ?_
  k_dflt cell_enter
  k_steps
  all_goals exact hret _ _ _ rfl (by k_asm) (cb_drop (by assumption) (by kcj_all))
theorem fspath_bytes (w : World) (mean : ExcName → Option Value) (mg mb : Str → Option Value) (x : Array UInt8) (t : Tok) :
    Con w mean mg mb 94 1 [.bytes x t] (fun v => v = .bytes x t) := by
  w_on
  unfold Con
  k_fill
  intro news dp un gd cn cs a ccd cl outer A₀ base h₀ L m s Q E B F X N T hk hd hu hret
  refine wpAny_call ?_
  k_dflt cell_enter
  k_steps
  all_goals exact hret _ _ _ rfl (by k_asm) (cb_drop (by assumption) (by kcj_all))
theorem sep_str (w : World) (mean : ExcName → Option Value) (mg mb : Str → Option Value) (x : Str) (t : Tok) :
    Con w mean mg mb 108 1 [.str x t] (fun v => ∃ t, v = .str (Str.ofString "/") t) := by
  w_on
  unfold Con
  k_fill
  intro news dp un gd cn cs a ccd cl outer A₀ base h₀ L m s Q E B F X N T hk hd hu hret
  refine wpAny_call ?_
  k_dflt cell_enter
  k_steps
  all_goals exact hret _ _ _ ⟨_, rfl⟩ (by k_asm) (by k_asm)
theorem sep_bytes (w : World) (mean : ExcName → Option Value) (mg mb : Str → Option Value) (x : Array UInt8) (t : Tok) :
    Con w mean mg mb 108 1 [.bytes x t] (fun v => ∃ t, v = .bytes #[47] t) := by
  w_on
  unfold Con
  k_fill
  intro news dp un gd cn cs a ccd cl outer A₀ base h₀ L m s Q E B F X N T hk hd hu hret
  refine wpAny_call ?_
  k_dflt cell_enter
  k_steps
  all_goals exact hret _ _ _ ⟨_, rfl⟩ (by k_asm) (by k_asm)
end Mine
end

noncomputable section
set_option maxHeartbeats 1000000
namespace Mine
/-! The plain law: texts as lists of their signs' numbers ('/' is 47, '.' is 46). -/
def upTo (l : List Nat) : List Nat := (l.reverse.dropWhile (· != 47)).reverse
noncomputable def splitL : List Nat → List (List Nat)
  | [] => [[]]
  | c :: r => if c = 47 then [] :: splitL r else (c :: (splitL r).headD []) :: (splitL r).tail
noncomputable def joinL : List (List Nat) → List Nat
  | [] => []
  | [x] => x
  | x :: y :: r => x ++ 47 :: joinL (y :: r)
def dropSeg (l : List Nat) : List Nat := (upTo l).dropLast
def rdsStep (s o : List Nat) : List Nat × List Nat :=
  if s.take 3 = [46, 46, 47] then (s.drop 3, o)
  else if s.take 2 = [46, 47] then (s.drop 2, o)
  else if s.take 3 = [47, 46, 47] then (s.drop 2, o)
  else if s = [47, 46] then ([47], o)
  else if s.take 4 = [47, 46, 46, 47] then (s.drop 3, dropSeg o)
  else if s = [47, 46, 46] then ([47], dropSeg o)
  else if s = [46] ∨ s = [46, 46] then ([], o)
  else (s.tail.dropWhile (· != 47), o ++ (s.take 1 ++ s.tail.takeWhile (· != 47)))
theorem rdsStep_lt (s o : List Nat) (h : s ≠ []) : (rdsStep s o).1.length < s.length := by
  have hd : ∀ k, 1 ≤ k → (s.drop k).length < s.length := by
    intro k hk
    have : 0 < s.length := List.length_pos_iff.mpr h
    rw [List.length_drop]; omega
  unfold rdsStep
  split
  · exact hd 3 (by decide)
  split
  · exact hd 2 (by decide)
  split
  · exact hd 2 (by decide)
  split
  · rename_i e; rw [e]; exact Nat.le_of_ble_eq_true rfl
  split
  · exact hd 3 (by decide)
  split
  · rename_i e; rw [e]; exact Nat.le_of_ble_eq_true rfl
  split
  · rename_i e; rcases e with e | e <;> rw [e] <;> exact Nat.le_of_ble_eq_true rfl
  · cases s with
    | nil => exact absurd rfl h
    | cons c r =>
      show (r.dropWhile _).length < r.length + 1
      have := (List.dropWhile_sublist (l := r) (· != 47)).length_le
      omega
noncomputable def rdsW (s o : List Nat) : List Nat := if h : s = [] then o else rdsW (rdsStep s o).1 (rdsStep s o).2
termination_by s.length
decreasing_by exact rdsStep_lt s o h
theorem rdsW_nil (o : List Nat) : rdsW [] o = o := by rw [rdsW]; simp
theorem rdsW_step {s o : List Nat} (h : s ≠ []) : rdsW s o = rdsW (rdsStep s o).1 (rdsStep s o).2 := by
  conv => lhs; rw [rdsW]
  simp [h]

def npStep (ini : List Nat) (acc : List (List Nat)) (comp : List Nat) : List (List Nat) :=
  if comp = [] ∨ comp = [46] then acc
  else if comp ≠ [46, 46] ∨ (ini = [] ∧ acc = []) ∨ (acc ≠ [] ∧ acc.getLast? = some [46, 46]) then acc ++ [comp]
  else acc.dropLast
def rootL (p : List Nat) : List Nat × List Nat :=
  if p.take 1 ≠ [47] then ([], p)
  else if (p.drop 1).take 1 ≠ [47] ∨ (p.drop 2).take 1 = [47] then ([47], p.drop 1)
  else (p.take 2, p.drop 2)
def orDot (p : List Nat) : List Nat := if p = [] then [46] else p
def npF (p : List Nat) : List Nat :=
  if p = [] then [46] else orDot ((rootL p).1 ++ joinL ((splitL (rootL p).2).foldl (npStep (rootL p).1) []))
def rstripL (l : List Nat) : List Nat := (l.reverse.dropWhile (· == 47)).reverse
def dirL (p : List Nat) : List Nat := if upTo p ≠ [] ∧ upTo p ≠ List.replicate (upTo p).length 47 then rstripL (upTo p) else upTo p
def joinF (a b : List Nat) : List Nat :=
  if b.head? = some 47 ∨ a = [] then b else if a.getLast? = some 47 then a ++ b else a ++ 47 :: b
def mergeF (base ref : List Nat) : List Nat := if ref.head? = some 47 then ref else upTo base ++ ref
def lastSeg (ref : List Nat) : List Nat := (splitL ref).getLast?.getD []
abbrev special (l : List Nat) : Prop := l = [] ∨ l = [46] ∨ l = [46, 46]
def closeF (t ref : List Nat) : List Nat := if special (lastSeg ref) ∧ t ≠ [47] then t ++ [47] else t
def toldF (base ref : List Nat) : List Nat := closeF (npF (if ref.head? = some 47 then ref else joinF (dirL base) ref)) ref

/-! splitL, joinL -/
theorem splitL_ne (l : List Nat) : splitL l ≠ [] := by
  cases l with
  | nil => simp [splitL]
  | cons c r => unfold splitL; split <;> simp
theorem splitL_free {s : List Nat} (h : 47 ∉ s) : splitL s = [s] := by
  induction s with
  | nil => rfl
  | cons c r ih =>
    have hc : c ≠ 47 := fun e => h (e ▸ .head _)
    have hr : 47 ∉ r := fun e => h (.tail _ e)
    unfold splitL
    rw [if_neg hc, ih hr]; rfl
theorem splitL_app {s r : List Nat} (h : 47 ∉ s) : splitL (s ++ 47 :: r) = s :: splitL r := by
  induction s with
  | nil => show splitL (47 :: r) = _; conv => lhs; unfold splitL
           simp
  | cons c t ih =>
    have hc : c ≠ 47 := fun e => h (e ▸ .head _)
    have hr : 47 ∉ t := fun e => h (.tail _ e)
    show splitL (c :: (t ++ 47 :: r)) = _
    conv => lhs; unfold splitL
    rw [if_neg hc, ih hr]; rfl
theorem splitL_joinL : ∀ {ps : List (List Nat)}, ps ≠ [] → (∀ p ∈ ps, 47 ∉ p) → splitL (joinL ps) = ps
  | [], h, _ => absurd rfl h
  | [x], _, h => splitL_free (h x (.head _))
  | x :: y :: r, _, h => by
    show splitL (x ++ 47 :: joinL (y :: r)) = _
    rw [splitL_app (h x (.head _)), splitL_joinL (by simp) (fun p hp => h p (.tail _ hp))]
theorem joinL_splitL : ∀ l : List Nat, joinL (splitL l) = l
  | [] => rfl
  | c :: r => by
    have ih := joinL_splitL r
    unfold splitL
    split
    · rename_i e
      subst e
      cases hs : splitL r with
      | nil => exact absurd hs (splitL_ne r)
      | cons x t => show 47 :: joinL (x :: t) = _; rw [← hs, ih]
    · cases hs : splitL r with
      | nil => exact absurd hs (splitL_ne r)
      | cons x t =>
        rw [hs] at ih
        cases t with
        | nil => show c :: x = c :: r; exact congrArg _ ih
        | cons y u => show c :: x ++ 47 :: joinL (y :: u) = c :: r; rw [← ih]; rfl
theorem splitL_mem_free : ∀ l : List Nat, ∀ p ∈ splitL l, 47 ∉ p
  | [], p, hp => by simp [splitL] at hp; subst hp; simp
  | c :: r, p, hp => by
    have ih := splitL_mem_free r
    unfold splitL at hp
    cases hs : splitL r with
    | nil => exact absurd hs (splitL_ne r)
    | cons x t =>
      rw [hs] at hp ih
      split at hp
      · rcases List.mem_cons.mp hp with rfl | hp
        · simp
        · exact ih p hp
      · rename_i hc
        rcases List.mem_cons.mp hp with rfl | hp
        · intro h
          rcases List.mem_cons.mp h with e | h
          · exact hc e.symm
          · exact ih x (.head _) h
        · exact ih p (.tail _ hp)
theorem splitL_unique {l : List Nat} {ps : List (List Nat)} (h0 : ps ≠ []) (hf : ∀ p ∈ ps, 47 ∉ p) (hj : joinL ps = l) : ps = splitL l := by
  rw [← hj, splitL_joinL h0 hf]
theorem joinL_append {a b : List (List Nat)} (ha : a ≠ []) (hb : b ≠ []) : joinL (a ++ b) = joinL a ++ 47 :: joinL b := by
  induction a with
  | nil => exact absurd rfl ha
  | cons x t ih =>
    cases t with
    | nil =>
      cases b with
      | nil => exact absurd rfl hb
      | cons y u => rfl
    | cons y u =>
      show x ++ 47 :: joinL (y :: u ++ b) = (x ++ 47 :: joinL (y :: u)) ++ _
      rw [ih (by simp)]; simp

/-! remove_dot_segments, by the segments -/
noncomputable def fin : List Nat → List (List Nat) → List Nat
  | o, [] => o
  | o, [s] => if s = [] ∨ s = [46] then o ++ [47] else if s = [46, 46] then dropSeg o ++ [47] else o ++ 47 :: s
  | o, s :: t :: r => if s = [46] then fin o (t :: r) else if s = [46, 46] then fin (dropSeg o) (t :: r) else fin (o ++ 47 :: s) (t :: r)
/-- segments: none is empty but perhaps the last; no slash within -/
noncomputable def Segs : List (List Nat) → Prop
  | [] => False
  | [s] => 47 ∉ s
  | s :: t :: r => s ≠ [] ∧ 47 ∉ s ∧ Segs (t :: r)
theorem Segs.ne {ps : List (List Nat)} (h : Segs ps) : ps ≠ [] := by cases ps with | nil => exact h.elim | cons => simp
theorem Segs.free : ∀ {ps : List (List Nat)}, Segs ps → ∀ p ∈ ps, 47 ∉ p
  | [_], h, p, hp => by rw [List.mem_singleton.mp hp]; exact h
  | s :: t :: r, h, p, hp => by
    rcases List.mem_cons.mp hp with rfl | hp
    · exact h.2.1
    · exact Segs.free h.2.2 p hp
theorem Segs.append : ∀ {a b : List (List Nat)}, (∀ p ∈ a, p ≠ [] ∧ 47 ∉ p) → Segs b → Segs (a ++ b)
  | [], _, _, hb => hb
  | [x], b, ha, hb => by
    cases b with
    | nil => exact hb.elim
    | cons y u => exact ⟨(ha x (.head _)).1, (ha x (.head _)).2, hb⟩
  | x :: y :: r, b, ha, hb => ⟨(ha x (.head _)).1, (ha x (.head _)).2, Segs.append (a := y :: r) (fun p hp => ha p (.tail _ hp)) hb⟩
theorem tw_app {s r : List Nat} (h : 47 ∉ s) : (s ++ 47 :: r).takeWhile (· != 47) = s ∧ (s ++ 47 :: r).dropWhile (· != 47) = 47 :: r := by
  induction s with
  | nil => simp
  | cons c t ih =>
    have hc : c ≠ 47 := fun e => h (e ▸ .head _)
    have := ih fun e => h (.tail _ e)
    simp [hc, this]
theorem tw_all {s : List Nat} (h : 47 ∉ s) : s.takeWhile (· != 47) = s ∧ s.dropWhile (· != 47) = [] := by
  induction s with
  | nil => simp
  | cons c t ih =>
    have hc : c ≠ 47 := fun e => h (e ▸ .head _)
    have := ih fun e => h (.tail _ e)
    simp [hc, this]
theorem step_dot (r o : List Nat) : rdsStep (47 :: 46 :: 47 :: r) o = (47 :: r, o) := by simp [rdsStep]
theorem step_dots (r o : List Nat) : rdsStep (47 :: 46 :: 46 :: 47 :: r) o = (47 :: r, dropSeg o) := by simp [rdsStep]
theorem step_seg {s r o : List Nat} (hf : 47 ∉ s) (h0 : s ≠ []) (h1 : s ≠ [46]) (h2 : s ≠ [46, 46]) : rdsStep (47 :: (s ++ 47 :: r)) o = (47 :: r, o ++ 47 :: s) := by
  have ht := tw_app (r := r) hf
  unfold rdsStep
  rw [if_neg (by simp), if_neg (by simp), if_neg, if_neg, if_neg, if_neg, if_neg (by simp)]
  · simp only [List.tail_cons, ht, List.take_succ_cons, List.take_zero, List.cons_append, List.nil_append]
  · cases s with
    | nil => exact absurd rfl h0
    | cons a t => cases t with
      | nil => intro e; simp at e
      | cons b u => intro e; simp at e
  · cases s with
    | nil => exact absurd rfl h0
    | cons a t => cases t with
      | nil => intro e; simp at e
      | cons b u => cases u with
        | nil => intro e; simp at e; exact h2 (by rw [e.1, e.2])
        | cons c v => intro e; simp at e; exact hf (by simp [e.2.2])
  · cases s with
    | nil => exact absurd rfl h0
    | cons a t => intro e; simp at e
  · cases s with
    | nil => exact absurd rfl h0
    | cons a t => cases t with
      | nil => intro e; simp at e; exact h1 (by rw [e])
      | cons b u => intro e; simp at e; exact hf (by simp [e.2])
theorem step_last {s o : List Nat} (hf : 47 ∉ s) (h1 : s ≠ [46]) (h2 : s ≠ [46, 46]) : rdsStep (47 :: s) o = ([], o ++ 47 :: s) := by
  have ht := tw_all hf
  unfold rdsStep
  rw [if_neg (by simp), if_neg (by simp), if_neg, if_neg, if_neg, if_neg, if_neg (by simp)]
  · simp only [List.tail_cons, ht, List.take_succ_cons, List.take_zero, List.cons_append, List.nil_append]
  · intro e; simp at e; exact h2 e
  · cases s with
    | nil => simp
    | cons a t => cases t with
      | nil => simp
      | cons b u => cases u with
        | nil => simp
        | cons c v => intro e; simp at e; exact hf (by simp [e.2.2])
  · intro e; simp at e; exact h1 e
  · cases s with
    | nil => simp
    | cons a t => cases t with
      | nil => simp
      | cons b u => intro e; simp at e; exact hf (by simp [e.2])
theorem rds_slash (o : List Nat) : rdsW [47] o = o ++ [47] := by
  rw [rdsW_step (by simp), step_last (by simp) (by simp) (by simp), rdsW_nil]
theorem rds_fin : ∀ (ps : List (List Nat)) (o : List Nat), Segs ps → rdsW (47 :: joinL ps) o = fin o ps
  | [s], o, h => by
    show rdsW (47 :: s) o = _
    unfold fin
    by_cases h0 : s = []
    · rw [if_pos (.inl h0), h0, rds_slash]
    by_cases h1 : s = [46]
    · rw [if_pos (.inr h1), h1, rdsW_step (by simp)]
      have e : rdsStep [47, 46] o = ([47], o) := by simp [rdsStep]
      rw [e, rds_slash]
    rw [if_neg (by simp [h0, h1])]
    by_cases h2 : s = [46, 46]
    · rw [if_pos h2, h2, rdsW_step (by simp)]
      have e : rdsStep [47, 46, 46] o = ([47], dropSeg o) := by simp [rdsStep]
      rw [e, rds_slash]
    rw [if_neg h2, rdsW_step (by simp), step_last h h1 h2, rdsW_nil]
  | s :: t :: r, o, h => by
    obtain ⟨h0, hf, hr⟩ := h
    show rdsW (47 :: (s ++ 47 :: joinL (t :: r))) o = _
    unfold fin
    by_cases h1 : s = [46]
    · rw [if_pos h1, h1, rdsW_step (by simp)]
      show rdsW (rdsStep (47 :: 46 :: 47 :: joinL (t :: r)) o).1 _ = _
      show rdsW (rdsStep (47 :: 46 :: 47 :: joinL (t :: r)) o).1 (rdsStep (47 :: 46 :: 47 :: joinL (t :: r)) o).2 = _
      rw [step_dot]
      exact rds_fin (t :: r) o hr
    rw [if_neg h1]
    by_cases h2 : s = [46, 46]
    · rw [if_pos h2, h2, rdsW_step (by simp)]
      show rdsW (rdsStep (47 :: 46 :: 46 :: 47 :: joinL (t :: r)) o).1 (rdsStep (47 :: 46 :: 46 :: 47 :: joinL (t :: r)) o).2 = _
      rw [step_dots]
      exact rds_fin (t :: r) (dropSeg o) hr
    rw [if_neg h2, rdsW_step (by simp), step_seg hf h0 h1 h2]
    exact rds_fin (t :: r) _ hr

theorem mem_dropLast {α : Type} {p : α} {l : List α} (h : p ∈ l.dropLast) : p ∈ l := List.dropLast_subset l h
/-! normpath's stack -/
def txt (acc : List (List Nat)) : List Nat := acc.flatMap (47 :: ·)
theorem txt_snoc (acc : List (List Nat)) (s : List Nat) : txt (acc ++ [s]) = txt acc ++ 47 :: s := by simp [txt]
theorem upTo_app {a s : List Nat} (h : 47 ∉ s) : upTo (a ++ 47 :: s) = a ++ [47] := by
  unfold upTo
  have h' : 47 ∉ s.reverse := by simpa using h
  have e : (a ++ 47 :: s).reverse = s.reverse ++ 47 :: a.reverse := by simp
  rw [e, (tw_app h').2]; simp
theorem upTo_free {s : List Nat} (h : 47 ∉ s) : upTo s = [] := by
  unfold upTo
  rw [(tw_all (by simpa using h)).2]; rfl
theorem dropSeg_txt {acc : List (List Nat)} (h : ∀ p ∈ acc, 47 ∉ p) : dropSeg (txt acc) = txt acc.dropLast := by
  rcases List.eq_nil_or_concat acc with e | ⟨i, s, e⟩
  · subst e; rfl
  · rw [List.concat_eq_append] at e
    subst e
    unfold dropSeg
    rw [txt_snoc, upTo_app (h s (by simp))]; simp
theorem np_good {ini : List Nat} {acc : List (List Nat)} {s : List Nat} (hi : ini ≠ []) (ha : ∀ p ∈ acc, p ≠ [46, 46] ∧ p ≠ [] ∧ 47 ∉ p) (hs : 47 ∉ s) :
    (∀ p ∈ npStep ini acc s, p ≠ [46, 46] ∧ p ≠ [] ∧ 47 ∉ p) ∧
    npStep ini acc s = if s = [] ∨ s = [46] then acc else if s = [46, 46] then acc.dropLast else acc ++ [s] := by
  have hl : acc.getLast? ≠ some [46, 46] := fun e => (ha _ (List.mem_of_getLast? e)).1 rfl
  have e : npStep ini acc s = if s = [] ∨ s = [46] then acc else if s = [46, 46] then acc.dropLast else acc ++ [s] := by
    unfold npStep
    by_cases h : s = [] ∨ s = [46]
    · rw [if_pos h, if_pos h]
    · rw [if_neg h, if_neg h]
      by_cases h2 : s = [46, 46]
      · rw [if_pos h2, if_neg (by simp [h2, hi, hl])]
      · rw [if_neg h2, if_pos (.inl h2)]
  refine ⟨?_, e⟩
  rw [e]
  split
  · exact ha
  · rename_i h
    split
    · exact fun p hp => ha p (mem_dropLast hp)
    · rename_i h2
      intro p hp
      rcases List.mem_append.mp hp with hp | hp
      · exact ha p hp
      · rw [List.mem_singleton.mp hp]
        exact ⟨h2, fun e => h (.inl e), hs⟩
theorem fin_stack {ini : List Nat} (hi : ini ≠ []) : ∀ (ps acc : List (List Nat)), Segs ps → (∀ p ∈ acc, p ≠ [46, 46] ∧ p ≠ [] ∧ 47 ∉ p) →
    fin (txt acc) ps = txt (ps.foldl (npStep ini) acc) ++ (if special (ps.getLast?.getD []) then [47] else []) ∧
    (∀ p ∈ ps.foldl (npStep ini) acc, p ≠ [46, 46] ∧ p ≠ [] ∧ 47 ∉ p) ∧ (¬ special (ps.getLast?.getD []) → ps.foldl (npStep ini) acc ≠ [])
  | [s], acc, h, ha => by
    obtain ⟨g1, g2⟩ := np_good hi ha h
    refine ⟨?_, g1, ?_⟩
    · show _ = txt (npStep ini acc s) ++ if special s then [47] else []
      rw [g2]
      unfold fin special
      by_cases h0 : s = [] ∨ s = [46]
      · rw [if_pos h0, if_pos h0, if_pos (by rcases h0 with e | e <;> simp [e])]
      · rw [if_neg h0, if_neg h0]
        by_cases h2 : s = [46, 46]
        · rw [if_pos h2, if_pos h2, if_pos (.inr (.inr h2)), dropSeg_txt fun p hp => (ha p hp).2.2]
        · rw [if_neg h2, if_neg h2, if_neg (by simp only [not_or] at h0 ⊢; exact ⟨h0.1, h0.2, h2⟩), txt_snoc]; simp
    · intro hn
      have hn' : ¬ special s := hn
      unfold special at hn'
      simp only [not_or] at hn'
      show npStep ini acc s ≠ []
      rw [g2, if_neg (by simp [hn'.1, hn'.2.1]), if_neg hn'.2.2]; simp
  | s :: t :: r, acc, h, ha => by
    obtain ⟨h0, hf, hr⟩ := h
    obtain ⟨g1, g2⟩ := np_good hi ha hf
    have ih := fin_stack hi (t :: r) (npStep ini acc s) hr g1
    have el : (s :: t :: r).getLast?.getD [] = (t :: r).getLast?.getD [] := by simp
    rw [el, List.foldl_cons]
    refine ⟨?_, ih.2⟩
    rw [← ih.1, g2]
    have ef : fin (txt acc) (s :: t :: r) = if s = [46] then fin (txt acc) (t :: r) else if s = [46, 46] then fin (dropSeg (txt acc)) (t :: r) else fin (txt acc ++ 47 :: s) (t :: r) := by
      conv => lhs; unfold fin
    rw [ef]
    by_cases h1 : s = [46]
    · rw [if_pos h1, if_pos (.inr h1)]
    · have h3 : ¬ (s = [] ∨ s = [46]) := by simp [h0, h1]
      rw [if_neg h1, if_neg h3]
      by_cases h2 : s = [46, 46]
      · rw [if_pos h2, if_pos h2, dropSeg_txt fun p hp => (ha p hp).2.2]
      · rw [if_neg h2, if_neg h2, txt_snoc]
theorem txt_join : ∀ {acc : List (List Nat)}, acc ≠ [] → txt acc = 47 :: joinL acc
  | [], h => absurd rfl h
  | [x], _ => by simp [txt, joinL]
  | x :: y :: r, _ => by
    have ih := txt_join (acc := y :: r) (by simp)
    show 47 :: x ++ txt (y :: r) = _
    rw [ih]; rfl
theorem joinL_ne : ∀ {acc : List (List Nat)}, acc ≠ [] → (∀ p ∈ acc, p ≠ []) → joinL acc ≠ []
  | [], h, _ => absurd rfl h
  | [x], _, h => h x (.head _)
  | x :: y :: r, _, h => by
    show x ++ 47 :: joinL (y :: r) ≠ []
    simp
theorem root_segs {ps : List (List Nat)} (h : Segs ps) : rootL (47 :: joinL ps) = ([47], joinL ps) := by
  have hd : (joinL ps).take 1 ≠ [47] := by
    match ps, h with
    | [s], h =>
      show s.take 1 ≠ _
      cases s with
      | nil => simp
      | cons c t => intro e; simp at e; exact h (by simp [e])
    | s :: t :: r, ⟨h0, hf, _⟩ =>
      show (s ++ _).take 1 ≠ _
      cases s with
      | nil => exact absurd rfl h0
      | cons c u => intro e; simp at e; exact hf (by simp [e])
  unfold rootL
  rw [if_neg (by simp), if_pos (.inl (by simpa using hd))]; rfl
/-- for a text behind one slash: normpath, and a slash more, is remove_dot_segments -/
theorem np_rds {ps : List (List Nat)} (h : Segs ps) {ref : List Nat} (hl : lastSeg ref = ps.getLast?.getD []) :
    closeF (npF (47 :: joinL ps)) ref = rdsW (47 :: joinL ps) [] := by
  obtain ⟨e, hg, hne⟩ := fin_stack (ini := [47]) (by simp) ps [] h (fun _ hp => nomatch hp)
  rw [rds_fin ps [] h]
  have e' : fin [] ps = _ := e
  rw [e']
  have en : npF (47 :: joinL ps) = orDot ([47] ++ joinL (ps.foldl (npStep [47]) [])) := by
    unfold npF
    rw [if_neg (by simp), root_segs h]
    dsimp only
    rw [splitL_joinL h.ne h.free]
  rw [en]
  unfold closeF
  rw [hl]
  generalize ps.foldl (npStep [47]) [] = st at hg hne ⊢
  have eo : orDot ([47] ++ joinL st) = 47 :: joinL st := by unfold orDot; simp
  rw [eo]
  by_cases hs : st = []
  · subst hs
    have hsp : special (ps.getLast?.getD []) := by
      by_cases x : special (ps.getLast?.getD [])
      · exact x
      · exact absurd rfl (hne x)
    rw [if_pos hsp]
    simp [joinL, txt]
  · rw [txt_join hs]
    have hj := joinL_ne hs fun p hp => (hg p hp).2.1
    by_cases hsp : special (ps.getLast?.getD [])
    · rw [if_pos hsp, if_pos ⟨hsp, by simpa using hj⟩]
    · rw [if_neg hsp, if_neg (fun x => hsp x.1)]; simp

/-! merge and join -/
theorem upTo_base : ∀ {ps : List (List Nat)}, (∀ p ∈ ps, p ≠ [] ∧ 47 ∉ p) → upTo (47 :: joinL ps) = if ps.dropLast = [] then [47] else 47 :: (joinL ps.dropLast ++ [47]) := by
  intro ps hp
  rcases List.eq_nil_or_concat ps with e | ⟨i, s, e⟩
  · subst e; rfl
  · rw [List.concat_eq_append] at e
    subst e
    have hs : 47 ∉ s := (hp s (by simp)).2
    rw [List.dropLast_concat]
    by_cases hi : i = []
    · subst hi
      rw [if_pos rfl]
      exact upTo_app (a := []) hs
    · rw [if_neg hi, joinL_append hi (by simp)]
      exact upTo_app (a := 47 :: joinL i) hs
theorem joinL_last {i : List (List Nat)} (hi : i ≠ []) (hp : ∀ p ∈ i, p ≠ [] ∧ 47 ∉ p) : ∃ a c, joinL i = a ++ [c] ∧ c ≠ 47 := by
  rcases List.eq_nil_or_concat i with e | ⟨j, s, e⟩
  · exact absurd e hi
  · rw [List.concat_eq_append] at e
    subst e
    obtain ⟨h0, hf⟩ := hp s (by simp)
    rcases List.eq_nil_or_concat s with e | ⟨u, c, e⟩
    · exact absurd e h0
    · rw [List.concat_eq_append] at e
      subst e
      have hc : c ≠ 47 := fun e => hf (by simp [e])
      by_cases hj : j = []
      · subst hj; exact ⟨u, c, rfl, hc⟩
      · refine ⟨joinL j ++ 47 :: u, c, ?_, hc⟩
        rw [joinL_append hj (by simp)]
        show _ ++ 47 :: (u ++ [c]) = _
        simp
theorem join_merge {ps : List (List Nat)} (hp : ∀ p ∈ ps, p ≠ [] ∧ 47 ∉ p) {ref : List Nat} (hr : ref.head? ≠ some 47) :
    joinF (dirL (47 :: joinL ps)) ref = mergeF (47 :: joinL ps) ref := by
  unfold mergeF
  rw [if_neg hr]
  unfold dirL
  rw [upTo_base hp]
  have hd : ∀ p ∈ ps.dropLast, p ≠ [] ∧ 47 ∉ p := fun p h => hp p (mem_dropLast h)
  generalize ps.dropLast = i at hd ⊢
  by_cases hi : i = []
  · rw [if_pos hi, if_neg (by simp)]
    unfold joinF
    rw [if_neg (by simp [hr]), if_pos (by simp)]
  · rw [if_neg hi]
    obtain ⟨a, c, e, hc⟩ := joinL_last hi hd
    rw [e]
    have hne : ¬ (47 :: (a ++ [c] ++ [47])) = List.replicate (47 :: (a ++ [c] ++ [47])).length 47 := by
      intro h
      have hm : c ∈ 47 :: (a ++ [c] ++ [47]) := by simp
      rw [h] at hm
      exact hc (List.eq_of_mem_replicate hm)
    rw [if_pos ⟨by simp, hne⟩]
    have es : rstripL (47 :: (a ++ [c] ++ [47])) = 47 :: (a ++ [c]) := by
      unfold rstripL
      have e1 : (47 :: (a ++ [c] ++ [47])).reverse = 47 :: c :: (a.reverse ++ [47]) := by simp
      rw [e1, List.dropWhile_cons_of_pos (by decide), List.dropWhile_cons_of_neg (by simp [hc])]
      simp
    rw [es]
    unfold joinF
    have e2 : (47 :: (a ++ [c])).getLast? = some c := by
      rw [show 47 :: (a ++ [c]) = (47 :: a) ++ [c] from rfl, List.getLast?_append]; rfl
    rw [if_neg (by simp [hr]), if_neg (by rw [e2]; simp [hc])]
    simp
theorem merge_segs {ps rs : List (List Nat)} (hp : ∀ p ∈ ps, p ≠ [] ∧ 47 ∉ p) (hs : Segs rs) (hr : (joinL rs).head? ≠ some 47) :
    mergeF (47 :: joinL ps) (joinL rs) = 47 :: joinL (ps.dropLast ++ rs) := by
  unfold mergeF
  rw [if_neg hr, upTo_base hp]
  by_cases hi : ps.dropLast = []
  · rw [if_pos hi, hi]; rfl
  · rw [if_neg hi, joinL_append hi hs.ne]; simp
theorem told_rel {ps rs : List (List Nat)} (hp : ∀ p ∈ ps, p ≠ [] ∧ 47 ∉ p) (hs : Segs rs) (hr : (joinL rs).head? ≠ some 47) :
    toldF (47 :: joinL ps) (joinL rs) = rdsW (mergeF (47 :: joinL ps) (joinL rs)) [] := by
  unfold toldF
  rw [if_neg hr, join_merge hp hr, merge_segs hp hs hr]
  refine np_rds (Segs.append (fun p h => hp p (mem_dropLast h)) hs) ?_
  unfold lastSeg
  rw [splitL_joinL hs.ne hs.free, List.getLast?_append]
  cases h : rs.getLast? with
  | none => rw [List.getLast?_eq_none_iff] at h; exact absurd h hs.ne
  | some x => rfl
theorem told_root {base : List Nat} {rs : List (List Nat)} (hs : Segs rs) :
    toldF base (47 :: joinL rs) = rdsW (mergeF base (47 :: joinL rs)) [] := by
  unfold toldF mergeF
  simp only [List.head?_cons, if_true]
  refine np_rds hs ?_
  unfold lastSeg
  have e : splitL (47 :: joinL rs) = [] :: rs := by
    rw [show 47 :: joinL rs = [] ++ 47 :: joinL rs from rfl, splitL_app (by simp), splitL_joinL hs.ne hs.free]
  rw [e]
  cases rs with
  | nil => exact hs.elim
  | cons x t => simp
theorem segs_of : ∀ {ps : List (List Nat)}, ps ≠ [] → (∀ p ∈ ps, p ≠ [] ∧ 47 ∉ p) → Segs ps
  | [], h, _ => absurd rfl h
  | [x], _, h => (h x (.head _)).2
  | x :: y :: r, _, h => ⟨(h x (.head _)).1, (h x (.head _)).2, segs_of (by simp) fun p hp => h p (.tail _ hp)⟩
/-- the law's first reference: pieces, a slash behind or none; a lone dot for nothing -/
theorem told_first {ps rs : List (List Nat)} (hp : ∀ p ∈ ps, p ≠ [] ∧ 47 ∉ p) (hr : ∀ p ∈ rs, p ≠ [] ∧ 47 ∉ p) {ref : List Nat} (b : Bool)
    (href : ref = if joinL rs ++ (if b then [47] else []) = [] then [46] else joinL rs ++ (if b then [47] else [])) :
    toldF (47 :: joinL ps) ref = rdsW (mergeF (47 :: joinL ps) ref) [] := by
  by_cases h0 : rs = []
  · subst h0
    cases b with
    | true =>
      have e : ref = 47 :: joinL [[]] := by rw [href]; rfl
      rw [e]; exact told_root (rs := [[]]) (by simp [Segs])
    | false =>
      have e : ref = joinL [[46]] := by rw [href]; rfl
      rw [e]; exact told_rel hp (rs := [[46]]) (by simp [Segs]) (by simp [joinL])
  · have hne := joinL_ne h0 fun p h => (hr p h).1
    have hh : (joinL rs).head? ≠ some 47 := by
      match rs, h0, hr with
      | [x], _, hr =>
        show x.head? ≠ _
        intro e; exact (hr x (.head _)).2 (List.mem_of_head? e)
      | x :: y :: r, _, hr =>
        show (x ++ _).head? ≠ _
        obtain ⟨h1, h2⟩ := hr x (.head _)
        cases x with
        | nil => exact absurd rfl h1
        | cons c t => intro e; simp at e; exact h2 (by simp [e])
    cases b with
    | false =>
      have e : ref = joinL rs := by rw [href]; simp [hne]
      rw [e]; exact told_rel hp (segs_of h0 hr) hh
    | true =>
      have e : ref = joinL (rs ++ [[]]) := by rw [href, joinL_append h0 (by simp)]; simp [joinL]
      have e2 : (joinL (rs ++ [[]])).head? ≠ some 47 := by
        rw [joinL_append h0 (by simp), List.head?_append]
        cases h : (joinL rs).head? with
        | none => rw [List.head?_eq_none_iff] at h; exact absurd h hne
        | some c => rw [h] at hh; simpa using hh
      rw [e]; exact told_rel hp (Segs.append hr (by simp [Segs])) e2
theorem told_second {base : List Nat} {rs : List (List Nat)} (hr : ∀ p ∈ rs, p ≠ [] ∧ 47 ∉ p) :
    toldF base (47 :: joinL rs) = rdsW (mergeF base (47 :: joinL rs)) [] := by
  by_cases h0 : rs = []
  · subst h0
    exact told_root (rs := [[]]) (by simp [Segs])
  · exact told_root (segs_of h0 hr)
end Mine
namespace Mine
theorem npF_nil : npF [] = [46] := rfl
end Mine
end

noncomputable section
open PySem PySem.W PyProof.Rows PySem.Calls PySem.Builtin.Str PySem.StrLaws
set_option maxHeartbeats 1000000
namespace Mine
/-! texts: the library's functions on a text, on its signs -/
def chs (x : Str) : List Nat := x.cps.toList
theorem chs_inj {x y : Str} (h : chs x = chs y) : x = y := by
  obtain ⟨⟨a⟩⟩ := x; obtain ⟨⟨b⟩⟩ := y
  have : a = b := h
  rw [this]
theorem chs_len (x : Str) : x.length = (chs x).length := by simp [chs, Str.length]
theorem chs_beq (x y : Str) : (x == y) = (chs x == chs y) := by
  rw [Bool.eq_iff_iff, beq_iff_eq, beq_iff_eq]
  exact ⟨fun h => h ▸ rfl, chs_inj⟩
theorem chs_bne (x y : Str) : (x != y) = (chs x != chs y) := by unfold bne; rw [chs_beq]
theorem chs_append (x y : Str) : chs (x ++ y) = chs x ++ chs y := by
  show (x.cps ++ y.cps).toList = _
  simp [chs]
theorem sl (x : Str) (l u : Option Int) : Txt.slice x l u = sliceText x l u := rfl
theorem idx_min (l : Option Int) (k n : Nat) : strSliceIndices l (some (k : Int)) 1 n = strSliceIndices l (some ((min k n : Nat) : Int)) 1 n := by
  have h1 : ¬ ((k : Int) < 0) := by omega
  have h2 : ¬ (((min k n : Nat) : Int) < 0) := by omega
  have e : max (0 : Int) (min ((min k n : Nat) : Int) (n : Int)) = max 0 (min (k : Int) n) := by omega
  unfold strSliceIndices
  simp only [h1, h2, if_false, e, show ((1 : Int) > 0) = True from by simp, if_true]
theorem idx_minL (u : Option Int) (k n : Nat) : strSliceIndices (some (k : Int)) u 1 n = strSliceIndices (some ((min k n : Nat) : Int)) u 1 n := by
  have h1 : ¬ ((k : Int) < 0) := by omega
  have h2 : ¬ (((min k n : Nat) : Int) < 0) := by omega
  have e : max (0 : Int) (min ((min k n : Nat) : Int) (n : Int)) = max 0 (min (k : Int) n) := by omega
  unfold strSliceIndices
  simp only [h1, h2, if_false, e, show ((1 : Int) > 0) = True from by simp, if_true]
theorem len_toList (x : Str) : x.cps.toList.length = x.length := by simp [Str.length]
theorem chs_toN (x : Str) (k : Nat) : chs (Txt.slice x none (some (k : Int))) = (chs x).take k := by
  have e : Txt.slice x none (some (k : Int)) = sliceText x none (some ((min k x.length : Nat) : Int)) := by
    rw [sl]; unfold sliceText; rw [idx_min]
  rw [e, sliceText_to ⟨by omega, by rw [len_toList]; omega⟩]
  show ((x.cps.toList.drop 0).take _).toArray.toList = _
  have e2 : (((min k x.length : Nat) : Int) - 0).toNat = min k x.length := by omega
  rw [e2, List.drop_zero]
  show x.cps.toList.take (min k x.length) = x.cps.toList.take k
  rw [← len_toList, ← List.take_eq_take_min]
theorem chs_fromN (x : Str) (k : Nat) : chs (Txt.slice x (some (k : Int)) none) = (chs x).drop k := by
  have e : Txt.slice x (some (k : Int)) none = sliceText x (some ((min k x.length : Nat) : Int)) none := by
    rw [sl]; unfold sliceText; rw [idx_minL]
  rw [e, sliceText_from ⟨by omega, by rw [len_toList]; omega⟩]
  show (List.take _ (x.cps.toList.drop _)).toArray.toList = _
  have e1 : ((min k x.length : Nat) : Int).toNat = min k x.length := by omega
  have e2 : ((x.cps.toList.length : Int) - ((min k x.length : Nat) : Int)).toNat = x.length - min k x.length := by rw [len_toList]; omega
  rw [e1, e2]
  show List.take _ (x.cps.toList.drop _) = x.cps.toList.drop k
  rw [List.take_of_length_le (by rw [List.length_drop, len_toList]; omega)]
  by_cases h : k ≤ x.length
  · rw [Nat.min_eq_left h]
  · rw [Nat.min_eq_right (by omega), List.drop_of_length_le (by rw [len_toList]; omega), List.drop_of_length_le (by rw [len_toList]; omega)]
theorem chs_midN (x : Str) (a b : Nat) (hab : a ≤ b) : chs (Txt.slice x (some (a : Int)) (some (b : Int))) = ((chs x).drop a).take (b - a) := by
  have e : Txt.slice x (some (a : Int)) (some (b : Int)) = sliceText x (some ((min a x.length : Nat) : Int)) (some ((min b x.length : Nat) : Int)) := by
    rw [sl]; unfold sliceText; rw [idx_min, idx_minL]
  rw [e, sliceText_nat x (by omega) (by omega)]
  show List.take _ (x.cps.toList.drop _) = List.take _ (x.cps.toList.drop _)
  by_cases h : a ≤ x.length
  · rw [Nat.min_eq_left h]
    by_cases h2 : b ≤ x.length
    · rw [Nat.min_eq_left h2]
    · rw [Nat.min_eq_right (by omega), List.take_of_length_le (by rw [List.length_drop, len_toList]; omega), List.take_of_length_le (by rw [List.length_drop, len_toList]; omega)]
  · rw [Nat.min_eq_right (by omega), List.drop_of_length_le (by rw [len_toList]; omega), List.drop_of_length_le (by rw [len_toList]; omega)]; simp
theorem chs_to (x : Str) {j : Int} (h : 0 ≤ j) : chs (Txt.slice x none (some j)) = (chs x).take j.toNat := by
  obtain ⟨k, rfl⟩ := Int.eq_ofNat_of_zero_le h
  exact chs_toN x k
theorem chs_from (x : Str) {j : Int} (h : 0 ≤ j) : chs (Txt.slice x (some j) none) = (chs x).drop j.toNat := by
  obtain ⟨k, rfl⟩ := Int.eq_ofNat_of_zero_le h
  exact chs_fromN x k
theorem chs_mid (x : Str) {i j : Int} (h : 0 ≤ i) (hij : i ≤ j) : chs (Txt.slice x (some i) (some j)) = ((chs x).drop i.toNat).take (j.toNat - i.toNat) := by
  obtain ⟨a, rfl⟩ := Int.eq_ofNat_of_zero_le h
  obtain ⟨b, rfl⟩ := Int.eq_ofNat_of_zero_le (Int.le_trans h hij)
  exact chs_midN x a b (by omega)
theorem lit_slash : Str.ofString "/" = ⟨#[47]⟩ := by decide +kernel
theorem chs_slash : chs (Str.ofString "/") = [47] := by decide +kernel
theorem chs_dot : chs (Str.ofString ".") = [46] := by decide +kernel
theorem chs_dots : chs (Str.ofString "..") = [46, 46] := by decide +kernel
theorem chs_none : chs (Str.ofString "") = [] := by decide +kernel
theorem chs_l1 : chs (Str.ofString "../") = [46, 46, 47] := by decide +kernel
theorem chs_l2 : chs (Str.ofString "./") = [46, 47] := by decide +kernel
theorem chs_l3 : chs (Str.ofString "/./") = [47, 46, 47] := by decide +kernel
theorem chs_l4 : chs (Str.ofString "/.") = [47, 46] := by decide +kernel
theorem chs_l5 : chs (Str.ofString "/../") = [47, 46, 46, 47] := by decide +kernel
theorem chs_l6 : chs (Str.ofString "/..") = [47, 46, 46] := by decide +kernel

theorem mem_first {l : List Nat} (h : 47 ∈ l) : ∃ s a, l = s ++ 47 :: a ∧ 47 ∉ s := by
  induction l with
  | nil => cases h
  | cons c r ih =>
    by_cases hc : c = 47
    · exact ⟨[], r, by rw [hc]; rfl, by simp⟩
    · rcases List.mem_cons.mp h with e | h
      · exact absurd e.symm hc
      · obtain ⟨s, a, e, hs⟩ := ih h
        exact ⟨c :: s, a, by rw [e]; rfl, by intro x; rcases List.mem_cons.mp x with e | x; exact hc e.symm; exact hs x⟩
/-- where the last slash stands -/
theorem upTo_split (l : List Nat) : (47 ∉ l ∧ upTo l = []) ∨ ∃ a s, l = a ++ 47 :: s ∧ 47 ∉ s ∧ upTo l = a ++ [47] := by
  by_cases h : 47 ∈ l
  · refine .inr ?_
    have h' : 47 ∈ l.reverse := by simpa using h
    obtain ⟨s, a, e, hs⟩ := mem_first h'
    refine ⟨a.reverse, s.reverse, ?_, by simpa using hs, ?_⟩
    · have := congrArg List.reverse e
      simpa using this
    · have e2 : l = a.reverse ++ 47 :: s.reverse := by have := congrArg List.reverse e; simpa using this
      rw [e2]; exact upTo_app (by simpa using hs)
  · exact .inl ⟨h, upTo_free h⟩
theorem upTo_take (l : List Nat) : l.take (upTo l).length = upTo l := by
  rcases upTo_split l with ⟨_, e⟩ | ⟨a, s, e, _, e2⟩
  · rw [e]; rfl
  · rw [e2, e, show a ++ 47 :: s = (a ++ [47]) ++ s from by simp]; exact List.take_left
end Mine
end

noncomputable section
open PySem PySem.W PyProof.Rows PySem.Calls PySem.Builtin.Str PySem.StrLaws
set_option maxHeartbeats 1000000
namespace Mine
theorem at_iff (x : Str) (i : Nat) : At x ⟨#[47]⟩ x.length i ↔ (chs x)[i]? = some 47 := subAt_one x 47 i
theorem rfind_eq (x : Str) : Txt.rfind x (Str.ofString "/") = ((upTo (chs x)).length : Int) - 1 := by
  rw [lit_slash]
  unfold Txt.rfind
  rcases last_spec x ⟨#[47]⟩ with ⟨e, hn⟩ | ⟨i, e, hi, hn⟩
  · rw [e]
    have : 47 ∉ chs x := fun h => by
      obtain ⟨i, hi⟩ := List.mem_iff_getElem?.mp h
      exact hn i ((at_iff x i).mpr hi)
    rw [upTo_free this]; rfl
  · rw [e]
    rw [at_iff] at hi
    rcases upTo_split (chs x) with ⟨h, _⟩ | ⟨a, s, el, hs, eu⟩
    · exact absurd (List.mem_of_getElem? hi) h
    · rw [eu]
      have h1 : (chs x)[a.length]? = some 47 := by rw [el]; simp
      have h2 : ¬ i < a.length := fun hlt => hn _ hlt ((at_iff x _).mpr h1)
      have h3 : ¬ a.length < i := fun hlt => by
        rw [el, List.getElem?_append_right (by omega)] at hi
        obtain ⟨k, hk⟩ : ∃ k, i - a.length = k + 1 := ⟨i - a.length - 1, by omega⟩
        rw [hk, List.getElem?_cons_succ] at hi
        exact hs (List.mem_of_getElem? hi)
      simp only [List.length_append, List.length_cons, List.length_nil]
      omega
theorem tw_spec (r : List Nat) : (47 ∉ r ∧ r.takeWhile (· != 47) = r ∧ r.dropWhile (· != 47) = []) ∨ ∃ s t, r = s ++ 47 :: t ∧ 47 ∉ s ∧ r.takeWhile (· != 47) = s ∧ r.dropWhile (· != 47) = 47 :: t := by
  by_cases h : 47 ∈ r
  · obtain ⟨s, t, e, hs⟩ := mem_first h
    refine .inr ⟨s, t, e, hs, ?_⟩
    rw [e]; exact tw_app hs
  · exact .inl ⟨h, tw_all h⟩
theorem getD_at (x : Str) (v : Nat) (h : v < x.length) : x.cps.getD v 0 = 47 ↔ (chs x)[v]? = some 47 :=
  ⟨fun e => getElem?_of_getD h e, fun e => getD_of_getElem? e⟩
theorem find_eq {x : Str} {c : Nat} {r : List Nat} (hx : chs x = c :: r) :
    (Txt.find3 x (Str.ofString "/") 1 = -1 ∧ r.takeWhile (· != 47) = r ∧ r.dropWhile (· != 47) = []) ∨
    (Txt.find3 x (Str.ofString "/") 1 = (((r.takeWhile (· != 47)).length + 1 : Nat) : Int) ∧ (r.takeWhile (· != 47)).length + 1 < x.length) := by
  rw [lit_slash]
  have hl : x.length = r.length + 1 := by rw [chs_len, hx]; rfl
  have hf : fromIndex x.length 1 = 1 := by unfold fromIndex; omega
  rcases find3_spec x 47 1 with ⟨e, hn⟩ | ⟨k, e, hk1, hk2, hk3, hn⟩
  · rw [hf] at hn
    refine .inl ⟨e, tw_all fun h => ?_⟩
    obtain ⟨i, hi⟩ := List.mem_iff_getElem?.mp h
    have hlt : i < r.length := by
      obtain ⟨q, _⟩ := List.getElem?_eq_some_iff.mp hi; exact q
    exact hn (i + 1) (by omega) (by omega) ((getD_at x _ (by omega)).mpr (by rw [hx, List.getElem?_cons_succ]; exact hi))
  · rw [hf] at hk1 hn
    refine .inr ?_
    rw [getD_at x k hk2, hx] at hk3
    obtain ⟨j, rfl⟩ : ∃ j, k = j + 1 := ⟨k - 1, by omega⟩
    rw [List.getElem?_cons_succ] at hk3
    rcases tw_spec r with ⟨h, _⟩ | ⟨s, t, er, hs, et, _⟩
    · exact absurd (List.mem_of_getElem? hk3) h
    · rw [et]
      have h1 : ¬ j < s.length := fun hlt => by
        rw [er, List.getElem?_append_left hlt] at hk3
        exact hs (List.mem_of_getElem? hk3)
      have h2 : ¬ s.length < j := fun hlt => by
        refine hn (s.length + 1) (by omega) (by omega) ((getD_at x _ (by omega)).mpr ?_)
        rw [hx, List.getElem?_cons_succ, er]; simp
      have h3 : j = s.length := by omega
      subst h3
      exact ⟨e, hk2⟩
theorem chs_join (parts : List Str) : chs (Str.join (Str.ofString "/") parts) = joinL (parts.map chs) := by
  induction parts with
  | nil => rfl
  | cons a r ih =>
    cases r with
    | nil => rfl
    | cons b t =>
      show chs (a ++ Str.ofString "/" ++ Str.join (Str.ofString "/") (b :: t)) = chs a ++ 47 :: joinL (chs b :: t.map chs)
      rw [chs_append, chs_append, ih, chs_slash]; simp
theorem chs_Tjoin (parts : List Str) : chs (Txt.join (Str.ofString "/") parts) = joinL (parts.map chs) := by
  rw [← chs_join]
  show chs (glued _ _) = _
  rw [glued_eq_join]
theorem split_ne (x y : Str) : Txt.split x y ≠ [] := by
  unfold Txt.split
  split
  · simp
  split
  · simp
  · intro h
    have := length_partsBetween x (occurrences x y 0 x.length (x.length + 1)) y.length
    rw [h] at this
    simp at this
theorem chs_split (x : Str) : (Txt.split x (Str.ofString "/")).map chs = splitL (chs x) := by
  refine splitL_unique (by simpa using split_ne x _) ?_ ?_
  · intro p hp
    obtain ⟨y, hy, rfl⟩ := List.mem_map.mp hp
    rw [lit_slash] at hy
    exact split_free x 47 y hy
  · rw [← chs_join, join_split]
theorem chs_rstrip (x : Str) : chs (Txt.rstripChars x (Str.ofString "/")) = rstripL (chs x) := by
  have hg : (Str.ofString "/").cps.contains = fun c => c == 47 := by
    rw [lit_slash]; funext c; simp; rfl
  have hlen : (x.cps.toList.reverse.takeWhile (fun c => c == 47)).length ≤ x.length := by
    have := (List.takeWhile_sublist (l := x.cps.toList.reverse) (fun c => c == 47)).length_le
    rw [List.length_reverse, len_toList] at this; exact this
  have key : rstripL (chs x) = (chs x).take (x.length - (x.cps.toList.reverse.takeWhile (fun c => c == 47)).length) := by
    unfold rstripL
    have e := List.takeWhile_append_dropWhile (p := (· == 47)) (l := (chs x).reverse)
    have e2 : chs x = ((chs x).reverse.dropWhile (· == 47)).reverse ++ ((chs x).reverse.takeWhile (· == 47)).reverse := by
      have := congrArg List.reverse e
      rw [List.reverse_append, List.reverse_reverse] at this
      exact this.symm
    conv => rhs; rw [e2]
    rw [List.take_append_of_le_length, List.take_of_length_le]
    · have := congrArg List.length e2
      rw [List.length_append, List.length_reverse, List.length_reverse, ← chs_len] at this
      rw [List.length_reverse]
      show _ ≤ x.length - ((chs x).reverse.takeWhile (· == 47)).length
      omega
    · have := congrArg List.length e2
      rw [List.length_append, List.length_reverse, List.length_reverse, ← chs_len] at this
      rw [List.length_reverse]
      show x.length - ((chs x).reverse.takeWhile (· == 47)).length ≤ _
      omega
  unfold Txt.rstripChars Txt.stripBy
  rw [hg, key]
  have eh : stripHi (fun c => c == 47) true x (stripLo (fun c => c == 47) false x) = x.length - (x.cps.toList.reverse.takeWhile (fun c => c == 47)).length := by
    unfold stripHi stripLo; simp
  split
  · rename_i h
    unfold stripSame at h
    rw [Bool.and_eq_true, eh] at h
    have h2 := eq_of_beq h.2
    rw [h2]
    rw [List.take_of_length_le (by rw [← chs_len]; exact Nat.le_refl _)]
  · unfold PySem.stripped
    show (strSub x _ _).cps.toList = _
    rw [strSub_toList, eh]
    show List.take _ (List.drop 0 _) = _
    rw [List.drop_zero]; rfl
theorem starts_eq (x : Str) : Txt.startswith x (Str.ofString "/") = ((chs x).head? == some 47) := by
  rw [lit_slash]
  unfold Txt.startswith
  rw [Bool.eq_iff_iff, Bool.and_eq_true, decide_eq_true_eq, beq_iff_eq, List.head?_eq_getElem?]
  exact subAt_one x 47 0
theorem ends_eq (x : Str) : Txt.endswith x (Str.ofString "/") = ((chs x).getLast? == some 47) := by
  rw [lit_slash]
  unfold Txt.endswith
  rw [Bool.eq_iff_iff, Bool.and_eq_true, decide_eq_true_eq, beq_iff_eq, List.getLast?_eq_getElem?, ← chs_len]
  constructor
  · intro ⟨h1, h2⟩
    refine (subAt_one x 47 _).mp ⟨?_, h2⟩
    have : (⟨#[47]⟩ : Str).length = 1 := rfl
    omega
  · intro h
    have h1 := (subAt_one x 47 _).mpr h
    refine ⟨?_, h1.2⟩
    have : (⟨#[47]⟩ : Str).length = 1 := rfl
    omega
theorem chs_mul (n : Nat) : chs (Txt.mul (Str.ofString "/") (n : Int)) = List.replicate n 47 := by
  rw [lit_slash]
  unfold Txt.mul
  split
  · have : n = 0 := by omega
    subst this; rfl
  split
  · rename_i h1 h
    have : n = 1 := by
      simp [Str.length] at h; omega
    subst this; rfl
  · show ((List.replicate (n : Int).toNat #[47]).foldl (· ++ ·) #[]).toList = _
    rw [Int.toNat_natCast]
    have : ∀ (k : Nat) (acc : Array Nat), ((List.replicate k #[47]).foldl (· ++ ·) acc).toList = acc.toList ++ List.replicate k 47 := by
      intro k
      induction k with
      | zero => intro acc; simp
      | succ k ih => intro acc; rw [List.replicate_succ, List.foldl_cons, ih]; simp [List.replicate_succ]
    rw [this]; simp
end Mine
end

noncomputable section
open PySem PySem.W PyProof.Rows PySem.Calls
set_option maxHeartbeats 8000000
namespace Mine
theorem take_pred (l : List Nat) : l.take ((upTo l).length - 1) = dropSeg l := by
  unfold dropSeg
  rw [List.dropLast_eq_take, ← upTo_take l, List.take_take, upTo_take]
  congr 1; omega
theorem drop_con (w : World) (mean : ExcName → Option Value) (mg mb : Str → Option Value) (x : Str) (t : Tok) (hx : x.length ≤ 1000) :
    Con w mean mg mb 185 1 [.str x t] (fun v => ∃ y t, v = .str y t ∧ chs y = dropSeg (chs x)) := by
  have hr := rfind_eq x
  w_on
  unfold Con
  k_fill
  intro news dp un gd cn cs a ccd cl outer A₀ base h₀ L m s Q E B F X N T hk hd hu hret
  refine wpAny_call ?_
  k_dflt cell_enter
  k_steps
  all_goals refine hret _ _ _ ⟨_, _, rfl, ?_⟩ (by k_asm) (by k_asm)
  · rename 0 ≤ Txt.rfind x _ => h0
    rw [chs_to x h0, ← take_pred]
    congr 1; omega
  · rename ¬ 0 ≤ Txt.rfind x _ => h0
    have : (upTo (chs x)).length = 0 := by omega
    rw [chs_none]
    unfold dropSeg
    rw [List.eq_nil_of_length_eq_zero this]; rfl
theorem head_take (l : List Nat) : l.take 1 = [47] ↔ l.head? = some 47 := by
  cases l <;> simp
theorem merge_con (w : World) (mean : ExcName → Option Value) (mg mb : Str → Option Value) (x y : Str) (t u : Tok) (hx : x.length ≤ 1000) (hy : y.length ≤ 1000) :
    Con w mean mg mb 199 1 [.str x t, .str y u] (fun v => ∃ z t, v = .str z t ∧ chs z = mergeF (chs x) (chs y)) := by
  have hr := rfind_eq x
  w_on
  unfold Con
  k_fill
  intro news dp un gd cn cs a ccd cl outer A₀ base h₀ L m s Q E B F X N T hk hd hu hret
  refine wpAny_call ?_
  k_dflt cell_enter
  k_steps
  all_goals refine hret _ _ _ ⟨_, _, rfl, ?_⟩ (by k_asm) (by k_asm)
  · rename (_ == _) = true => h
    rw [chs_beq, beq_iff_eq, chs_to y (by decide), chs_slash] at h
    unfold mergeF
    rw [if_pos ((head_take _).mp h)]
  · rename (_ == _) = false => h
    rw [chs_beq, ← Bool.not_eq_true, beq_iff_eq, chs_to y (by decide), chs_slash] at h
    unfold mergeF
    rw [if_neg (fun e => h ((head_take _).mpr e)), chs_append, hr, chs_to x (by omega)]
    congr 1
    rw [← upTo_take (chs x)]
    congr 1; rw [upTo_take]; omega
end Mine
end

noncomputable section
open PySem PySem.W PyProof.Rows PySem.Calls
set_option maxHeartbeats 8000000
namespace Mine
def Inv (x s o : Str) : Prop := rdsW (chs s) (chs o) = rdsW (chs x) [] ∧ o.length + s.length ≤ x.length
theorem upTo_len (l : List Nat) : (upTo l).length ≤ l.length := by
  have := congrArg List.length (upTo_take l)
  rw [List.length_take] at this; omega
theorem rdsStep_sum (s o : List Nat) : (rdsStep s o).2.length + (rdsStep s o).1.length ≤ o.length + s.length := by
  have hd : (dropSeg o).length ≤ o.length := by
    have := upTo_len o
    unfold dropSeg; rw [List.length_dropLast]; omega
  unfold rdsStep
  split
  · simp only [List.length_drop]; omega
  split
  · simp only [List.length_drop]; omega
  split
  · simp only [List.length_drop]; omega
  split
  · rename_i e; rw [e]; simp
  split
  · simp only [List.length_drop]; omega
  split
  · rename_i e; rw [e]; simp only [List.length_cons, List.length_nil]; omega
  split
  · simp
  · cases s with
    | nil => simp
    | cons c r =>
      have := congrArg List.length (List.takeWhile_append_dropWhile (p := (· != 47)) (l := r))
      rw [List.length_append] at this
      simp only [List.tail_cons, List.length_append, List.take_succ_cons, List.take_zero, List.length_cons, List.length_nil]
      omega
def Turned (x s s' o' : Str) : Prop := (Inv x s' o' ∧ s'.length ≤ 1000 ∧ o'.length ≤ 1000) ∧ s'.length < s.length
section
variable {x s o s' o' : Str}
theorem inv0 (hx : x.length ≤ 1000) : Inv x x (Str.ofString "") ∧ x.length ≤ 1000 ∧ (Str.ofString "").length ≤ 1000 :=
  ⟨⟨by rw [chs_none], by rw [chs_len (Str.ofString ""), chs_none]; simp⟩, hx, by rw [chs_len, chs_none]; simp⟩
theorem src_ne (h : (s != Str.ofString "") = true) : chs s ≠ [] := by
  rw [chs_bne, chs_none] at h; simpa using h
theorem turned (hx : x.length ≤ 1000) (h : Inv x s o) (h0 : (s != Str.ofString "") = true) (e : rdsStep (chs s) (chs o) = (chs s', chs o')) : Turned x s s' o' := by
  have hne := src_ne h0
  have h1 := rdsStep_lt (chs s) (chs o) hne
  have h2 := rdsStep_sum (chs s) (chs o)
  have h3 := h.1
  rw [rdsW_step hne] at h3
  rw [e] at h1 h2 h3
  have h4 := h.2
  rw [← chs_len, ← chs_len] at h1
  rw [← chs_len, ← chs_len, ← chs_len, ← chs_len] at h2
  refine ⟨⟨⟨h3, ?_⟩, ?_, ?_⟩, h1⟩ <;> omega
theorem cut_eq {lit : Str} {k : Int} {b : Bool} (hk : 0 ≤ k) (h : (Txt.slice s none (some k) == lit) = b) : ((chs s).take k.toNat == chs lit) = b := by
  rw [chs_beq, chs_to s hk] at h; exact h
theorem all_eq {lit : Str} {b : Bool} (h : (s == lit) = b) : (chs s == chs lit) = b := by rw [chs_beq] at h; exact h
theorem c1t (h : (Txt.slice s none (some 3) == Str.ofString "../") = true) : (chs s).take 3 = [46, 46, 47] := by simpa [chs_l1] using cut_eq (by decide) h
theorem c1f (h : (Txt.slice s none (some 3) == Str.ofString "../") = false) : ¬ (chs s).take 3 = [46, 46, 47] := by simpa [chs_l1] using cut_eq (by decide) h
theorem c2t (h : (Txt.slice s none (some 2) == Str.ofString "./") = true) : (chs s).take 2 = [46, 47] := by simpa [chs_l2] using cut_eq (by decide) h
theorem c2f (h : (Txt.slice s none (some 2) == Str.ofString "./") = false) : ¬ (chs s).take 2 = [46, 47] := by simpa [chs_l2] using cut_eq (by decide) h
theorem c3t (h : (Txt.slice s none (some 3) == Str.ofString "/./") = true) : (chs s).take 3 = [47, 46, 47] := by simpa [chs_l3] using cut_eq (by decide) h
theorem c3f (h : (Txt.slice s none (some 3) == Str.ofString "/./") = false) : ¬ (chs s).take 3 = [47, 46, 47] := by simpa [chs_l3] using cut_eq (by decide) h
theorem c4t (h : (s == Str.ofString "/.") = true) : chs s = [47, 46] := by simpa [chs_l4] using all_eq h
theorem c4f (h : (s == Str.ofString "/.") = false) : ¬ chs s = [47, 46] := by simpa [chs_l4] using all_eq h
theorem c5t (h : (Txt.slice s none (some 4) == Str.ofString "/../") = true) : (chs s).take 4 = [47, 46, 46, 47] := by simpa [chs_l5] using cut_eq (by decide) h
theorem c5f (h : (Txt.slice s none (some 4) == Str.ofString "/../") = false) : ¬ (chs s).take 4 = [47, 46, 46, 47] := by simpa [chs_l5] using cut_eq (by decide) h
theorem c6t (h : (s == Str.ofString "/..") = true) : chs s = [47, 46, 46] := by simpa [chs_l6] using all_eq h
theorem c6f (h : (s == Str.ofString "/..") = false) : ¬ chs s = [47, 46, 46] := by simpa [chs_l6] using all_eq h
theorem c7t (h : (s == Str.ofString ".") = true) : chs s = [46] := by simpa [chs_dot] using all_eq h
theorem c7f (h : (s == Str.ofString ".") = false) : ¬ chs s = [46] := by simpa [chs_dot] using all_eq h
theorem c8t (h : (s == Str.ofString "..") = true) : chs s = [46, 46] := by simpa [chs_dots] using all_eq h
theorem c8f (h : (s == Str.ofString "..") = false) : ¬ chs s = [46, 46] := by simpa [chs_dots] using all_eq h
theorem chs_f3 (s : Str) : chs (Txt.slice s (some 3) none) = (chs s).drop 3 := chs_from s (by decide)
theorem chs_f2 (s : Str) : chs (Txt.slice s (some 2) none) = (chs s).drop 2 := chs_from s (by decide)
variable (hx : x.length ≤ 1000) (h : Inv x s o) (h0 : (s != Str.ofString "") = true)
include hx h h0
theorem b1 (h1 : (Txt.slice s none (some 3) == Str.ofString "../") = true) : Turned x s (Txt.slice s (some 3) none) o :=
  turned hx h h0 (by rw [rdsStep, if_pos (c1t h1), chs_f3])
theorem b2 (h1 : (Txt.slice s none (some 3) == Str.ofString "../") = false) (h2 : (Txt.slice s none (some 2) == Str.ofString "./") = true) : Turned x s (Txt.slice s (some 2) none) o :=
  turned hx h h0 (by rw [rdsStep, if_neg (c1f h1), if_pos (c2t h2), chs_f2])
theorem b3 (h1 : (Txt.slice s none (some 3) == Str.ofString "../") = false) (h2 : (Txt.slice s none (some 2) == Str.ofString "./") = false) (h3 : (Txt.slice s none (some 3) == Str.ofString "/./") = true) : Turned x s (Txt.slice s (some 2) none) o :=
  turned hx h h0 (by rw [rdsStep, if_neg (c1f h1), if_neg (c2f h2), if_pos (c3t h3), chs_f2])
theorem b4 (h1 : (Txt.slice s none (some 3) == Str.ofString "../") = false) (h2 : (Txt.slice s none (some 2) == Str.ofString "./") = false) (h3 : (Txt.slice s none (some 3) == Str.ofString "/./") = false) (h4 : (s == Str.ofString "/.") = true) : Turned x s (Str.ofString "/") o :=
  turned hx h h0 (by rw [rdsStep, if_neg (c1f h1), if_neg (c2f h2), if_neg (c3f h3), if_pos (c4t h4), chs_slash])
theorem b5 (h1 : (Txt.slice s none (some 3) == Str.ofString "../") = false) (h2 : (Txt.slice s none (some 2) == Str.ofString "./") = false) (h3 : (Txt.slice s none (some 3) == Str.ofString "/./") = false) (h4 : (s == Str.ofString "/.") = false) (h5 : (Txt.slice s none (some 4) == Str.ofString "/../") = true) (ho : chs o' = dropSeg (chs o)) : Turned x s (Txt.slice s (some 3) none) o' :=
  turned hx h h0 (by rw [rdsStep, if_neg (c1f h1), if_neg (c2f h2), if_neg (c3f h3), if_neg (c4f h4), if_pos (c5t h5), chs_f3, ho])
theorem b6 (h1 : (Txt.slice s none (some 3) == Str.ofString "../") = false) (h2 : (Txt.slice s none (some 2) == Str.ofString "./") = false) (h3 : (Txt.slice s none (some 3) == Str.ofString "/./") = false) (h4 : (s == Str.ofString "/.") = false) (h5 : (Txt.slice s none (some 4) == Str.ofString "/../") = false) (h6 : (s == Str.ofString "/..") = true) (ho : chs o' = dropSeg (chs o)) : Turned x s (Str.ofString "/") o' :=
  turned hx h h0 (by rw [rdsStep, if_neg (c1f h1), if_neg (c2f h2), if_neg (c3f h3), if_neg (c4f h4), if_neg (c5f h5), if_pos (c6t h6), chs_slash, ho])
theorem b7 (h1 : (Txt.slice s none (some 3) == Str.ofString "../") = false) (h2 : (Txt.slice s none (some 2) == Str.ofString "./") = false) (h3 : (Txt.slice s none (some 3) == Str.ofString "/./") = false) (h4 : (s == Str.ofString "/.") = false) (h5 : (Txt.slice s none (some 4) == Str.ofString "/../") = false) (h6 : (s == Str.ofString "/..") = false) (h7 : (s == Str.ofString ".") = true) : Turned x s (Str.ofString "") o :=
  turned hx h h0 (by rw [rdsStep, if_neg (c1f h1), if_neg (c2f h2), if_neg (c3f h3), if_neg (c4f h4), if_neg (c5f h5), if_neg (c6f h6), if_pos (.inl (c7t h7)), chs_none])
theorem b8 (h1 : (Txt.slice s none (some 3) == Str.ofString "../") = false) (h2 : (Txt.slice s none (some 2) == Str.ofString "./") = false) (h3 : (Txt.slice s none (some 3) == Str.ofString "/./") = false) (h4 : (s == Str.ofString "/.") = false) (h5 : (Txt.slice s none (some 4) == Str.ofString "/../") = false) (h6 : (s == Str.ofString "/..") = false) (h8 : (s == Str.ofString "..") = true) : Turned x s (Str.ofString "") o :=
  turned hx h h0 (by rw [rdsStep, if_neg (c1f h1), if_neg (c2f h2), if_neg (c3f h3), if_neg (c4f h4), if_neg (c5f h5), if_neg (c6f h6), if_pos (.inr (c8t h8)), chs_none])
theorem b9 {j : Int} (h1 : (Txt.slice s none (some 3) == Str.ofString "../") = false) (h2 : (Txt.slice s none (some 2) == Str.ofString "./") = false) (h3 : (Txt.slice s none (some 3) == Str.ofString "/./") = false) (h4 : (s == Str.ofString "/.") = false) (h5 : (Txt.slice s none (some 4) == Str.ofString "/../") = false) (h6 : (s == Str.ofString "/..") = false) (h7 : (s == Str.ofString ".") = false) (h8 : (s == Str.ofString "..") = false)
    (hj : (0 ≤ Txt.find3 s (Str.ofString "/") 1 ∧ j = Txt.find3 s (Str.ofString "/") 1) ∨ (¬ 0 ≤ Txt.find3 s (Str.ofString "/") 1 ∧ j = (s.length : Int))) :
    Turned x s (Txt.slice s (some j) none) (o ++ Txt.slice s none (some j)) := by
  refine turned hx h h0 ?_
  rw [rdsStep, if_neg (c1f h1), if_neg (c2f h2), if_neg (c3f h3), if_neg (c4f h4), if_neg (c5f h5), if_neg (c6f h6), if_neg (by rintro (e | e); exact c7f h7 e; exact c8f h8 e), chs_append]
  cases hc : chs s with
  | nil => exact absurd hc (src_ne h0)
  | cons c r =>
    have hsl : s.length = r.length + 1 := by rw [chs_len, hc]; rfl
    have key : ∀ k : Nat, j = (k : Int) → k = (r.takeWhile (· != 47)).length + 1 →
        ((r.dropWhile (· != 47), chs o ++ (List.take 1 (c :: r) ++ r.takeWhile (· != 47))) : List Nat × List Nat) = (chs (Txt.slice s (some j) none), chs o ++ chs (Txt.slice s none (some j))) := by
      intro k e ek
      subst e
      rw [chs_fromN, chs_toN, hc, ek, List.drop_succ_cons]
      simp only [List.take_succ_cons, List.take_zero, List.cons_append, List.nil_append]
      have e2 := List.takeWhile_append_dropWhile (p := (· != 47)) (l := r)
      have e3 : r.drop (r.takeWhile (· != 47)).length = r.dropWhile (· != 47) := by
        conv => lhs; rw [← e2]
        rw [List.takeWhile_append_dropWhile]
        conv => lhs; arg 2; rw [← e2]
        exact List.drop_left
      have e4 : r.take (r.takeWhile (· != 47)).length = r.takeWhile (· != 47) := by
        conv => lhs; arg 2; rw [← e2]
        exact List.take_left
      rw [e3, e4]
    rcases find_eq hc with ⟨e, et, ed⟩ | ⟨e, hlt⟩
    · rcases hj with ⟨h9, _⟩ | ⟨_, rfl⟩
      · rw [e] at h9; exact absurd h9 (by decide)
      · exact key s.length rfl (by rw [et, hsl])
    · rcases hj with ⟨_, rfl⟩ | ⟨h9, _⟩
      · exact key _ e rfl
      · rw [e] at h9; exact absurd (Int.natCast_nonneg _) h9
end
theorem Turned.inv {x s s' o' : Str} (h : Turned x s s' o') : Inv x s' o' ∧ s'.length ≤ 1000 ∧ o'.length ≤ 1000 := h.1
theorem Turned.less {x s s' o' : Str} (h : Turned x s s' o') : s'.length < s.length := h.2
local macro_rules | `(tactic| walk_at "rds inv") => `(tactic| (rename Inv _ _ _ => hI9; first | with_reducible exact Turned.inv (b1 (by with_reducible assumption) hI9 (by with_reducible assumption) (by with_reducible assumption)) | with_reducible exact Turned.inv (b2 (by with_reducible assumption) hI9 (by with_reducible assumption) (by with_reducible assumption) (by with_reducible assumption)) | with_reducible exact Turned.inv (b3 (by with_reducible assumption) hI9 (by with_reducible assumption) (by with_reducible assumption) (by with_reducible assumption) (by with_reducible assumption)) | with_reducible exact Turned.inv (b4 (by with_reducible assumption) hI9 (by with_reducible assumption) (by with_reducible assumption) (by with_reducible assumption) (by with_reducible assumption) (by with_reducible assumption)) | with_reducible exact Turned.inv (b5 (by with_reducible assumption) hI9 (by with_reducible assumption) (by with_reducible assumption) (by with_reducible assumption) (by with_reducible assumption) (by with_reducible assumption) (by with_reducible assumption) (by with_reducible assumption)) | with_reducible exact Turned.inv (b6 (by with_reducible assumption) hI9 (by with_reducible assumption) (by with_reducible assumption) (by with_reducible assumption) (by with_reducible assumption) (by with_reducible assumption) (by with_reducible assumption) (by with_reducible assumption) (by with_reducible assumption)) | with_reducible exact Turned.inv (b7 (by with_reducible assumption) hI9 (by with_reducible assumption) (by with_reducible assumption) (by with_reducible assumption) (by with_reducible assumption) (by with_reducible assumption) (by with_reducible assumption) (by with_reducible assumption) (by with_reducible assumption)) | with_reducible exact Turned.inv (b8 (by with_reducible assumption) hI9 (by with_reducible assumption) (by with_reducible assumption) (by with_reducible assumption) (by with_reducible assumption) (by with_reducible assumption) (by with_reducible assumption) (by with_reducible assumption) (by with_reducible assumption)) | with_reducible exact Turned.inv (b9 (by with_reducible assumption) hI9 (by with_reducible assumption) (by with_reducible assumption) (by with_reducible assumption) (by with_reducible assumption) (by with_reducible assumption) (by with_reducible assumption) (by with_reducible assumption) (by with_reducible assumption) (by with_reducible assumption) (.inl ⟨by with_reducible assumption, rfl⟩)) | with_reducible exact Turned.inv (b9 (by with_reducible assumption) hI9 (by with_reducible assumption) (by with_reducible assumption) (by with_reducible assumption) (by with_reducible assumption) (by with_reducible assumption) (by with_reducible assumption) (by with_reducible assumption) (by with_reducible assumption) (by with_reducible assumption) (.inr ⟨by with_reducible assumption, rfl⟩))))
local macro_rules | `(tactic| walk_at "rds less") => `(tactic| (rename Inv _ _ _ => hI9; first | with_reducible exact Turned.less (b1 (by with_reducible assumption) hI9 (by with_reducible assumption) (by with_reducible assumption)) | with_reducible exact Turned.less (b2 (by with_reducible assumption) hI9 (by with_reducible assumption) (by with_reducible assumption) (by with_reducible assumption)) | with_reducible exact Turned.less (b3 (by with_reducible assumption) hI9 (by with_reducible assumption) (by with_reducible assumption) (by with_reducible assumption) (by with_reducible assumption)) | with_reducible exact Turned.less (b4 (by with_reducible assumption) hI9 (by with_reducible assumption) (by with_reducible assumption) (by with_reducible assumption) (by with_reducible assumption) (by with_reducible assumption)) | with_reducible exact Turned.less (b5 (by with_reducible assumption) hI9 (by with_reducible assumption) (by with_reducible assumption) (by with_reducible assumption) (by with_reducible assumption) (by with_reducible assumption) (by with_reducible assumption) (by with_reducible assumption)) | with_reducible exact Turned.less (b6 (by with_reducible assumption) hI9 (by with_reducible assumption) (by with_reducible assumption) (by with_reducible assumption) (by with_reducible assumption) (by with_reducible assumption) (by with_reducible assumption) (by with_reducible assumption) (by with_reducible assumption)) | with_reducible exact Turned.less (b7 (by with_reducible assumption) hI9 (by with_reducible assumption) (by with_reducible assumption) (by with_reducible assumption) (by with_reducible assumption) (by with_reducible assumption) (by with_reducible assumption) (by with_reducible assumption) (by with_reducible assumption)) | with_reducible exact Turned.less (b8 (by with_reducible assumption) hI9 (by with_reducible assumption) (by with_reducible assumption) (by with_reducible assumption) (by with_reducible assumption) (by with_reducible assumption) (by with_reducible assumption) (by with_reducible assumption) (by with_reducible assumption)) | with_reducible exact Turned.less (b9 (by with_reducible assumption) hI9 (by with_reducible assumption) (by with_reducible assumption) (by with_reducible assumption) (by with_reducible assumption) (by with_reducible assumption) (by with_reducible assumption) (by with_reducible assumption) (by with_reducible assumption) (by with_reducible assumption) (.inl ⟨by with_reducible assumption, rfl⟩)) | with_reducible exact Turned.less (b9 (by with_reducible assumption) hI9 (by with_reducible assumption) (by with_reducible assumption) (by with_reducible assumption) (by with_reducible assumption) (by with_reducible assumption) (by with_reducible assumption) (by with_reducible assumption) (by with_reducible assumption) (by with_reducible assumption) (.inr ⟨by with_reducible assumption, rfl⟩))))
theorem rds_end {x s o : Str} (h : Inv x s o) (h0 : (s != Str.ofString "") = false) : chs o = rdsW (chs x) [] := by
  rw [chs_bne, chs_none] at h0
  have : chs s = [] := by simpa using h0
  have h1 := h.1
  rw [this, rdsW_nil] at h1; exact h1
local macro_rules | `(tactic| walk_at "call ref") => `(tactic| (k_here; (with_reducible show wpAny _ _ (call (Value.ref 185) [Value.str _ _]) _ _ _); k_dflt (refine' Con.use (drop_con _ _ _ _ _ _ ?kx) ?k1 ?k2 ?k3 ?k4 ?k5 ?kK ?kd ?ku ?_; (case k1 => k_asm); (case k2 => k_asm); (case k3 => k_asm); (case k4 => k_asm); (case k5 => k_asm); (case kK => first | exact rfl | assumption); (case kd => ktr_room); (case ku => ktr_units); (case kx => assumption); intro v9 h9 tk9 hR9 F9 N9; obtain ⟨y9, t9, e9, hR9⟩ := hR9; subst e9; (try dsimp only); (try k_fold))))
theorem rds_con (w : World) (mean : ExcName → Option Value) (mg mb : Str → Option Value) (x : Str) (t : Tok) (hx : x.length ≤ 1000) :
    Con w mean mg mb 192 2 [.str x t] (fun v => ∃ y t, v = .str y t ∧ chs y = rdsW (chs x) []) := by
  k_with "exec While Compare cons nil" => k_while (fun _ source output => Inv x source output ∧ source.length ≤ 1000 ∧ output.length ≤ 1000) (fun _ source _ => source.length) "source" "output"
  k_with "state" => first | with_reducible exact inv0 (by with_reducible assumption) | walk_at "rds inv"
  k_with "measure" => walk_at "rds less"
  w_on
  unfold Con
  k_fill
  intro news dp un gd cn cs a ccd cl outer A₀ base h₀ L m s Q E B F X N T hk hd hu hret
  refine wpAny_call ?_
  k_dflt cell_enter
  k_steps
  all_goals refine hret _ _ _ ⟨_, _, rfl, ?_⟩ (by k_asm) (by k_asm)
  all_goals exact rds_end (by with_reducible assumption) (by with_reducible assumption)
end Mine
end

noncomputable section
open PySem PySem.W PyProof.Rows PySem.Calls
set_option maxHeartbeats 8000000
namespace Mine
/-- a def that gives back a new tuple -/
def ConT (w : World) (mean : ExcName → Option Value) (mg mb : Str → Option Value) (f : Addr) (k : Nat) (vs : List Value) (R : Value → Value → Value → Prop) : Prop :=
  ∀ (news : List (Addr × Obj)) (dp un : Nat) (gd : Option (List Code)) (cn : Str) (cs : Scope) (a : Addr) (ccd : Value) (cl : List (Str × Addr)) (outer : List Env) (A₀ : Around) (base h₀ : Heap) (L : Addr) (m : Str → Option Value) (s : Shared) (Q E : Value → Shared → Prop),
    Below A₀ base outer h₀ → Fr h₀ L s.heap m → (Mine.hd.heap_39 w.params).In h₀ → News h₀ L s.heap news → Top Mine.hd.view_39 (looseW Mine.hd.view_39 []) mean mg mb h₀ → cs.kind = .function →
    dp + k < recursionLimit → un + 8 * k < cLine →
    (∀ (D : Addr) (v1 v2 v3 : Value) (h' : Heap) (tk' : Nat), R v1 v2 v3 → Fr h₀ L h' m → News h₀ L h' ((D, { cls := .type "tuple", data := .seq #[v1, v2, v3] }) :: news) → (∀ p ∈ news, p.1 < D) → Q (.ref D) { s with heap := h', toks := tk' }) →
      wpAny (model PySem.Challenge.rw_ab6016_01.row.prog w) (ktrTop dp un gd cn cs L a ccd cl outer) (call (.ref f) vs) Q E s
theorem ConT.use {w : World} {mean : ExcName → Option Value} {mg mb : Str → Option Value} {f : Addr} {k : Nat} {vs : List Value} {R : Value → Value → Value → Prop} (C : ConT w mean mg mb f k vs R)
    {news : List (Addr × Obj)} {dp un : Nat} {gd : Option (List Code)} {cn : Str} {cs : Scope} {a : Addr} {ccd : Value} {cl : List (Str × Addr)} {outer : List Env} {A₀ : Around} {base h₀ : Heap} {L : Addr} {m : Str → Option Value} {s : Shared} {Q E : Value → Shared → Prop}
    (B : Below A₀ base outer h₀) (F : Fr h₀ L s.heap m) (X : (Mine.hd.heap_39 w.params).In h₀) (N : News h₀ L s.heap news) (T : Top Mine.hd.view_39 (looseW Mine.hd.view_39 []) mean mg mb h₀) (hk : cs.kind = .function)
    (hd : dp + k < recursionLimit) (hu : un + 8 * k < cLine)
    (h : ∀ (D : Addr) (v1 v2 v3 : Value) (h' : Heap) (tk' : Nat), R v1 v2 v3 → Fr h₀ L h' m → News h₀ L h' ((D, { cls := .type "tuple", data := .seq #[v1, v2, v3] }) :: news) → (∀ p ∈ news, p.1 < D) → Q (.ref D) { s with heap := h', toks := tk' }) :
    wpAny (model PySem.Challenge.rw_ab6016_01.row.prog w) (ktrTop dp un gd cn cs L a ccd cl outer) (call (.ref f) vs) Q E s :=
  C _ _ _ _ _ _ _ _ _ _ _ _ _ _ _ _ _ _ B F X N T hk hd hu h
local macro_rules | `(tactic| walk_at "call ref") => `(tactic| (k_here; (with_reducible show wpAny _ _ (call (Value.ref 94) [Value.str _ _]) _ _ _); k_dflt (refine' Con.use (fspath_str _ _ _ _ _ _) ?k1 ?k2 ?k3 ?k4 ?k5 ?kK ?kd ?ku ?_; (case k1 => k_asm); (case k2 => k_asm); (case k3 => k_asm); (case k4 => k_asm); (case k5 => k_asm); (case kK => first | exact rfl | assumption); (case kd => ktr_room); (case ku => ktr_units); intro v9 h9 tk9 hR9 F9 N9; subst hR9; (try dsimp only); (try k_fold))))
local macro_rules | `(tactic| walk_at "call ref") => `(tactic| (k_here; (with_reducible show wpAny _ _ (call (Value.ref 94) [Value.bytes _ _]) _ _ _); k_dflt (refine' Con.use (fspath_bytes _ _ _ _ _ _) ?k1 ?k2 ?k3 ?k4 ?k5 ?kK ?kd ?ku ?_; (case k1 => k_asm); (case k2 => k_asm); (case k3 => k_asm); (case k4 => k_asm); (case k5 => k_asm); (case kK => first | exact rfl | assumption); (case kd => ktr_room); (case ku => ktr_units); intro v9 h9 tk9 hR9 F9 N9; subst hR9; (try dsimp only); (try k_fold))))
local macro_rules | `(tactic| walk_at "call ref") => `(tactic| (k_here; (with_reducible show wpAny _ _ (call (Value.ref 108) [Value.str _ _]) _ _ _); k_dflt (refine' Con.use (sep_str _ _ _ _ _ _) ?k1 ?k2 ?k3 ?k4 ?k5 ?kK ?kd ?ku ?_; (case k1 => k_asm); (case k2 => k_asm); (case k3 => k_asm); (case k4 => k_asm); (case k5 => k_asm); (case kK => first | exact rfl | assumption); (case kd => ktr_room); (case ku => ktr_units); intro v9 h9 tk9 hR9 F9 N9; obtain ⟨t9, e9⟩ := hR9; subst e9; (try dsimp only); (try k_fold))))
local macro_rules | `(tactic| walk_at "call ref") => `(tactic| (k_here; (with_reducible show wpAny _ _ (call (Value.ref 108) [Value.bytes _ _]) _ _ _); k_dflt (refine' Con.use (sep_bytes _ _ _ _ _ _) ?k1 ?k2 ?k3 ?k4 ?k5 ?kK ?kd ?ku ?_; (case k1 => k_asm); (case k2 => k_asm); (case k3 => k_asm); (case k4 => k_asm); (case k5 => k_asm); (case kK => first | exact rfl | assumption); (case kd => ktr_room); (case ku => ktr_units); intro v9 h9 tk9 hR9 F9 N9; obtain ⟨t9, e9⟩ := hR9; subst e9; (try dsimp only); (try k_fold))))
theorem isabs_str (w : World) (mean : ExcName → Option Value) (mg mb : Str → Option Value) (x : Str) (t : Tok) :
    Con w mean mg mb 115 2 [.str x t] (fun v => v = .bool ((chs x).head? == some 47)) := by
  w_on
  unfold Con
  k_fill
  intro news dp un gd cn cs a ccd cl outer A₀ base h₀ L m s Q E B F X N T hk hd hu hret
  refine wpAny_call ?_
  k_dflt cell_enter
  k_steps
  all_goals exact hret _ _ _ (by rw [starts_eq]) (by k_asm) (by k_asm)
theorem sl1 (x : Str) : (Txt.slice x none (some 1) != Str.ofString "/") = ((chs x).take 1 != [47]) := by rw [chs_bne, chs_to x (by decide), chs_slash]; rfl
theorem sl12 (x : Str) : (Txt.slice x (some 1) (some 2) != Str.ofString "/") = (((chs x).drop 1).take 1 != [47]) := by rw [chs_bne, chs_mid x (by decide) (by decide), chs_slash]; rfl
theorem sl23 (x : Str) : (Txt.slice x (some 2) (some 3) == Str.ofString "/") = (((chs x).drop 2).take 1 == [47]) := by rw [chs_beq, chs_mid x (by decide) (by decide), chs_slash]; rfl
section
variable {x : Str}
theorem root1 (h : (Txt.slice x none (some 1) != Str.ofString "/") = true) : chs (Str.ofString "") = (rootL (chs x)).1 ∧ chs x = (rootL (chs x)).2 := by
  rw [sl1] at h
  unfold rootL
  rw [if_pos (by simpa using h), chs_none]; exact ⟨rfl, rfl⟩
theorem root2 (h : (Txt.slice x none (some 1) != Str.ofString "/") = false) (h2 : (Txt.slice x (some 1) (some 2) != Str.ofString "/") = true) : chs (Str.ofString "/") = (rootL (chs x)).1 ∧ chs (Txt.slice x (some 1) none) = (rootL (chs x)).2 := by
  rw [sl1] at h
  rw [sl12] at h2
  unfold rootL
  rw [if_neg (by simpa using h), if_pos (.inl (by simpa using h2)), chs_slash, chs_from x (by decide)]; exact ⟨rfl, rfl⟩
theorem root3 (h : (Txt.slice x none (some 1) != Str.ofString "/") = false) (h2 : (Txt.slice x (some 1) (some 2) != Str.ofString "/") = false) (h3 : (Txt.slice x (some 2) (some 3) == Str.ofString "/") = true) : chs (Str.ofString "/") = (rootL (chs x)).1 ∧ chs (Txt.slice x (some 1) none) = (rootL (chs x)).2 := by
  rw [sl1] at h
  rw [sl23] at h3
  unfold rootL
  rw [if_neg (by simpa using h), if_pos (.inr (by simpa using h3)), chs_slash, chs_from x (by decide)]; exact ⟨rfl, rfl⟩
theorem root4 (h : (Txt.slice x none (some 1) != Str.ofString "/") = false) (h2 : (Txt.slice x (some 1) (some 2) != Str.ofString "/") = false) (h3 : (Txt.slice x (some 2) (some 3) == Str.ofString "/") = false) : chs (Txt.slice x none (some 2)) = (rootL (chs x)).1 ∧ chs (Txt.slice x (some 2) none) = (rootL (chs x)).2 := by
  rw [sl1] at h
  rw [sl12] at h2
  rw [sl23] at h3
  unfold rootL
  rw [if_neg (by simpa using h), if_neg (by simp at h2 h3; simp [h2, h3]), chs_from x (by decide), chs_to x (by decide)]; exact ⟨rfl, rfl⟩
end
theorem split_str (w : World) (mean : ExcName → Option Value) (mg mb : Str → Option Value) (x : Str) (t : Tok) (hx : x.length ≤ 1000) :
    ConT w mean mg mb 129 2 [.str x t] (fun v1 v2 v3 => ∃ e t1 y t2 z t3, v1 = .str e t1 ∧ v2 = .str y t2 ∧ v3 = .str z t3 ∧ chs y = (rootL (chs x)).1 ∧ chs z = (rootL (chs x)).2) := by
  w_on
  unfold ConT
  k_fill
  intro news dp un gd cn cs a ccd cl outer A₀ base h₀ L m s Q E B F X N T hk hd hu hret
  refine wpAny_call ?_
  k_dflt cell_enter
  k_steps
  all_goals refine hret _ _ _ _ _ _ ⟨_, _, _, _, _, _, rfl, rfl, rfl, ?_⟩ (by k_asm) (by k_asm) (by assumption)
  · exact root1 (by with_reducible assumption)
  · exact root2 (by with_reducible assumption) (by with_reducible assumption)
  · exact root3 (by with_reducible assumption) (by with_reducible assumption) (by with_reducible assumption)
  · exact root4 (by with_reducible assumption) (by with_reducible assumption) (by with_reducible assumption)
theorem chs_head (x : Str) : chs (Txt.slice x none (some (Txt.rfind x (Str.ofString "/") + 1))) = upTo (chs x) := by
  rw [rfind_eq, chs_to x (by omega)]
  conv => rhs; rw [← upTo_take (chs x)]
  congr 1; omega
theorem dir1 {x hd : Str} (hh : chs hd = upTo (chs x)) (h : (hd.length : Int) ≠ 0) (h2 : (hd != Txt.mul (Str.ofString "/") (hd.length : Int)) = true) : chs (Txt.rstripChars hd (Str.ofString "/")) = dirL (chs x) := by
  rw [chs_bne, chs_mul, chs_len, hh] at h2
  have h0 : upTo (chs x) ≠ [] := by rw [← hh]; intro e; rw [chs_len, e] at h; exact h rfl
  unfold dirL
  rw [if_pos ⟨h0, by simpa using h2⟩, chs_rstrip, hh]
theorem dir2 {x hd : Str} (hh : chs hd = upTo (chs x)) (h2 : (hd != Txt.mul (Str.ofString "/") (hd.length : Int)) = false) : chs hd = dirL (chs x) := by
  rw [chs_bne, chs_mul, chs_len, hh] at h2
  unfold dirL
  rw [if_neg (fun x => x.2 (by simpa using h2)), hh]
theorem dir3 {x hd : Str} (hh : chs hd = upTo (chs x)) (h : (hd.length : Int) = 0) : chs hd = dirL (chs x) := by
  have h0 : upTo (chs x) = [] := by rw [← hh]; exact List.eq_nil_of_length_eq_zero (by rw [← chs_len]; omega)
  unfold dirL
  rw [if_neg (fun x => x.1 h0), hh]
theorem dir_str (w : World) (mean : ExcName → Option Value) (mg mb : Str → Option Value) (x : Str) (t : Tok) (hx : x.length ≤ 1000) :
    Con w mean mg mb 136 2 [.str x t] (fun v => ∃ y t, v = .str y t ∧ chs y = dirL (chs x)) := by
  w_on
  unfold Con
  k_fill
  intro news dp un gd cn cs a ccd cl outer A₀ base h₀ L m s Q E B F X N T hk hd hu hret
  refine wpAny_call ?_
  k_dflt cell_enter
  k_steps
  all_goals refine hret _ _ _ ⟨_, _, rfl, ?_⟩ (by k_asm) (by k_asm)
  · exact dir1 (chs_head x) (by with_reducible assumption) (by with_reducible assumption)
  · exact dir2 (chs_head x) (by with_reducible assumption)
  · exact dir3 (chs_head x) (by with_reducible assumption)
end Mine
end

noncomputable section
open PySem PySem.W PyProof.Rows PySem.Calls
set_option maxHeartbeats 8000000
namespace Mine
section
variable {prog : Program} {w : World} {A : Around} {E : Value → Shared → Prop} {s : Shared} {env : Env} {h₀ : Heap} {x : Str} {body : List Stmt} {Q : Flow → Shared → Prop}
theorem fr_name {L : Addr} {h : Heap} {m : Str → Option Value} {y : Str} {v : Value} (F : Fr h₀ L h m) (hm : m y = some v) : Fr h₀ L h (fun z => if z = y then some v else m z) := by
  have e : (fun z => if z = y then some v else m z) = m := by
    funext z
    by_cases hz : z = y
    · rw [if_pos hz, hz, hm]
    · rw [if_neg hz]
  rw [e]; exact F
/-- a for over a tuple of one item: one turn; what the one name y holds behind it -/
theorem for_one {ax : Addr} {v : Value} {m₀ : Str → Option Value} {news : List (Addr × Obj)} (y : Str) (P : Value → Prop)
    (hh : A.handled = none) (F : Fr h₀ env.locals s.heap m₀) (N : News h₀ env.locals s.heap ((ax, { cls := .type "tuple", data := .seq #[v] }) :: news)) (hl : ∀ p ∈ news, p.1 < ax)
    (turn : ∀ h tk own, OwnOff own (news.map (·.1)) → Fr h₀ env.locals h (fun z => if z = x then some v else m₀ z) → News h₀ env.locals h (news ++ own) →
      wpAny (model prog w) A (execs body env) (InvPostN h₀ env.locals (fun m' nx => nx = news ∧ ∃ u, m' y = some u ∧ P u) own (news.map (·.1)) { s with heap := h, toks := tk } Q) E { s with heap := h, toks := tk })
    (done : ∀ (m₁ : Str → Option Value) u h tk, P u → Fr h₀ env.locals h (fun z => if z = y then some u else m₁ z) → News h₀ env.locals h news → Q .next { s with heap := h, toks := tk }) :
    wpAny (model prog w) A (pyIter (.ref ax)) (fun it s₂ => LoopAtV prog w A h₀ env x body Q E it s₂) E s := by
  have hax := N _ (.head _)
  have ht : s.heap.IsTuple ax [v].toArray := ⟨_, hax.1, rfl, _, rfl⟩
  have hne : ax ≠ s.heap.objs.size := Nat.ne_of_lt (Heap.lt_size hax.1)
  have N' : News h₀ env.locals s.heap news := fun p hp => N p (.tail _ hp)
  refine wpAny_pyIter_tuple ht ?_
  refine loop_invN (fun i m nx => (i = 0 → nx = news ∧ m = m₀) ∧ (i = 1 → nx = news ∧ ∃ u, m y = some u ∧ P u)) (Walks.tuple hh s.heap.objs.size ax hne [v].toArray) ?_ ?_ ?_ ?_ ⟨⟨_, Heap.get?_push_size _ rfl, rfl, rfl⟩, ht.at fun o e => Heap.get?_push_of_some _ e⟩ (F.push _) (fun p hp => ⟨Heap.get?_push_of_some _ (N' p hp).1, (N' p hp).2⟩) ⟨fun _ => ⟨rfl, rfl⟩, fun h => nomatch h⟩ ?_ ?_
  · intro hm
    rcases List.mem_cons.mp hm with e | hm
    · exact absurd F.ns.lt (e ▸ Nat.lt_irrefl _)
    · exact hax.2.1 (List.mem_singleton.mp hm).symm
  · intro b hb
    rw [List.mem_singleton.mp hb]
    exact next_is_new F
  · intro p hp hI
    exact absurd (Heap.lt_size (N' p hp).1) ((List.mem_singleton.mp hI) ▸ Nat.lt_irrefl _)
  · intro p hp hI
    rcases List.mem_cons.mp hI with e | hI
    · exact absurd (Heap.lt_size (N' p hp).1) (e ▸ Nat.lt_irrefl _)
    · have := hl p hp
      rw [List.mem_singleton.mp hI] at this
      exact absurd this (Nat.lt_irrefl _)
  · rintro i u m₁ news₁ h tk own hi hP _ hoff ⟨h0, _⟩ F₁ N₁
    have hi0 : i = 0 := by simpa using hi
    subst hi0
    obtain ⟨rfl, rfl⟩ := h0 rfl
    have hu : u = v := by simpa using hP.symm
    subst hu
    refine wpAny_mono (turn h tk own hoff F₁ N₁) (fun f s₂ p => ?_) fun _ _ e => e
    have up : InvEndN h₀ env.locals (fun m' nx => nx = news₁ ∧ ∃ u, m' y = some u ∧ P u) own (news₁.map (·.1)) { s with heap := h, toks := tk } s₂ →
        InvEndN h₀ env.locals (fun m nx => (0 + 1 = 0 → nx = news₁ ∧ m = m₁) ∧ (0 + 1 = 1 → nx = news₁ ∧ ∃ u, m y = some u ∧ P u)) own (news₁.map (·.1)) { s with heap := h, toks := tk } s₂ := by
      rintro ⟨h', tk', m', news', nx, e, F', N', hn, ho, ha, hJ⟩
      exact ⟨h', tk', m', news', nx, e, F', N', hn, ho, ha, (fun z => absurd z (by decide)), fun _ => hJ⟩
    cases f with
    | ret v => exact p
    | brk => exact p
    | next => exact up p
    | cont => exact up p
  · rintro m₁ news₁ h tk ⟨_, h1⟩ F₁ N₁
    obtain ⟨rfl, u, hu, hp⟩ := h1 rfl
    exact done m₁ u h tk hp (fr_name F₁ hu) N₁
theorem invN_end {L : Addr} {y : Str} {P : Value → Prop} {m' : Str → Option Value} {own news news' : List (Addr × Obj)} {s₁ : Shared} {h' : Heap} {tk : Nat} (F : Fr h₀ L h' m') (N : News h₀ L h' news') (hn : ∀ p ∈ news, p ∈ news') (ho : ∀ p ∈ own, p ∈ news') {u : Value} (hu : m' y = some u) (hp : P u) :
    InvEndN h₀ L (fun m' nx => nx = news ∧ ∃ u, m' y = some u ∧ P u) own (news.map (·.1)) s₁ { s₁ with heap := h', toks := tk } :=
  InvEndN.intro F N ⟨rfl, u, hu, hp⟩ rfl hn ho
end
section
variable {x y : Str}
theorem jn1 (h : (Txt.startswith y (Str.ofString "/")) = true) : chs y = joinF (chs x) (chs y) := by
  rw [starts_eq] at h
  unfold joinF
  rw [if_pos (.inl (by simpa using h))]
theorem jn2 (h : (x.length : Int) = 0) : chs y = joinF (chs x) (chs y) := by
  have : chs x = [] := List.eq_nil_of_length_eq_zero (by rw [← chs_len]; omega)
  unfold joinF
  rw [if_pos (.inr this)]
theorem jn3 (h : (Txt.startswith y (Str.ofString "/")) = false) (h1 : (x.length : Int) ≠ 0) (h2 : (Txt.endswith x (Str.ofString "/")) = true) : chs (x ++ y) = joinF (chs x) (chs y) := by
  rw [starts_eq] at h
  rw [ends_eq] at h2
  have h0 : chs x ≠ [] := fun e => h1 (by rw [chs_len, e]; rfl)
  unfold joinF
  rw [if_neg (by rintro (e | e); simp [e] at h; exact h0 e), if_pos (by simpa using h2), chs_append]
theorem jn4 (h : (Txt.startswith y (Str.ofString "/")) = false) (h1 : (x.length : Int) ≠ 0) (h2 : (Txt.endswith x (Str.ofString "/")) = false) : chs (x ++ (Str.ofString "/" ++ y)) = joinF (chs x) (chs y) := by
  rw [starts_eq] at h
  rw [ends_eq] at h2
  have h0 : chs x ≠ [] := fun e => h1 (by rw [chs_len, e]; rfl)
  unfold joinF
  rw [if_neg (by rintro (e | e); simp [e] at h; exact h0 e), if_neg (by simpa using h2), chs_append, chs_append, chs_slash]; rfl
end
def JnP (x y : Str) (v : Value) : Prop := ∃ z t, v = .str z t ∧ chs z = joinF (chs x) (chs y)
local macro_rules | `(tactic| walk_at "call ref") => `(tactic| (k_here; (with_reducible show wpAny _ _ (call (Value.ref 94) [Value.str _ _]) _ _ _); k_dflt (refine' Con.use (fspath_str _ _ _ _ _ _) ?k1 ?k2 ?k3 ?k4 ?k5 ?kK ?kd ?ku ?_; (case k1 => k_asm); (case k2 => k_asm); (case k3 => k_asm); (case k4 => k_asm); (case k5 => k_asm); (case kK => first | exact rfl | assumption); (case kd => ktr_room); (case ku => ktr_units); intro v9 h9 tk9 hR9 F9 N9; subst hR9; (try dsimp only); (try k_fold))))
local macro_rules | `(tactic| walk_at "call ref") => `(tactic| (k_here; (with_reducible show wpAny _ _ (call (Value.ref 94) [Value.bytes _ _]) _ _ _); k_dflt (refine' Con.use (fspath_bytes _ _ _ _ _ _) ?k1 ?k2 ?k3 ?k4 ?k5 ?kK ?kd ?ku ?_; (case k1 => k_asm); (case k2 => k_asm); (case k3 => k_asm); (case k4 => k_asm); (case k5 => k_asm); (case kK => first | exact rfl | assumption); (case kd => ktr_room); (case ku => ktr_units); intro v9 h9 tk9 hR9 F9 N9; subst hR9; (try dsimp only); (try k_fold))))
local macro_rules | `(tactic| walk_at "call ref") => `(tactic| (k_here; (with_reducible show wpAny _ _ (call (Value.ref 108) [Value.str _ _]) _ _ _); k_dflt (refine' Con.use (sep_str _ _ _ _ _ _) ?k1 ?k2 ?k3 ?k4 ?k5 ?kK ?kd ?ku ?_; (case k1 => k_asm); (case k2 => k_asm); (case k3 => k_asm); (case k4 => k_asm); (case k5 => k_asm); (case kK => first | exact rfl | assumption); (case kd => ktr_room); (case ku => ktr_units); intro v9 h9 tk9 hR9 F9 N9; obtain ⟨t9, e9⟩ := hR9; subst e9; (try dsimp only); (try k_fold))))
local macro_rules | `(tactic| walk_at "call ref") => `(tactic| (k_here; (with_reducible show wpAny _ _ (call (Value.ref 108) [Value.bytes _ _]) _ _ _); k_dflt (refine' Con.use (sep_bytes _ _ _ _ _ _) ?k1 ?k2 ?k3 ?k4 ?k5 ?kK ?kd ?ku ?_; (case k1 => k_asm); (case k2 => k_asm); (case k3 => k_asm); (case k4 => k_asm); (case k5 => k_asm); (case kK => first | exact rfl | assumption); (case kd => ktr_room); (case ku => ktr_units); intro v9 h9 tk9 hR9 F9 N9; obtain ⟨t9, e9⟩ := hR9; subst e9; (try dsimp only); (try k_fold))))
local macro_rules | `(tactic| walk_at "exec For Name Name cons nil") => `(tactic| (k_here; (rename Fr _ _ _ _ => lF'); (with_unfolding_all refine' For_invVF lF' ?k1 ?k2 ?_; (case k1 => exact rfl); (case k2 => exact rfl); k_whole)))
theorem join_str (w : World) (mean : ExcName → Option Value) (mg mb : Str → Option Value) (x y : Str) (t u : Tok) (hx : x.length ≤ 1000) (hy : y.length ≤ 1000) :
    Con w mean mg mb 122 2 [.str x t, .str y u] (fun v => ∃ z t, v = .str z t ∧ chs z = joinF (chs x) (chs y)) := by
  k_with "pyIter ref" => ((rename Fr _ _ _ _ => lF'); (rename News _ _ _ _ => lN'); (with_unfolding_all refine' for_one (Str.ofString "path") (JnP x y) (by rfl) lF' lN' ?kl ?_ ?_); (case kl => assumption); (all_goals (try clear lF' lN')); intro h' tk' own' off' F' N'; (try k_fold); rotate_left; intro m' u' h' tk' hP' F' N'; obtain ⟨z', t', e', hz'⟩ := hP'; subst e'; (try k_fold); rotate_left)
  w_on
  unfold Con
  k_fill
  intro news dp un gd cn cs a ccd cl outer A₀ base h₀ L m s Q E B F X N T hk hd hu hret
  refine wpAny_call ?_
  k_dflt (refine' kp_rest ?k1 ?k2 ?k3 ?k4 ?k5 ?kA ?kF ?kK ?k6 ?k7 ?k8 ?kV ?kP ?kG ?kB ?_ ?c2 ?c3 ?c4 ?c5; (case kA => exact rfl); (case kF => exact rfl); (case kK => assumption); (case k1 => k_asm); (case k2 => k_asm); (case k3 => k_asm); (case k4 => k_asm); (case k5 => k_asm); (case k6 => k_is); (case k7 => k_is); (case k8 => ktr_room); (case kV => kl_lit); (case kP => exact rfl); (case kG => exact fun _ => rfl); (case kB => exact fun _ => locs rfl); (case c5 => decide); (case c2 => exact rfl); (case c3 => exact rfl); (case c4 => exact rfl); k_whole; intro D' g' L' h' l1 FG' F' N' B' X' T'; (try dsimp only); (try k_lift B'); (try k_fold))
  k_steps
  · refine' invN_end ?ka ?kb ?kc ?kd ?ke ?kf; (case ka => assumption); (case kb => assumption); (case ke => exact rfl); (case kc => kcj_all); (case kd => kcj_all); (case kf => exact ⟨_, _, rfl, jn1 (by with_reducible assumption)⟩)
  · refine' invN_end ?ka ?kb ?kc ?kd ?ke ?kf; (case ka => assumption); (case kb => assumption); (case ke => exact rfl); (case kc => kcj_all); (case kd => kcj_all); (case kf => exact ⟨_, _, rfl, jn3 (by with_reducible assumption) (by with_reducible assumption) (by with_reducible assumption)⟩)
  · refine' invN_end ?ka ?kb ?kc ?kd ?ke ?kf; (case ka => assumption); (case kb => assumption); (case ke => exact rfl); (case kc => kcj_all); (case kd => kcj_all); (case kf => exact ⟨_, _, rfl, jn4 (by with_reducible assumption) (by with_reducible assumption) (by with_reducible assumption)⟩)
  · refine' invN_end ?ka ?kb ?kc ?kd ?ke ?kf; (case ka => assumption); (case kb => assumption); (case ke => exact rfl); (case kc => kcj_all); (case kd => kcj_all); (case kf => exact ⟨_, _, rfl, jn2 (by with_reducible assumption)⟩)
  · exact hret _ _ _ ⟨_, _, rfl, by with_reducible assumption⟩ (by k_asm) (by k_asm)
end Mine
end

noncomputable section
open PySem PySem.W PyProof.Rows PySem.Calls
set_option maxHeartbeats 1000000
namespace Mine
def bys' (b : Array UInt8) : List Nat := b.toList.map (·.toNat)
/-- a value of the kind (bytes or text), by its signs -/
def Kv (o : Bool) (v : Value) (l : List Nat) : Prop := match o with
  | true => ∃ b t, v = .bytes b t ∧ bys' b = l
  | false => ∃ x t, v = .str x t ∧ chs x = l
noncomputable def Ks (o : Bool) : List Value → List (List Nat) → Prop
  | [], [] => True
  | v :: us, l :: ls => Kv o v l ∧ Ks o us ls
  | _, _ => False
theorem Ks.len {o : Bool} : ∀ {us : List Value} {ls : List (List Nat)}, Ks o us ls → us.length = ls.length
  | [], [], _ => rfl
  | _ :: us, _ :: ls, h => congrArg (· + 1) (Ks.len (us := us) (ls := ls) h.2)
theorem Ks.get {o : Bool} : ∀ {us : List Value} {ls : List (List Nat)} {i : Nat} {v : Value}, Ks o us ls → us[i]? = some v → ∃ l, ls[i]? = some l ∧ Kv o v l
  | [], [], _, _, _, h => by simp at h
  | u :: us, l :: ls, 0, v, h, hv => by
    have : u = v := by simpa using hv
    exact ⟨l, rfl, this ▸ h.1⟩
  | u :: us, l :: ls, i + 1, v, h, hv => by
    have hv' : us[i]? = some v := by simpa using hv
    obtain ⟨x, hx, hk⟩ := Ks.get (us := us) (ls := ls) h.2 hv'
    exact ⟨x, by simpa using hx, hk⟩
theorem Ks.snoc {o : Bool} {u : Value} {l : List Nat} (hu : Kv o u l) : ∀ {us : List Value} {ls : List (List Nat)}, Ks o us ls → Ks o (us ++ [u]) (ls ++ [l])
  | [], [], _ => ⟨hu, trivial⟩
  | _ :: us, _ :: ls, h => ⟨h.1, Ks.snoc hu (us := us) (ls := ls) h.2⟩
theorem Ks.unsnoc {o : Bool} {u : Value} : ∀ {us : List Value} {ls : List (List Nat)}, Ks o (us ++ [u]) ls → ∃ ls' l, ls = ls' ++ [l] ∧ Ks o us ls' ∧ Kv o u l
  | [], [l], h => ⟨[], l, rfl, trivial, h.1⟩
  | [], _ :: _ :: _, h => h.2.elim
  | v :: us, l :: ls, h => by
    obtain ⟨ls', l', e, h1, h2⟩ := Ks.unsnoc (us := us) (ls := ls) h.2
    exact ⟨l :: ls', l', by rw [e]; rfl, ⟨h.1, h1⟩, h2⟩
theorem Ks.nil {o : Bool} {ls : List (List Nat)} (h : Ks o [] ls) : ls = [] := by cases ls with | nil => rfl | cons => exact h.elim

/-- the weight of segments -/
def wt (ls : List (List Nat)) : Nat := (ls.map fun l => l.length + 1).sum
theorem wt_append (a b : List (List Nat)) : wt (a ++ b) = wt a + wt b := by simp [wt]
theorem wt_dropLast (a : List (List Nat)) : wt a.dropLast ≤ wt a := by
  rcases List.eq_nil_or_concat a with e | ⟨i, s, e⟩
  · rw [e]; exact Nat.le_refl _
  · rw [e, List.concat_eq_append, List.dropLast_concat, wt_append]; omega
theorem wt_step (ini : List Nat) (acc : List (List Nat)) (c : List Nat) : wt (npStep ini acc c) ≤ wt acc + (c.length + 1) := by
  unfold npStep
  split
  · omega
  split
  · rw [wt_append]; simp [wt]
  · have := wt_dropLast acc; omega
theorem wt_fold (ini : List Nat) : ∀ (cs acc : List (List Nat)), wt (cs.foldl (npStep ini) acc) ≤ wt acc + wt cs
  | [], acc => by simp [wt]
  | c :: r, acc => by
    have h1 := wt_fold ini r (npStep ini acc c)
    have h2 := wt_step ini acc c
    rw [List.foldl_cons]
    have h3 : wt (c :: r) = (c.length + 1) + wt r := by simp [wt]
    omega
theorem wt_split : ∀ l : List Nat, wt (splitL l) = l.length + 1
  | [] => rfl
  | c :: r => by
    have ih := wt_split r
    unfold splitL
    split
    · have : wt ([] :: splitL r) = 1 + wt (splitL r) := by simp [wt]
      rw [this, ih, List.length_cons]; omega
    · cases hs : splitL r with
      | nil => exact absurd hs (splitL_ne r)
      | cons x t =>
        rw [hs] at ih
        have h1 : wt (x :: t) = (x.length + 1) + wt t := by simp [wt]
        have h2 : wt ((c :: x) :: t) = (x.length + 1 + 1) + wt t := by simp [wt]
        show wt ((c :: x) :: t) = _
        rw [h2, List.length_cons]; omega
theorem wt_len (ls : List (List Nat)) : ls.length ≤ wt ls := by
  induction ls with
  | nil => exact Nat.le_refl _
  | cons x t ih =>
    have h1 : wt (x :: t) = (x.length + 1) + wt t := by simp [wt]
    rw [List.length_cons]; omega
theorem joinL_len : ∀ ls : List (List Nat), (joinL ls).length ≤ wt ls
  | [] => Nat.le_refl _
  | [x] => by simp [joinL, wt]
  | x :: y :: r => by
    have h1 : wt (x :: y :: r) = (x.length + 1) + wt (y :: r) := by simp [wt]
    have h2 := joinL_len (y :: r)
    show (x ++ 47 :: joinL (y :: r)).length ≤ _
    rw [List.length_append, List.length_cons]; omega
theorem root_len (p : List Nat) : (rootL p).1.length + (rootL p).2.length ≤ p.length := by
  unfold rootL
  split
  · simp
  split
  · rename_i h _
    cases p with
    | nil => simp at h
    | cons c r => simp; omega
  · simp only [List.length_take, List.length_drop]; omega
section
variable {prog : Program} {w : World} {A : Around} {E : Value → Shared → Prop} {s : Shared} {env : Env} {h₀ : Heap} {x : Str} {body : List Stmt} {Q : Flow → Shared → Prop}
/-- a for over a list of values that the call holds, whose turns change one list of the ledger's -/
theorem for_vals {l nl : Addr} {vs : List Value} {c0 : Nat} {m₀ : Str → Option Value} {news : List (Addr × Obj)} (R : Nat → List Value → Prop)
    (hh : A.handled = none) (F : Fr h₀ env.locals s.heap m₀) (hl : s.heap.IsList l vs.toArray) (hL : l ≠ env.locals) (N : News h₀ env.locals s.heap ((nl, listOf #[] c0) :: news)) (hlt : ∀ p ∈ (nl, listOf #[] c0) :: news, p.1 ≠ l) (hr : R 0 [])
    (turn : ∀ i v us c h tk own, vs[i]? = some v → OwnOff own (nl :: news.map (·.1)) → R i us → Fr h₀ env.locals h (fun z => if z = x then some v else m₀ z) → News h₀ env.locals h ((nl, listOf us.toArray c) :: (news ++ own)) →
      wpAny (model prog w) A (execs body env) (InvPostN h₀ env.locals (fun m' nx => (∃ us' c', nx = (nl, listOf us'.toArray c') :: news ∧ R (i + 1) us') ∧ ∀ z, z ≠ x → m' z = m₀ z) own (nl :: news.map (·.1)) { s with heap := h, toks := tk } Q) E { s with heap := h, toks := tk })
    (done : ∀ (u : Str → Option Value) us c h tk, R vs.length us → Fr h₀ env.locals h (fun z => if z = x then u z else m₀ z) → News h₀ env.locals h ((nl, listOf us.toArray c) :: news) → Q .next { s with heap := h, toks := tk }) :
    wpAny (model prog w) A (pyIter (.ref l)) (fun it s₂ => LoopAtV prog w A h₀ env x body Q E it s₂) E s := by
  obtain ⟨ol, hol, _⟩ := id hl
  have hne : l ≠ s.heap.objs.size := Nat.ne_of_lt (Heap.lt_size hol)
  refine wpAny_pyIter_list hl ?_
  refine loop_invN (fun i m nx => (∃ us c, nx = (nl, listOf us.toArray c) :: news ∧ R i us) ∧ ∀ z, z ≠ x → m z = m₀ z) (Walks.list hh s.heap.objs.size l hne vs.toArray) ?_ ?_ ?_ ?_ ⟨⟨_, Heap.get?_push_size _ rfl, rfl, rfl⟩, hl.at fun o e => Heap.get?_push_of_some _ e⟩ (F.push _) (fun p hp => ⟨Heap.get?_push_of_some _ (N p hp).1, (N p hp).2⟩) ⟨⟨[], c0, rfl, hr⟩, fun _ _ => rfl⟩ ?_ ?_
  · intro hm
    rcases List.mem_cons.mp hm with e | hm
    · exact absurd F.ns.lt (e ▸ Nat.lt_irrefl _)
    · exact hL (List.mem_singleton.mp hm).symm
  · intro b hb
    rw [List.mem_singleton.mp hb]
    exact next_is_new F
  · intro p hp hI
    exact absurd (Heap.lt_size (N p hp).1) ((List.mem_singleton.mp hI) ▸ Nat.lt_irrefl _)
  · intro p hp hI
    rcases List.mem_cons.mp hI with e | hI
    · exact absurd (Heap.lt_size (N p hp).1) (e ▸ Nat.lt_irrefl _)
    · exact hlt p hp (List.mem_singleton.mp hI)
  · rintro i v m₁ news₁ h tk own hi hP _ hoff ⟨⟨us, c, rfl, hR⟩, hm⟩ F₁ N₁
    have hv : vs[i]? = some v := by simpa using hP
    have e : (fun z => if z = x then some v else m₁ z) = fun z => if z = x then some v else m₀ z := by
      funext z
      by_cases hz : z = x
      · rw [if_pos hz, if_pos hz]
      · rw [if_neg hz, if_neg hz, hm z hz]
    rw [e] at F₁
    exact turn i v us c h tk own hv hoff hR F₁ N₁
  · rintro m₁ news₁ h tk ⟨⟨us, c, rfl, hR⟩, hm⟩ F₁ N₁
    have e : (fun z => if z = x then m₁ z else m₀ z) = m₁ := by
      funext z
      by_cases hz : z = x
      · rw [if_pos hz]
      · rw [if_neg hz, hm z hz]
    have hn : vs.toArray.size = vs.length := List.size_toArray
    rw [hn] at hR
    exact done m₁ us c h tk hR (by rw [e]; exact F₁) N₁
end
section
variable {prog : Program} {w : World} {A : Around} {E : Value → Shared → Prop} {s : Shared} {h₀ : Heap} {L nl : Addr} {news : List (Addr × Obj)} {us : List Value} {c : Nat}
theorem lst_truthy {Q : Bool → Shared → Prop} (N : News h₀ L s.heap news) (hm : (nl, listOf us.toArray c) ∈ news) (hz : us.length ≤ 100000)
    (h0 : us = [] → Q false { s with toks := s.toks + 1 + 1 }) (h1 : ∀ ys y, us = ys ++ [y] → Q true { s with toks := s.toks + 1 + 1 }) : wpAny (model prog w) A (truthy (.ref nl)) Q E s := by
  refine wpAny_truthy_list ⟨_, (N _ hm).1, rfl, c, rfl⟩ (by rw [List.size_toArray]; omega) ?_
  rcases List.eq_nil_or_concat us with e | ⟨ys, y, e⟩
  · have := h0 e
    subst e; exact this
  · rw [List.concat_eq_append] at e
    have := h1 ys y e
    subst e
    have e2 : (!(ys ++ [y]).toArray.isEmpty) = true := by simp
    rw [e2]; exact this
theorem lst_last {value slice : Expr} {y : Value} {u : Tok} {Q : Value → Shared → Prop} (N : News h₀ L s.heap news) (hm : (nl, listOf (us ++ [y]).toArray c) ∈ news) (h : Q y s)
    (hs : subscripted slice false (.ref nl) (.int (-1) u) = operate [.ref nl, .int (-1) u] (getItem (.ref nl) (.int (-1) u)) := by with_unfolding_all rfl) :
    wpAny (model prog w) A (subscriptTail value slice (.ref nl) (.int (-1) u)) Q E s := by
  have hl : s.heap.IsList nl (us ++ [y]).toArray := ⟨_, (N _ hm).1, rfl, c, rfl⟩
  have hsz : (us ++ [y]).toArray.size = us.length + 1 := by simp
  refine subscriptTail_builtinR hl.typeIs slot_list_getitem.lookup (wpAny_getItem_list_neg (x := y) (Q := fun r s' => r = y ∧ Q r s') hl (by decide) (by rw [hsz]; omega) (by decide) ?_ ⟨rfl, h⟩) hs
  have e : ((-1 : Int) + ((us ++ [y]).toArray.size : Nat)).toNat = us.length := by rw [hsz]; omega
  rw [e]; simp
theorem lst_pop {m : Str → Option Value} {y : Value} {Q : Value → Shared → Prop} (F : Fr h₀ L s.heap m) (N : News h₀ L s.heap ((nl, listOf (us ++ [y]).toArray c) :: news)) (ha : ∀ p ∈ news, p.1 ≠ nl) (hz : us.length ≤ 100000)
    (h : ∀ h', Fr h₀ L h' m → News h₀ L h' ((nl, listOf us.toArray (c + 1)) :: news) → Q y { s with heap := h' }) : wpAny (model prog w) A (call (.builtin "list.pop") [.ref nl]) Q E s :=
  kl_pop F N (p := us) (y := y) (kpa_last y us) (Upd.head ha) (by rw [sizeLine_eq]; simp; omega) h
end
end Mine
end

noncomputable section
open PySem PySem.W PyProof.Rows PySem.Calls
set_option maxHeartbeats 8000000
namespace Mine
section
variable {x y z : Str}
theorem root_b (hy : chs y = (rootL (chs x)).1) (hz : chs z = (rootL (chs x)).2) (hx : x.length ≤ 1000) : y.length ≤ 1000 ∧ z.length ≤ 1000 := by
  have := root_len (chs x)
  rw [← hy, ← hz, ← chs_len, ← chs_len, ← chs_len] at this
  omega
theorem ne_frame {h₀ h : Heap} {L a : Addr} {us : List Value} {n : Nat} {news : List (Addr × Obj)} (N : News h₀ L h news) (hm : (a, listOf us.toArray n) ∈ news) : a ≠ L := (N _ hm).2.1
theorem lt_tail {a : Addr × Obj} {l : List (Addr × Obj)} {D : Addr} (h : ∀ p ∈ a :: l, p.1 < D) : ∀ p ∈ l, p.1 < D := fun p hp => h p (.tail _ hp)
theorem hlt_of {nl D : Addr} {o : Obj} {news : List (Addr × Obj)} (h1 : @LT.lt Nat _ D nl) (h2 : ∀ p ∈ news, p.1 < D) : ∀ p ∈ (nl, o) :: news, p.1 ≠ D := by
  intro p hp
  rcases List.mem_cons.mp hp with rfl | hp
  · exact Nat.ne_of_gt h1
  · exact Nat.ne_of_lt (h2 p hp)
/-- what the loop keeps -/
def NpR (o : Bool) (ini body : List Nat) (i : Nat) (us : List Value) : Prop := Ks o us (((splitL body).take i).foldl (npStep ini) [])
theorem wt_take (ls : List (List Nat)) (i : Nat) : wt (ls.take i) ≤ wt ls := by
  have := wt_append (ls.take i) (ls.drop i)
  rw [List.take_append_drop] at this; omega
theorem wt_mem {ls : List (List Nat)} {i : Nat} {l : List Nat} (h : ls[i]? = some l) : l.length < wt ls := by
  induction ls generalizing i with
  | nil => simp at h
  | cons a r ih =>
    have e : wt (a :: r) = (a.length + 1) + wt r := by simp [wt]
    cases i with
    | zero => have : a = l := by simpa using h
              subst this; omega
    | succ i => have := ih (by simpa using h); omega
theorem np_turn {o : Bool} {ini body : List Nat} {i : Nat} {us : List Value} {l : List Nat} (hb : body.length ≤ 1000) (hl : (splitL body)[i]? = some l) (hR : NpR o ini body i us) :
    ∃ acc, l.length ≤ 1000 ∧ us.length ≤ 2000 ∧ Ks o us acc ∧ ∀ us', Ks o us' (npStep ini acc l) → NpR o ini body (i + 1) us' := by
  refine ⟨((splitL body).take i).foldl (npStep ini) [], ?_, ?_, hR, ?_⟩
  · have := wt_mem hl
    rw [wt_split] at this; omega
  · have h1 := Ks.len hR
    have h2 := wt_len (((splitL body).take i).foldl (npStep ini) [])
    have h3 := wt_fold ini ((splitL body).take i) []
    have h4 := wt_take (splitL body) i
    rw [wt_split] at h4
    have h5 : wt [] = 0 := rfl
    omega
  · intro us' h
    unfold NpR
    rw [List.take_add_one, hl]
    simpa using h
theorem str_item {l : List (Str × Tok)} {z : Str} {i : Nat} {v : Value} (e : l.map (·.1) = Txt.split z (Str.ofString "/")) (hv : (strValues l)[i]? = some v) :
    ∃ p t, v = .str p t ∧ (splitL (chs z))[i]? = some (chs p) := by
  unfold strValues at hv
  rw [List.getElem?_map] at hv
  cases h : l[i]? with
  | none => rw [h] at hv; simp at hv
  | some q =>
    rw [h] at hv
    refine ⟨q.1, q.2, by simpa using hv.symm, ?_⟩
    have h2 : (l.map (·.1))[i]? = some q.1 := by rw [List.getElem?_map, h]; rfl
    rw [← chs_split, List.getElem?_map, ← e, h2]; rfl
theorem vals_len {l : List (Str × Tok)} {z : Str} (e : l.map (·.1) = Txt.split z (Str.ofString "/")) : (strValues l).length = (splitL (chs z)).length := by
  rw [← chs_split, ← e]; simp [strValues]
theorem norm_turn {l : List (Str × Tok)} {z : Str} {i : Nat} {v : Value} {us : List Value} {ini body : List Nat} (e : l.map (·.1) = Txt.split z (Str.ofString "/")) (hz : chs z = body) (hb : z.length ≤ 1000) (hv : (strValues l)[i]? = some v) (hR : NpR false ini body i us) :
    ∃ p t acc, v = .str p t ∧ p.length ≤ 1000 ∧ us.length ≤ 2000 ∧ Ks false us acc ∧ ∀ us', Ks false us' (npStep ini acc (chs p)) → NpR false ini body (i + 1) us' := by
  obtain ⟨p, t, ev, hl⟩ := str_item e hv
  rw [hz] at hl
  obtain ⟨acc, h1, h2, h3, h4⟩ := np_turn (by rw [← hz, ← chs_len]; exact hb) hl hR
  exact ⟨p, t, acc, ev, by rw [chs_len]; exact h1, h2, h3, h4⟩
theorem norm_done {l : List (Str × Tok)} {z : Str} {us : List Value} {ini body : List Nat} (e : l.map (·.1) = Txt.split z (Str.ofString "/")) (hz : chs z = body) (hb : z.length ≤ 1000) (hR : NpR false ini body (strValues l).length us) :
    Ks false us ((splitL body).foldl (npStep ini) []) ∧ wt ((splitL body).foldl (npStep ini) []) ≤ 1001 := by
  unfold NpR at hR
  rw [vals_len e, hz, List.take_length] at hR
  refine ⟨hR, ?_⟩
  have h1 := wt_fold ini (splitL body) []
  have h2 := wt_split body
  have h3 : body.length ≤ 1000 := by rw [← hz, ← chs_len]; exact hb
  have h4 : wt [] = 0 := rfl
  omega
theorem kv_len {x : Str} {n : Int} (h : (x.length : Int) = 0) : chs x = [] := List.eq_nil_of_length_eq_zero (by rw [← chs_len]; omega)
end
section
variable {ini : List Nat} {acc : List (List Nat)} {us ys : List Value} {p q y : Str} {t u : Tok}
theorem norm_fin0 {x : Str} (h : (x.length : Int) = 0) : chs (Str.ofString ".") = npF (chs x) := by
  have : chs x = [] := List.eq_nil_of_length_eq_zero (by rw [← chs_len]; omega)
  rw [this, chs_dot]; rfl
theorem norm_fin1 {x r j : Str} (h : (x.length : Int) ≠ 0) (hr : chs r = (rootL (chs x)).1) (hj : chs j = joinL ((splitL (rootL (chs x)).2).foldl (npStep (rootL (chs x)).1) [])) (h2 : ((r ++ j).length : Int) ≠ 0) : chs (r ++ j) = npF (chs x) := by
  have h0 : chs x ≠ [] := fun e => h (by rw [chs_len, e]; rfl)
  have h3 : chs (r ++ j) ≠ [] := fun e => h2 (by rw [chs_len, e]; rfl)
  rw [chs_append, hr, hj] at h3
  unfold npF orDot
  rw [if_neg h0, if_neg h3, chs_append, hr, hj]
theorem norm_fin2 {x r j : Str} (h : (x.length : Int) ≠ 0) (hr : chs r = (rootL (chs x)).1) (hj : chs j = joinL ((splitL (rootL (chs x)).2).foldl (npStep (rootL (chs x)).1) [])) (h2 : ((r ++ j).length : Int) = 0) : chs (Str.ofString ".") = npF (chs x) := by
  have h0 : chs x ≠ [] := fun e => h (by rw [chs_len, e]; rfl)
  have h3 : chs (r ++ j) = [] := List.eq_nil_of_length_eq_zero (by rw [← chs_len]; omega)
  rw [chs_append, hr, hj] at h3
  unfold npF orDot
  rw [if_neg h0, if_pos h3, chs_dot]
theorem kvS (p : Str) (t : Tok) : Kv false (.str p t) (chs p) := ⟨p, t, rfl, rfl⟩
theorem np_A (hK : Ks false us acc) (h : (p.length : Int) = 0) : Ks false us (npStep ini acc (chs p)) := by
  have : chs p = [] := List.eq_nil_of_length_eq_zero (by rw [← chs_len]; omega)
  unfold npStep
  rw [if_pos (.inl this)]; exact hK
theorem np_B (hK : Ks false us acc) (h : (p == Str.ofString ".") = true) : Ks false us (npStep ini acc (chs p)) := by
  rw [chs_beq, chs_dot] at h
  unfold npStep
  rw [if_pos (.inr (by simpa using h))]; exact hK
theorem np_not (h : (p.length : Int) ≠ 0) (h2 : (p == Str.ofString ".") = false) : ¬ (chs p = [] ∨ chs p = [46]) := by
  rw [chs_beq, chs_dot] at h2
  rintro (e | e)
  · exact h (by rw [chs_len, e]; rfl)
  · rw [e] at h2; simp at h2
theorem np_C (hK : Ks false us acc) (h : (p.length : Int) ≠ 0) (h2 : (p == Str.ofString ".") = false) (h3 : (p != Str.ofString "..") = true) : Ks false (us ++ [.str p t]) (npStep ini acc (chs p)) := by
  rw [chs_bne, chs_dots] at h3
  unfold npStep
  rw [if_neg (np_not h h2), if_pos (.inl (by simpa using h3))]
  exact Ks.snoc (kvS p t) hK
theorem np_D (hK : Ks false [] acc) (h : (p.length : Int) ≠ 0) (h2 : (p == Str.ofString ".") = false) (hi : chs y = ini) (h4 : (y.length : Int) = 0) : Ks false [.str p t] (npStep ini acc (chs p)) := by
  have ha := Ks.nil hK
  have : ini = [] := by rw [← hi]; exact List.eq_nil_of_length_eq_zero (by rw [← chs_len]; omega)
  unfold npStep
  rw [if_neg (np_not h h2), if_pos (.inr (.inl ⟨this, ha⟩))]
  exact Ks.snoc (kvS p t) hK
theorem np_E (hK : Ks false ys acc) (h : (p.length : Int) ≠ 0) (h2 : (p == Str.ofString ".") = false) (h5 : (q == Str.ofString "..") = true) : Ks false ((ys ++ [.str q u]) ++ [.str p t]) (npStep ini (acc ++ [chs q]) (chs p)) := by
  rw [chs_beq, chs_dots] at h5
  unfold npStep
  rw [if_neg (np_not h h2), if_pos (.inr (.inr ⟨by simp, by rw [List.getLast?_append]; simpa using h5⟩))]
  exact Ks.snoc (kvS p t) (Ks.snoc (kvS q u) hK)
theorem np_F (hK : Ks false ys acc) (h : (p.length : Int) ≠ 0) (h2 : (p == Str.ofString ".") = false) (h3 : (p != Str.ofString "..") = false) (h5 : (q == Str.ofString "..") = false) : Ks false ys (npStep ini (acc ++ [chs q]) (chs p)) := by
  rw [chs_bne, chs_dots] at h3
  rw [chs_beq, chs_dots] at h5
  have h3' : chs p = [46, 46] := by simpa using h3
  have h5' : chs q ≠ [46, 46] := by simpa using h5
  unfold npStep
  rw [if_neg (np_not h h2), if_neg, List.dropLast_concat]
  · exact hK
  · rintro (e | ⟨_, e⟩ | ⟨_, e⟩)
    · exact e h3'
    · simp at e
    · rw [List.getLast?_append] at e; simp at e; exact h5' e
theorem np_G (hK : Ks false [] acc) (h : (p.length : Int) ≠ 0) (h2 : (p == Str.ofString ".") = false) (h3 : (p != Str.ofString "..") = false) (hi : chs y = ini) (h4 : (y.length : Int) ≠ 0) : Ks false [] (npStep ini acc (chs p)) := by
  have ha := Ks.nil hK
  subst ha
  rw [chs_bne, chs_dots] at h3
  have h3' : chs p = [46, 46] := by simpa using h3
  have : ini ≠ [] := by rw [← hi]; intro e; exact h4 (by rw [chs_len, e]; rfl)
  unfold npStep
  rw [if_neg (np_not h h2), if_neg (by simp [h3', this])]
  exact hK
end
section
variable {prog : Program} {w : World} {A : Around} {E : Value → Shared → Prop} {s : Shared} {h₀ : Heap} {L nl : Addr} {news : List (Addr × Obj)} {us : List Value} {c : Nat} {acc : List (List Nat)}
theorem off_ne {own news : List (Addr × Obj)} {nl D : Addr} (hoff : OwnOff own (nl :: news.map (·.1))) (h2 : ∀ p ∈ news, p.1 < D) (h1 : @LT.lt Nat _ D nl) : ∀ p ∈ news ++ own, p.1 ≠ nl := by
  intro p hp
  rcases List.mem_append.mp hp with hp | hp
  · exact Nat.ne_of_lt (Nat.lt_trans (h2 p hp) h1)
  · exact hoff p hp nl (.head _)
theorem lst_append {m : Str → Option Value} {v : Value} {news : List (Addr × Obj)} {Q : Value → Shared → Prop} (F : Fr h₀ L s.heap m) (N : News h₀ L s.heap ((nl, listOf us.toArray c) :: news)) (ha : ∀ p ∈ news, p.1 ≠ nl) (hz : us.length ≤ 100000)
    (h : ∀ h', Fr h₀ L h' m → News h₀ L h' ((nl, listOf (us ++ [v]).toArray (c + 1)) :: news) → Q .none { s with heap := h' }) : wpAny (model prog w) A (call (.builtin "list.append") [.ref nl, v]) Q E s := by
  have e : us.toArray.push v = (us ++ [v]).toArray := by simp
  exact append_K F N (Upd.head ha) (fun h' F' N' => h h' F' (e ▸ N')) (by rw [List.size_toArray, sizeLine_eq]; omega)
theorem nrm_end {R : List Value → Prop} {x : Str} {news own : List (Addr × Obj)} {m₀ m' : Str → Option Value} {s₁ : Shared} {h' : Heap} {tk c' : Nat} {us' : List Value} (F : Fr h₀ L h' m') (N : News h₀ L h' ((nl, listOf us'.toArray c') :: (news ++ own))) (hs : ∀ z, z ≠ x → m' z = m₀ z) (hR : R us') :
    InvEndN h₀ L (fun m' nx => (∃ us' c', nx = (nl, listOf us'.toArray c') :: news ∧ R us') ∧ ∀ z, z ≠ x → m' z = m₀ z) own (nl :: news.map (·.1)) s₁ { s₁ with heap := h', toks := tk } := by
  refine InvEndN.intro (nx := (nl, listOf us'.toArray c') :: news) F N ⟨⟨us', c', rfl, hR⟩, hs⟩ rfl ?_ ?_
  · intro p hp
    rcases List.mem_cons.mp hp with rfl | hp
    · exact .head _
    · exact .tail _ (List.mem_append_left _ hp)
  · exact fun p hp => .tail _ (List.mem_append_right _ hp)
theorem lstS_truthy {Q : Bool → Shared → Prop} (N : News h₀ L s.heap news) (hm : (nl, listOf us.toArray c) ∈ news) (hz : us.length ≤ 2000) (hK : Ks false us acc)
    (h0 : us = [] → Q false { s with toks := s.toks + 1 + 1 }) (h1 : ∀ ys q u acc', us = ys ++ [.str q u] → acc = acc' ++ [chs q] → Ks false ys acc' → Q true { s with toks := s.toks + 1 + 1 }) : wpAny (model prog w) A (truthy (.ref nl)) Q E s := by
  refine lst_truthy N hm (by omega) h0 fun ys y e => ?_
  subst e
  obtain ⟨ls, l, e2, h2, h3⟩ := Ks.unsnoc hK
  obtain ⟨q, u, e3, e4⟩ := h3
  subst e3 e4
  exact h1 ys q u ls rfl e2 h2
theorem lstS_truthyC {Q : Bool → Shared → Prop} {y : Value} (N : News h₀ L s.heap news) (hm : (nl, listOf (us ++ [y]).toArray c) ∈ news) (hz : (us ++ [y]).length ≤ 2000)
    (h1 : Q true { s with toks := s.toks + 1 + 1 }) : wpAny (model prog w) A (truthy (.ref nl)) Q E s :=
  lst_truthy N hm (by omega) (fun e => absurd e (by simp)) fun _ _ _ => h1
theorem lstS_truthy0 {Q : Bool → Shared → Prop} (N : News h₀ L s.heap news) (hm : (nl, listOf ([] : List Value).toArray c) ∈ news)
    (h1 : Q false { s with toks := s.toks + 1 + 1 }) : wpAny (model prog w) A (truthy (.ref nl)) Q E s :=
  lst_truthy N hm (by simp) (fun _ => h1) fun ys y e => absurd e (by simp)
theorem strs_of_ks : ∀ {us : List Value} {ls : List (List Nat)}, Ks false us ls → ∃ l : List (Str × Tok), us = strValues l ∧ l.map (fun p => chs p.1) = ls
  | [], [], _ => ⟨[], rfl, rfl⟩
  | _ :: us, _ :: ls, ⟨⟨x, t, e1, e2⟩, h⟩ => by
    obtain ⟨l, e3, e4⟩ := strs_of_ks (us := us) (ls := ls) h
    exact ⟨(x, t) :: l, by rw [e1, e3]; rfl, by rw [← e2, ← e4]; rfl⟩
theorem sum_wt (l : List (Str × Tok)) : ((l.map (·.1)).map (·.length)).sum + (l.map (·.1)).length = wt (l.map fun p => chs p.1) := by
  induction l with
  | nil => rfl
  | cons a r ih =>
    have e : wt ((a :: r).map fun p => chs p.1) = ((chs a.1).length + 1) + wt (r.map fun p => chs p.1) := by simp [wt]
    rw [e, ← ih, ← chs_len]; simp; omega
theorem lstS_join {t : Tok} {Q : Value → Shared → Prop} (hN : News h₀ L s.heap news) (hm : (nl, listOf us.toArray c) ∈ news) (hK : Ks false us acc) (hw : wt acc ≤ 2000)
    (h : ∀ y t' k, chs y = joinL acc → y.length ≤ 2000 → Q (.str y t') { s with toks := k }) : wpAny (model prog w) A (call (.builtin "str.join") [.str (Str.ofString "/") t, .ref nl]) Q E s := by
  obtain ⟨l, e1, e2⟩ := strs_of_ks hK
  subst e1
  have hl : s.heap.IsList nl (strValues l).toArray := ⟨_, (hN _ hm).1, rfl, c, rfl⟩
  have hok : JoinOk (Str.ofString "/") (l.map (·.1)) = true := by
    unfold JoinOk
    rw [StrLaws.joinTotal]
    have h1 : (Str.ofString "/").length = 1 := by rw [lit_slash]; rfl
    have h2 := sum_wt l
    rw [e2] at h2
    have h3 : ((l.map (·.1)).map (·.length)).sum + (l.map (·.1)).length * (Str.ofString "/").length ≤ 2000 := by rw [h1]; omega
    have h4 : Builtin.Str.tooLong (((l.map (·.1)).map (·.length)).sum + (l.map (·.1)).length * (Str.ofString "/").length) = false := by
      unfold Builtin.Str.tooLong
      rw [sizeLine_eq]
      exact decide_eq_false (by omega)
    rw [h4]; rfl
  have hc : chs (Txt.join (Str.ofString "/") (l.map (·.1))) = joinL acc := by rw [chs_Tjoin, ← e2, List.map_map]; rfl
  refine SC.join hl rfl hok fun t' k => h _ t' k hc ?_
  rw [chs_len, hc]
  exact Nat.le_trans (joinL_len acc) hw
end
local macro_rules | `(tactic| walk_at "call ref") => `(tactic| (k_here; (with_reducible show wpAny _ _ (call (Value.ref 94) [Value.str _ _]) _ _ _); k_dflt (refine' Con.use (fspath_str _ _ _ _ _ _) ?k1 ?k2 ?k3 ?k4 ?k5 ?kK ?kd ?ku ?_; (case k1 => k_asm); (case k2 => k_asm); (case k3 => k_asm); (case k4 => k_asm); (case k5 => k_asm); (case kK => first | exact rfl | assumption); (case kd => ktr_room); (case ku => ktr_units); intro v9 h9 tk9 hR9 F9 N9; subst hR9; (try dsimp only); (try k_fold))))
local macro_rules | `(tactic| walk_at "call ref") => `(tactic| (k_here; (with_reducible show wpAny _ _ (call (Value.ref 94) [Value.bytes _ _]) _ _ _); k_dflt (refine' Con.use (fspath_bytes _ _ _ _ _ _) ?k1 ?k2 ?k3 ?k4 ?k5 ?kK ?kd ?ku ?_; (case k1 => k_asm); (case k2 => k_asm); (case k3 => k_asm); (case k4 => k_asm); (case k5 => k_asm); (case kK => first | exact rfl | assumption); (case kd => ktr_room); (case ku => ktr_units); intro v9 h9 tk9 hR9 F9 N9; subst hR9; (try dsimp only); (try k_fold))))
local macro_rules | `(tactic| walk_at "call ref") => `(tactic| (k_here; (with_reducible show wpAny _ _ (call (Value.ref 108) [Value.str _ _]) _ _ _); k_dflt (refine' Con.use (sep_str _ _ _ _ _ _) ?k1 ?k2 ?k3 ?k4 ?k5 ?kK ?kd ?ku ?_; (case k1 => k_asm); (case k2 => k_asm); (case k3 => k_asm); (case k4 => k_asm); (case k5 => k_asm); (case kK => first | exact rfl | assumption); (case kd => ktr_room); (case ku => ktr_units); intro v9 h9 tk9 hR9 F9 N9; obtain ⟨t9, e9⟩ := hR9; subst e9; (try dsimp only); (try k_fold))))
local macro_rules | `(tactic| walk_at "call ref") => `(tactic| (k_here; (with_reducible show wpAny _ _ (call (Value.ref 108) [Value.bytes _ _]) _ _ _); k_dflt (refine' Con.use (sep_bytes _ _ _ _ _ _) ?k1 ?k2 ?k3 ?k4 ?k5 ?kK ?kd ?ku ?_; (case k1 => k_asm); (case k2 => k_asm); (case k3 => k_asm); (case k4 => k_asm); (case k5 => k_asm); (case kK => first | exact rfl | assumption); (case kd => ktr_room); (case ku => ktr_units); intro v9 h9 tk9 hR9 F9 N9; obtain ⟨t9, e9⟩ := hR9; subst e9; (try dsimp only); (try k_fold))))
local macro_rules | `(tactic| walk_at "call ref") => `(tactic| (k_here; (with_reducible show wpAny _ _ (call (Value.ref 129) [Value.str _ _]) _ _ _); k_dflt (refine' ConT.use (split_str _ _ _ _ _ _ ?kx) ?k1 ?k2 ?k3 ?k4 ?k5 ?kK ?kd ?ku ?_; (case k1 => k_asm); (case k2 => k_asm); (case k3 => k_asm); (case k4 => k_asm); (case k5 => k_asm); (case kK => first | exact rfl | assumption); (case kd => ktr_room); (case ku => ktr_units); (case kx => assumption); intro D9 v1 v2 v3 h9 tk9 hR9 F9 N9 l9; obtain ⟨e9, t1, y9, t2, z9, t3, q1, q2, q3, hy9, hz9⟩ := hR9; subst q1 q2 q3; (have hb9 := root_b hy9 hz9 (by assumption)); obtain ⟨hby9, hbz9⟩ := hb9; (try dsimp only); (try k_fold))))
local macro_rules | `(tactic| walk_at "call builtin:str.split nil") => `(tactic| (k_here; (with_reducible show wpAny _ _ (call (Value.builtin "str.split") _) _ _ _); k_dflt (refine' KSpl.split1 ?k1 ?k2 ?k3 ?_ ?k5; (case k1 => k_asm); (case k2 => k_asm); (case k3 => decide +kernel); (case k5 => (rw [sizeLine_eq]; omega))); intro D9 l9 h9 k9 e9 a9 F9 N9 lt9; (have ltn9 := lt_tail lt9)))
local macro_rules | `(tactic| walk_at "exec For Name Name cons nil") => `(tactic| (k_here; (rename Fr _ _ _ _ => lF'); (with_unfolding_all refine' For_invVF lF' ?k1 ?k2 ?_; (case k1 => exact rfl); (case k2 => exact rfl); k_whole)))
local macro_rules | `(tactic| walk_at "truthy ref") => `(tactic| (k_here; (with_reducible show wpAny _ _ (truthy (Value.ref _)) _ _ _); k_dflt (first
  | (refine' lstS_truthy0 ?k1 ?k2 ?_; (case k1 => k_asm); (case k2 => k_mem); k_whole)
  | (refine' lstS_truthyC ?k1 ?k2 ?k3 ?_; (case k1 => k_asm); (case k2 => k_mem); (case k3 => assumption); k_whole)
  | ((with_reducible rename Ks _ _ _ => hK9); refine' lstS_truthy ?k1 ?k2 ?k3 hK9 ?_ ?_; (case k1 => k_asm); (case k2 => k_mem); (case k3 => assumption); (all_goals k_whole); (intro e9; subst e9); rotate_left; (intro ys9 q9 u9 a9 e9 ea9 hy9; subst e9; subst ea9); rotate_left))))
local macro_rules | `(tactic| walk_at "subscriptTail") => `(tactic| (k_here; (with_reducible show wpAny _ _ (subscriptTail _ _ (Value.ref _) (Value.int _ _)) _ _ _); k_dflt (refine' lst_last ?k1 ?k2 ?_; (case k1 => k_asm); (case k2 => k_mem); k_whole)))
local macro_rules | `(tactic| walk_at "call builtin:list.pop cons nil") => `(tactic| (k_here; (with_reducible show wpAny _ _ (call (Value.builtin _) [Value.ref _]) _ _ _); k_dflt (refine' lst_pop ?k1 ?k2 ?k3 ?k4 ?_; (case k1 => k_asm); (case k2 => k_asm); (case k3 => assumption); (case k4 => ((simp only [List.length_append, List.length_cons, List.length_nil] at *); omega)); k_whole); intro h' F' N'; (try k_sweep)))
local macro_rules | `(tactic| walk_at "call builtin:list.append nil") => `(tactic| (k_here; (with_reducible show wpAny _ _ (call (Value.builtin _) _) _ _ _); k_dflt (refine' lst_append ?k1 ?k2 ?k3 ?k4 ?_; (case k1 => k_asm); (case k2 => k_asm); (case k3 => assumption); (case k4 => omega); k_whole); intro h' F' N'; (try k_sweep)))
local macro_rules | `(tactic| walk_at "call builtin:str.join nil") => `(tactic| (k_here; (with_reducible show wpAny _ _ (call (Value.builtin "str.join") _) _ _ _); (with_reducible rename Ks _ _ _ => hK9); k_dflt (refine' lstS_join ?k1 ?k2 hK9 ?k4 ?_; (case k1 => k_asm); (case k2 => k_mem); (case k4 => omega); k_whole); intro y9 t9 k9 hj9 hl9))
theorem norm_str (w : World) (mean : ExcName → Option Value) (mg mb : Str → Option Value) (x : Str) (t : Tok) (hx : x.length ≤ 1000) :
    Con w mean mg mb 143 3 [.str x t] (fun v => ∃ y t, v = .str y t ∧ chs y = npF (chs x)) := by
  k_with "pyIter ref" => ((rename Fr _ _ _ _ => lF'); (rename News _ _ _ _ => lN'); (with_unfolding_all refine' for_vals (news := news) (NpR false (rootL (chs x)).1 (rootL (chs x)).2) (by rfl) lF' ?kl ?kL ?kN ?kh ?kr ?_ ?_); (case kN => exact cb_drop lN' (by kcj_all)); (case kl => exact News.isList lN' (by k_mem)); (case kL => exact ne_frame lN' (by k_mem)); (case kh => exact hlt_of (by omega) (by assumption)); (case kr => exact trivial); (all_goals (try clear lF' lN')); intro i8 v8 us8 c8 h8 tk8 own8 hv8 off8 hR8 F8 N8; obtain ⟨p8, t8, acc8, ev8, hp8, hus8, hK8, hstep8⟩ := norm_turn (by assumption) (by assumption) (by assumption) hv8 hR8; subst ev8; (have hne8 := off_ne off8 (by assumption) (by omega)); (try k_fold); rotate_left; intro u8 us8 c8 h8 tk8 hR8 F8 N8; (have hd8 := norm_done (by assumption) (by assumption) (by assumption) hR8); obtain ⟨hK8, hw8⟩ := hd8; (try k_fold); rotate_left)
  k_with "InvEndN" => ((refine' nrm_end ?k1 ?k2 ?k3 ?k4); (case k1 => assumption); (case k2 => assumption); (case k3 => (intro z h1; simp [h1])); (case k4 => (refine hstep8 _ ?_; first
    | with_reducible exact np_A hK8 (by with_reducible assumption)
    | with_reducible exact np_B hK8 (by with_reducible assumption)
    | with_reducible exact np_C hK8 (by with_reducible assumption) (by with_reducible assumption) (by with_reducible assumption)
    | exact np_D (by with_reducible assumption) (by with_reducible assumption) (by with_reducible assumption) (by with_reducible assumption) (by with_reducible assumption)
    | with_reducible exact np_E (by with_reducible assumption) (by with_reducible assumption) (by with_reducible assumption) (by with_reducible assumption)
    | with_reducible exact np_F (by with_reducible assumption) (by with_reducible assumption) (by with_reducible assumption) (by with_reducible assumption) (by with_reducible assumption)
    | exact np_G (by with_reducible assumption) (by with_reducible assumption) (by with_reducible assumption) (by with_reducible assumption) (by with_reducible assumption) (by with_reducible assumption))))
  w_on
  unfold Con
  k_fill
  intro news dp un gd cn cs a ccd cl outer A₀ base h₀ L m s Q E B F X N T hk hd hu hret
  refine wpAny_call ?_
  k_dflt cell_enter
  k_steps
  · exact hret _ _ _ ⟨_, _, rfl, norm_fin1 (by with_reducible assumption) (by with_reducible assumption) (by with_reducible assumption) (by with_reducible assumption)⟩ (by k_asm) (cb_drop (by assumption) (by kcj_all))
  · exact hret _ _ _ ⟨_, _, rfl, norm_fin2 (by with_reducible assumption) (by with_reducible assumption) (by with_reducible assumption) (by with_reducible assumption)⟩ (by k_asm) (cb_drop (by assumption) (by kcj_all))
  · exact hret _ _ _ ⟨_, _, rfl, norm_fin0 (by with_reducible assumption)⟩ (by k_asm) (by k_asm)
end Mine
end

noncomputable section
open PySem PySem.W PyProof.Rows PySem.Calls PySem.Builtin
set_option maxHeartbeats 1000000
namespace Mine
/-! bytes: methods with the one separator b'/' -/
def bys (b : Array UInt8) : List Nat := b.toList.map (·.toNat)
theorem bys_len (b : Array UInt8) : b.size = (bys b).length := by simp [bys]
theorem bys_inj {b c : Array UInt8} (h : bys b = bys c) : b = c := by
  unfold bys at h
  have := (List.map_inj_right (f := fun x : UInt8 => x.toNat) (fun a b h => UInt8.toNat_inj.mp h)).mp h
  exact Array.toList_inj.mp this

theorem slot_rfind : Slot "bytes" "rfind" "bytes.rfind" :=
  .of (owner := "bytes") (n := "rfind") (by rw [typeLookup_type, builtinLookup_eq_fast]; kernel_rfl) (by decide +kernel) (by decide +kernel) (by decide +kernel)
    (by first | exact .inl (by decide +kernel) | exact .inr (by decide +kernel)) (by rw [isSubtype_type]; kernel_rfl)
theorem type_rfind : typeOf (.builtin "bytes.rfind") = pure (.type "method_descriptor") := by show builtinType _ = _; rw [builtinType_eq_fast]; kernel_rfl
theorem entry_rfind : entryFor table "bytes.rfind" = some Builtin.«bytes.rfind» := entryFor_of_tree (by kernel_rfl)
theorem args_rfind (a b : Value) : argsOk "bytes.rfind" ⟨[a, b], []⟩ := by
  unfold argsOk; rw [signature?_of (id := "bytes.rfind") (n := ['d', 'n', 'i', 'f', 'r']) (o := ['s', 'e', 't', 'y', 'b']) (by kernel_rfl) FB.owner_bytes]; kernel_rfl
theorem slot_split : Slot "bytes" "split" "bytes.split" :=
  .of (owner := "bytes") (n := "split") (by rw [typeLookup_type, builtinLookup_eq_fast]; kernel_rfl) (by decide +kernel) (by decide +kernel) (by decide +kernel)
    (by first | exact .inl (by decide +kernel) | exact .inr (by decide +kernel)) (by rw [isSubtype_type]; kernel_rfl)
theorem type_split : typeOf (.builtin "bytes.split") = pure (.type "method_descriptor") := by show builtinType _ = _; rw [builtinType_eq_fast]; kernel_rfl
theorem entry_split : entryFor table "bytes.split" = some Builtin.«bytes.split» := entryFor_of_tree (by kernel_rfl)
theorem args_split (a b : Value) : argsOk "bytes.split" ⟨[a, b], []⟩ := by
  unfold argsOk; rw [signature?_of (id := "bytes.split") (n := ['t', 'i', 'l', 'p', 's']) (o := ['s', 'e', 't', 'y', 'b']) (by kernel_rfl) FB.owner_bytes]; kernel_rfl
theorem slot_rstrip : Slot "bytes" "rstrip" "bytes.rstrip" :=
  .of (owner := "bytes") (n := "rstrip") (by rw [typeLookup_type, builtinLookup_eq_fast]; kernel_rfl) (by decide +kernel) (by decide +kernel) (by decide +kernel)
    (by first | exact .inl (by decide +kernel) | exact .inr (by decide +kernel)) (by rw [isSubtype_type]; kernel_rfl)
theorem type_rstrip : typeOf (.builtin "bytes.rstrip") = pure (.type "method_descriptor") := by show builtinType _ = _; rw [builtinType_eq_fast]; kernel_rfl
theorem entry_rstrip : entryFor table "bytes.rstrip" = some Builtin.«bytes.rstrip» := entryFor_of_tree (by kernel_rfl)
theorem args_rstrip (a b : Value) : argsOk "bytes.rstrip" ⟨[a, b], []⟩ := by
  unfold argsOk; rw [signature?_of (id := "bytes.rstrip") (n := ['p', 'i', 'r', 't', 's', 'r']) (o := ['s', 'e', 't', 'y', 'b']) (by kernel_rfl) FB.owner_bytes]; kernel_rfl
theorem slot_join : Slot "bytes" "join" "bytes.join" :=
  .of (owner := "bytes") (n := "join") (by rw [typeLookup_type, builtinLookup_eq_fast]; kernel_rfl) (by decide +kernel) (by decide +kernel) (by decide +kernel)
    (by first | exact .inl (by decide +kernel) | exact .inr (by decide +kernel)) (by rw [isSubtype_type]; kernel_rfl)
theorem type_join : typeOf (.builtin "bytes.join") = pure (.type "method_descriptor") := by show builtinType _ = _; rw [builtinType_eq_fast]; kernel_rfl
theorem entry_join : entryFor table "bytes.join" = some Builtin.«bytes.join» := entryFor_of_tree (by kernel_rfl)
theorem args_join (a b : Value) : argsOk "bytes.join" ⟨[a, b], []⟩ := by
  unfold argsOk; rw [signature?_of (id := "bytes.join") (n := ['n', 'i', 'o', 'j']) (o := ['s', 'e', 't', 'y', 'b']) (by kernel_rfl) FB.owner_bytes]; kernel_rfl

section
variable {b : Array UInt8} {t u : Tok}
theorem not_tuple : isInstance (.bytes b t) (.type "tuple") = pure false := by
  have e : isInstance (.bytes b t) (.type "tuple") = isSubtype (.type "bytes") (.type "tuple") := rfl
  rw [e, isSubtype_type]; kernel_rfl
def startsB (b c : Array UInt8) : Bool := if (min (b.size : Int) (b.size : Int)) - 0 < c.size then false else b.extract (0 : Int).toNat ((0 : Int).toNat + c.size) == c
def endsB (b c : Array UInt8) : Bool := if (min (b.size : Int) (b.size : Int)) - 0 < c.size then false else b.extract ((min (b.size : Int) (b.size : Int)).toNat - c.size) (min (b.size : Int) (b.size : Int)).toNat == c
theorem window_none (n : Nat) : Bytes.window n none none = (0, min (n : Int) n) := by
  unfold Bytes.window
  have h : ¬ ((n : Int) < 0) := by omega
  simp [h]
theorem gives_starts (b c : Array UInt8) (t u : Tok) : Gives («bytes.startswith» ⟨[.bytes b t, .bytes c u], []⟩) (.val (.bool (startsB b c))) := by
  refine .of_wp fun M A E s Q hq => ?_
  show wpAny M A (Bytes.tailMatchM .bytes "startswith" false ⟨[.bytes b t, .bytes c u], []⟩) _ E s
  unfold Bytes.tailMatchM
  refine wpAny_bind (wpAny_of_eq (a := (Value.bytes b t, [Value.bytes c u])) rfl ?_)
  refine wpAny_bind (wpAny_of_eq (a := none) rfl ?_)
  refine wpAny_bind (wpAny_of_eq (a := none) rfl ?_)
  refine wpAny_bind (wpAny_of_eq (a := b) rfl ?_)
  dsimp only
  rw [window_none]
  dsimp only
  refine wpAny_bind (wpAny_of_eq (a := false) not_tuple ?_)
  refine wpAny_bind (wpAny_of_eq KBy.buffer_eq ?_)
  exact wpAny_pure ⟨_, rfl, hq⟩
theorem gives_ends (b c : Array UInt8) (t u : Tok) : Gives («bytes.endswith» ⟨[.bytes b t, .bytes c u], []⟩) (.val (.bool (endsB b c))) := by
  refine .of_wp fun M A E s Q hq => ?_
  show wpAny M A (Bytes.tailMatchM .bytes "endswith" true ⟨[.bytes b t, .bytes c u], []⟩) _ E s
  unfold Bytes.tailMatchM
  refine wpAny_bind (wpAny_of_eq (a := (Value.bytes b t, [Value.bytes c u])) rfl ?_)
  refine wpAny_bind (wpAny_of_eq (a := none) rfl ?_)
  refine wpAny_bind (wpAny_of_eq (a := none) rfl ?_)
  refine wpAny_bind (wpAny_of_eq (a := b) rfl ?_)
  dsimp only
  rw [window_none]
  dsimp only
  refine wpAny_bind (wpAny_of_eq (a := false) not_tuple ?_)
  refine wpAny_bind (wpAny_of_eq KBy.buffer_eq ?_)
  exact wpAny_pure ⟨_, rfl, hq⟩
def rfindB (b c : Array UInt8) : Int := match (if (min (b.size : Int) (b.size : Int)) - 0 < c.size then none else some ((0 : Int).toNat, (min (b.size : Int) (b.size : Int)).toNat)).bind (fun (lo, hi) => Bytes.rfind? b c lo hi) with
  | some i => (i : Int)
  | none => -1
theorem gives_rfind (b c : Array UInt8) (t u : Tok) : Gives («bytes.rfind» ⟨[.bytes b t, .bytes c u], []⟩) (.int (rfindB b c)) := by
  refine .of_wp fun M A E s Q hq => ?_
  show wpAny M A (Bytes.searchM .bytes "rfind" true false ⟨[.bytes b t, .bytes c u], []⟩) _ E s
  unfold Bytes.searchM Bytes.searchArgs
  refine wpAny_bind ?_
  refine wpAny_bind (wpAny_of_eq (a := (Value.bytes b t, [Value.bytes c u])) rfl ?_)
  refine wpAny_bind (wpAny_of_eq (a := none) rfl ?_)
  refine wpAny_bind (wpAny_of_eq (a := none) rfl ?_)
  refine wpAny_bind (wpAny_of_eq KBy.buffer_eq ?_)
  dsimp only
  refine wpAny_bind (wpAny_pure ?_)
  refine wpAny_bind (wpAny_of_eq (a := b) rfl ?_)
  rw [window_none]
  refine wpAny_pure ?_
  dsimp only
  unfold rfindB at hq
  dsimp only at hq
  cases h : (if (min (b.size : Int) (b.size : Int)) - 0 < c.size then none else some ((0 : Int).toNat, (min (b.size : Int) (b.size : Int)).toNat)).bind (fun (x : Nat × Nat) => Bytes.rfind? b c x.1 x.2) with
  | some i =>
    have h' : ((if (min (b.size : Int) (b.size : Int)) - 0 < c.size then none else some ((0 : Int).toNat, (min (b.size : Int) (b.size : Int)).toNat)).bind (fun (lo, hi) => Bytes.rfind? b c lo hi)) = some i := h
    rw [h'] at hq
    show wpAny M A (match (if (min (b.size : Int) (b.size : Int)) - 0 < c.size then none else some ((0 : Int).toNat, (min (b.size : Int) (b.size : Int)).toNat)).bind (fun (x : Nat × Nat) => Bytes.rfind? b c x.1 x.2) with | some i => _ | none => _) _ E s
    rw [h]
    exact wpAny_bind (wpAny_mkInt (wpAny_pure ⟨_, rfl, hq⟩))
  | none =>
    have h' : ((if (min (b.size : Int) (b.size : Int)) - 0 < c.size then none else some ((0 : Int).toNat, (min (b.size : Int) (b.size : Int)).toNat)).bind (fun (lo, hi) => Bytes.rfind? b c lo hi)) = none := h
    rw [h'] at hq
    show wpAny M A (match (if (min (b.size : Int) (b.size : Int)) - 0 < c.size then none else some ((0 : Int).toNat, (min (b.size : Int) (b.size : Int)).toNat)).bind (fun (x : Nat × Nat) => Bytes.rfind? b c x.1 x.2) with | some i => _ | none => _) _ E s
    rw [h]
    exact wpAny_bind (wpAny_rule (wpAny_bind (wpAny_mkInt (wpAny_pure ⟨_, rfl, hq⟩))))
def keptR (b c : Array UInt8) : List UInt8 := (b.toList.reverse.dropWhile c.contains).reverse
theorem gives_rstrip (b c : Array UInt8) (t u : Tok) : Gives («bytes.rstrip» ⟨[.bytes b t, .bytes c u], []⟩) (if ((keptR b c).length == b.size) = true then .val (.bytes b t) else .bytes (keptR b c).toArray) := by
  refine .of_wp fun M A E s Q hq => ?_
  show wpAny M A (Bytes.stripM .bytes "rstrip" false true ⟨[.bytes b t, .bytes c u], []⟩) _ E s
  unfold Bytes.stripM
  refine wpAny_bind (wpAny_of_eq (a := (Value.bytes b t, [Value.bytes c u])) rfl ?_)
  dsimp only
  refine wpAny_bind (wpAny_of_eq KBd.like_eq (wpAny_bind (wpAny_pure ?_)))
  refine wpAny_bind (wpAny_of_eq (a := b) rfl ?_)
  show wpAny M A (if ((keptR b c).length == b.size) = true then _ else _) _ E s
  by_cases h : ((keptR b c).length == b.size) = true
  · rw [if_pos h] at hq ⊢
    refine wpAny_bind (wpAny_rule (wpAny_bind ?_))
    refine wpAny_of_eq (a := Value.bytes b t) ?_ (wpAny_pure ⟨_, rfl, hq⟩)
    rfl
  · rw [if_neg h] at hq ⊢
    exact wpAny_bind (wpAny_mkBytes (wpAny_pure ⟨_, rfl, hq.2⟩) hq.1)
end


theorem bind_split (c : Array UInt8) (u : Tok) (id : String) : Bytes.bindOptional id "split" ["sep", "maxsplit"] [Value.bytes c u] [] = pure [some (Value.bytes c u), none] := by
  rfl
/-- the parts as values -/
def byVals (ps : List (Array UInt8 × Tok)) : List Value := ps.map fun p => .bytes p.1 p.2
theorem wpAny_mapBytes {prog : Program} {w : World} {A : Around} {E : Value → Shared → Prop} : ∀ (ps : List (Array UInt8)) (s : Shared) (Q : List Value → Shared → Prop), (∀ p ∈ ps, p.size ≤ sizeLine) →
    (∀ qs k, qs.map (·.1) = ps → Q (byVals qs) { s with toks := k }) → wpAny (model prog w) A (ps.mapM Bytes.Kind.bytes.new) Q E s
  | [], s, Q, _, h => by
    rw [List.mapM_nil]
    exact wpAny_pure (h [] s.toks rfl)
  | p :: r, s, Q, hz, h => by
    rw [List.mapM_cons]
    refine wpAny_bind (wpAny_mkBytes ?_ (hz p (.head _)))
    refine wpAny_bind (wpAny_mapBytes r _ _ (fun q hq => hz q (.tail _ hq)) fun qs k e => ?_)
    exact wpAny_pure (h ((p, s.toks) :: qs) k (by rw [List.map_cons, e]))
def splitB (b c : Array UInt8) : List (Array UInt8) := if (((Bytes.occurrences b c 0 b.size).take (b.size + 1)).isEmpty) = true then [b] else Bytes.between b c.size ((Bytes.occurrences b c 0 b.size).take (b.size + 1))
theorem meets_split (b c : Array UInt8) (t u : Tok) (hc : c.isEmpty = false) (hz : ∀ p ∈ splitB b c, p.size ≤ sizeLine) (hn : (splitB b c).length ≤ sizeLine) :
    Meets («bytes.split» ⟨[.bytes b t, .bytes c u], []⟩) (fun _ R s => ∀ qs k, qs.map (·.1) = splitB b c → R (.ok (.ret (.ref s.heap.objs.size))) { s with heap := s.heap.push { cls := .type "list", data := .seq (byVals qs).toArray }, toks := k }) := by
  refine .of_wp fun prog w A R s h => ?_
  show wpAny _ _ (Bytes.splitM .bytes "split" false ⟨[.bytes b t, .bytes c u], []⟩) _ _ s
  unfold Bytes.splitM
  dsimp only
  rw [bind_split]
  refine wpAny_bind (wpAny_pure ?_)
  dsimp only
  refine wpAny_bind (wpAny_pure ?_)
  refine wpAny_bind (wpAny_of_eq (a := b) rfl ?_)
  refine wpAny_bind (wpAny_of_eq KBd.like_eq ?_)
  rw [hc]
  show wpAny _ _ (if (((Bytes.occurrences b c 0 b.size).take (b.size + 1)).isEmpty) = true then _ else _) _ _ s
  unfold splitB at h hz hn
  by_cases he : (((Bytes.occurrences b c 0 b.size).take (b.size + 1)).isEmpty) = true
  · rw [if_pos he] at h hz hn ⊢
    refine wpAny_bind (wpAny_rule (wpAny_bind (wpAny_of_eq (a := Value.bytes b t) rfl ?_)))
    refine wpAny_bind (wpAny_newObj_type ?_ (by show [Value.bytes b t].toArray.size ≤ sizeLine; simp [sizeLine_eq]))
    exact wpAny_pure ⟨_, rfl, h [(b, t)] s.toks rfl⟩
  · rw [if_neg he] at h hz hn ⊢
    refine wpAny_bind (wpAny_mapBytes _ _ _ hz fun qs k e => ?_)
    refine wpAny_bind (wpAny_newObj_type ?_ (by show (byVals qs).toArray.size ≤ sizeLine; rw [List.size_toArray]; unfold byVals; rw [List.length_map]; have := congrArg List.length e; rw [List.length_map] at this; rw [this]; exact hn))
    exact wpAny_pure ⟨_, rfl, h qs k e⟩
theorem take_eq (b : Array UInt8) (t : Tok) (id : String) : Bytes.takeBufferQuiet? id (.bytes b t) 0 = pure (some (b, none)) := by
  unfold Bytes.takeBufferQuiet? Bytes.takeBuffer?
  rw [KBy.special_eq KBy.look_buffer, KBy.own_buffer]
  simp only [KBy.buffer_eq]
  kernel_rfl
abbrev JSt := Array (Array UInt8) × List (Value × Option Value)
def jTaken (qs : List (Array UInt8 × Tok)) : List (Value × Option Value) := qs.map fun q => (.bytes q.1 q.2, none)
theorem jt_heap (qs : List (Array UInt8 × Tok)) : ((jTaken qs).any fun x => x.1.onHeap) = false := by
  unfold jTaken
  rw [List.any_map]
  exact List.any_eq_false.mpr fun x _ => by simp [Value.onHeap]
theorem loop_join {prog : Program} {w : World} {A : Around} {E : Value → Shared → Prop} {s : Shared} {Q : JSt → Shared → Prop} (f : Nat → JSt → Sem (ForInStep JSt)) (qs : List (Array UInt8 × Tok))
    (hf : ∀ pre q post (P : ForInStep JSt → Shared → Prop), qs = pre ++ q :: post → P (.yield ((pre.map (·.1)).toArray.push q.1, jTaken pre ++ [(.bytes q.1 q.2, none)])) s → wpAny (model prog w) A (f pre.length ((pre.map (·.1)).toArray, jTaken pre)) P E s)
    (hq : Q ((qs.map (·.1)).toArray, jTaken qs) s) : wpAny (model prog w) A (forIn [:qs.length] ((#[], []) : JSt) f) Q E s := by
  rw [Std.Legacy.Range.forIn_eq_forIn_range']
  have key : ∀ (post pre : List (Array UInt8 × Tok)), qs = pre ++ post → wpAny (model prog w) A (forIn (List.range' pre.length post.length 1) (((pre.map (·.1)).toArray, jTaken pre) : JSt) f) Q E s := by
    intro post
    induction post with
    | nil =>
      intro pre e
      rw [List.append_nil] at e
      subst e
      exact wpAny_pure hq
    | cons q r ih =>
      intro pre e
      rw [List.length_cons, List.range'_succ, List.forIn_cons]
      refine wpAny_bind (hf pre q r _ e ?_)
      have h := ih (pre ++ [q]) (by rw [e]; simp)
      have e1 : ((pre ++ [q]).map (·.1)).toArray = (pre.map (·.1)).toArray.push q.1 := by simp
      have e2 : jTaken (pre ++ [q]) = jTaken pre ++ [(.bytes q.1 q.2, none)] := by simp [jTaken]
      rw [e1, e2, List.length_append] at h
      exact h
  have h := key qs [] rfl
  have es : (Std.Legacy.Range.size [:qs.length]) = qs.length := by simp [Std.Legacy.Range.size]
  rw [es]
  exact h
theorem letGo_join {prog : Program} {w : World} {A : Around} {E : Value → Shared → Prop} {s : Shared} {Q : Unit → Shared → Prop} (keep : List Value) (h : Q () s) : ∀ qs : List (Array UInt8 × Tok), wpAny (model prog w) A (Bytes.joinLetGo (jTaken qs) keep) Q E s
  | [] => wpAny_pure h
  | q :: r => by
    show wpAny _ _ (Bytes.joinLetGo ((.bytes q.1 q.2, none) :: jTaken r) keep) _ _ _
    unfold Bytes.joinLetGo
    dsimp only
    exact wpAny_bind (wpAny_letGo (letGo_join keep h r))
theorem getD_vals (pre : List (Array UInt8 × Tok)) (q : Array UInt8 × Tok) (post : List (Array UInt8 × Tok)) : (byVals (pre ++ q :: post)).toArray.getD pre.length Value.none = .bytes q.1 q.2 := by
  simp [byVals, Array.getD]
theorem meets_join (c : Array UInt8) (t : Tok) (l : Addr) (qs : List (Array UInt8 × Tok)) (h1 : qs.length ≠ 1) (hz : (qs.map (·.1)).toArray.foldl (fun x1 x2 => x1 + x2.size) (c.size * ((qs.map (·.1)).toArray.size - 1)) ≤ 16777216) (hj : (Bytes.joined c (qs.map (·.1))).size ≤ sizeLine) :
    Meets («bytes.join» ⟨[.bytes c t, .ref l], []⟩) (fun _ R s => s.heap.IsList l (byVals qs).toArray ∧ R (.ok (.ret (.bytes (Bytes.joined c (qs.map (·.1))) s.toks))) { s with toks := s.toks + 1 }) := by
  refine .of_wp fun prog w A R s h => ?_
  obtain ⟨⟨o, ho, hc, n, hd⟩, hR⟩ := h
  show wpAny _ _ (Bytes.joinM .bytes ⟨[.bytes c t, .ref l], []⟩) _ _ s
  unfold Bytes.joinM
  dsimp only
  refine wpAny_bind (wpAny_of_eq (a := (Value.bytes c t, Value.ref l)) rfl ?_)
  dsimp only
  refine wpAny_bind ?_
  unfold Bytes.joinItems
  have hT : s.TypeIs (.ref l) "list" := ⟨o, ho, hc⟩
  refine wpAny_bind (wpAny_typeOf hT ?_)
  refine wpAny_ite ?_
  rw [if_pos (by decide)]
  refine wpAny_pure ?_
  refine wpAny_bind (wpAny_seqItems ho hd ?_)
  have hsz : (byVals qs).toArray.size = qs.length := by simp [byVals]
  have hg : ∀ pre q post, qs = pre ++ q :: post → (byVals qs).toArray.getD pre.length Value.none = .bytes q.1 q.2 := fun pre q post e => by rw [e]; exact getD_vals pre q post
  have hlong : Bytes.tooLong ((qs.map (·.1)).toArray.foldl (fun x1 x2 => x1 + x2.size) (c.size * ((qs.map (·.1)).toArray.size - 1))) = false := KBy.tooLong_not hz
  have flat : (byVals qs).toArray = #[] ∨ ∃ a b r, (byVals qs).toArray = ⟨a :: b :: r⟩ := by
    match qs, h1 with
    | [], _ => exact .inl rfl
    | a :: b :: r, _ => exact .inr ⟨_, _, _, rfl⟩
  generalize hv : (byVals qs).toArray = its at hd hg hsz flat ⊢
  rcases flat with e | ⟨a, b, r, e⟩
  · subst e
    show wpAny (model prog w) A.in1 (forIn [:(#[] : Array Value).size] ((#[], []) : JSt) _ >>= _) _ _ s
    rw [hsz]
    refine wpAny_bind (loop_join _ qs (fun pre q post P e hP => ?_) ?_)
    · refine wpAny_bind (wpAny_seqItems ho hd ?_)
      dsimp only
      rw [jt_heap, if_neg (by decide), hg pre q post e]
      refine wpAny_bind (wpAny_holding (wpAny_of_eq (take_eq _ _ _) ?_))
      dsimp only
      refine wpAny_bind (wpAny_seqItems ho hd ?_)
      dsimp only
      rw [if_neg (by rw [hsz]; simp)]
      exact wpAny_pure hP
    · refine wpAny_bind (wpAny_of_eq (a := c) rfl ?_)
      dsimp only
      rw [hlong, if_neg (by decide)]
      refine wpAny_bind (wpAny_mkBytes ?_ hj)
      refine wpAny_bind (wpAny_holding (wpAny_point ?_))
      refine wpAny_bind (letGo_join _ ?_ qs)
      exact wpAny_pure ⟨_, rfl, hR⟩
  · subst e
    show wpAny (model prog w) A.in1 (forIn [:(Array.mk (a :: b :: r)).size] ((#[], []) : JSt) _ >>= _) _ _ s
    rw [hsz]
    refine wpAny_bind (loop_join _ qs (fun pre q post P e hP => ?_) ?_)
    · refine wpAny_bind (wpAny_seqItems ho hd ?_)
      dsimp only
      rw [jt_heap, if_neg (by decide), hg pre q post e]
      refine wpAny_bind (wpAny_holding (wpAny_of_eq (take_eq _ _ _) ?_))
      dsimp only
      refine wpAny_bind (wpAny_seqItems ho hd ?_)
      dsimp only
      rw [if_neg (by rw [hsz]; simp)]
      exact wpAny_pure hP
    · refine wpAny_bind (wpAny_of_eq (a := c) rfl ?_)
      dsimp only
      rw [hlong, if_neg (by decide)]
      refine wpAny_bind (wpAny_mkBytes ?_ hj)
      refine wpAny_bind (wpAny_holding (wpAny_point ?_))
      refine wpAny_bind (letGo_join _ ?_ qs)
      exact wpAny_pure ⟨_, rfl, hR⟩
end Mine
end

noncomputable section
open PySem PySem.W PyProof.Rows PySem.Calls PySem.Builtin
set_option maxHeartbeats 1000000
namespace Mine
/-! the bytes' functions on their signs -/
theorem toNat_47 {c : UInt8} : c.toNat = 47 ↔ c = 47 := ⟨fun h => UInt8.toNat_inj.mp h, fun h => by rw [h]; rfl⟩
theorem bys_nil {b : Array UInt8} (h : (b.size : Int) = 0) : bys b = [] := List.eq_nil_of_length_eq_zero (by rw [← bys_len]; omega)
theorem bys_sl : bys #[47] = [47] := rfl
theorem bys_get (b : Array UInt8) (i : Nat) : (bys b)[i]? = some 47 ↔ b.toList[i]? = some 47 := by
  unfold bys
  rw [List.getElem?_map]
  cases b.toList[i]? with
  | none => simp
  | some c => simp [toNat_47]
theorem ext1 (b : Array UInt8) (i : Nat) : (b.extract i (i + 1) == #[47]) = ((bys b)[i]? == some 47) := by
  have e : (b.extract i (i + 1)).toList = (b.toList.drop i).take 1 := by
    rw [Array.toList_extract]; simp
  rw [Bool.eq_iff_iff, beq_iff_eq, beq_iff_eq, bys_get, ← Array.toList_inj, e]
  show List.take 1 (List.drop i b.toList) = [47] ↔ _
  have e2 : b.toList[i]? = (b.toList.drop i)[0]? := by rw [List.getElem?_drop]; rfl
  rw [e2]
  cases b.toList.drop i <;> simp
theorem starts_by (b : Array UInt8) : startsB b #[47] = ((bys b).head? == some 47) := by
  unfold startsB
  rw [List.head?_eq_getElem?]
  have h1 : (#[47] : Array UInt8).size = 1 := rfl
  rw [h1]
  split
  · rename_i h
    have : bys b = [] := bys_nil (by omega)
    rw [this]; rfl
  · exact ext1 b 0
theorem ends_by (b : Array UInt8) : endsB b #[47] = ((bys b).getLast? == some 47) := by
  unfold endsB
  rw [List.getLast?_eq_getElem?, ← bys_len]
  have h1 : (#[47] : Array UInt8).size = 1 := rfl
  rw [h1]
  split
  · rename_i h
    have : bys b = [] := bys_nil (by omega)
    rw [this]; rfl
  · rename_i h
    have e : (min (b.size : Int) (b.size : Int)).toNat = b.size := by omega
    rw [e]
    have e2 : b.size = (b.size - 1) + 1 := by omega
    conv => lhs; arg 1; arg 3; rw [e2]
    exact ext1 b (b.size - 1)
theorem find_last (p : Nat → Bool) : ∀ n, ((List.range n).reverse.find? p = none ∧ ∀ i, i < n → p i = false) ∨ ∃ i, (List.range n).reverse.find? p = some i ∧ i < n ∧ p i = true ∧ ∀ j, i < j → j < n → p j = false
  | 0 => .inl ⟨rfl, fun i h => absurd h (Nat.not_lt_zero _)⟩
  | n + 1 => by
    rw [List.range_succ, List.reverse_append]
    show ((n :: (List.range n).reverse).find? p = none ∧ _) ∨ ∃ i, (n :: (List.range n).reverse).find? p = some i ∧ _
    cases hp : p n with
    | true =>
      rw [List.find?_cons_of_pos hp]
      exact .inr ⟨n, rfl, Nat.lt_succ_self _, hp, fun j h1 h2 => by omega⟩
    | false =>
      rw [List.find?_cons_of_neg (by rw [hp]; exact Bool.false_ne_true)]
      rcases find_last p n with ⟨e, h⟩ | ⟨i, e, h1, h2, h3⟩
      · refine .inl ⟨e, fun i hi => ?_⟩
        by_cases hin : i = n
        · rw [hin]; exact hp
        · exact h i (by omega)
      · refine .inr ⟨i, e, by omega, h2, fun j hj hj2 => ?_⟩
        by_cases hin : j = n
        · rw [hin]; exact hp
        · exact h3 j hj (by omega)
theorem rfind_by (b : Array UInt8) : rfindB b #[47] = ((upTo (bys b)).length : Int) - 1 := by
  have hsz : (min (b.size : Int) (b.size : Int)) - 0 = (b.size : Int) := by omega
  have h1 : (#[47] : Array UInt8).size = 1 := rfl
  unfold rfindB
  rw [h1, hsz]
  have e0 : (min (b.size : Int) (b.size : Int)).toNat = b.size := by omega
  rw [e0]
  by_cases h : (b.size : Int) < ((1 : Nat) : Int)
  · rw [if_pos h]
    have : bys b = [] := bys_nil (by omega)
    rw [this]; rfl
  · rw [if_neg h]
    show (match Bytes.rfind? b #[47] 0 b.size with | some i => (i : Int) | none => -1) = _
    have er : Bytes.rfind? b #[47] 0 b.size = (List.range b.size).reverse.find? fun i => ((bys b)[i]? == some 47) := by
      unfold Bytes.rfind?
      have e1 : b.size + 1 - (0 + (#[47] : Array UInt8).size) = b.size := by rw [h1]; omega
      have e2 : (fun i => b.extract i (i + (#[47] : Array UInt8).size) == #[47]) = fun i => ((bys b)[i]? == some 47) := by
        funext i; exact ext1 b i
      rw [e1, e2]
      simp
    rw [er]
    rcases find_last (fun i => ((bys b)[i]? == some 47)) b.size with ⟨e, hn⟩ | ⟨i, e, hi, hp, hn⟩
    · rw [e]
      have : 47 ∉ bys b := fun hm => by
        obtain ⟨j, hj⟩ := List.mem_iff_getElem?.mp hm
        have hlt : j < b.size := by
          obtain ⟨q, _⟩ := List.getElem?_eq_some_iff.mp hj
          rw [bys_len]; exact q
        have := hn j hlt
        rw [hj] at this; simp at this
      rw [upTo_free this]; rfl
    · rw [e]
      have hp' : (bys b)[i]? = some 47 := by simpa using hp
      rcases upTo_split (bys b) with ⟨hm, _⟩ | ⟨a, s, el, hs, eu⟩
      · exact absurd (List.mem_of_getElem? hp') hm
      · rw [eu]
        have h2 : (bys b)[a.length]? = some 47 := by rw [el]; simp
        have hal : a.length < b.size := by
          obtain ⟨q, _⟩ := List.getElem?_eq_some_iff.mp h2
          rw [bys_len]; exact q
        have h3 : ¬ i < a.length := fun hlt => by
          have := hn _ hlt hal
          rw [h2] at this; simp at this
        have h4 : ¬ a.length < i := fun hlt => by
          rw [el, List.getElem?_append_right (by omega)] at hp'
          obtain ⟨k, hk⟩ : ∃ k, i - a.length = k + 1 := ⟨i - a.length - 1, by omega⟩
          rw [hk, List.getElem?_cons_succ] at hp'
          exact hs (List.mem_of_getElem? hp')
        simp only [List.length_append, List.length_cons, List.length_nil]
        omega
theorem map_dropWhile (p : UInt8 → Bool) (q : Nat → Bool) (h : ∀ c, p c = q c.toNat) : ∀ l : List UInt8, (l.dropWhile p).map (·.toNat) = (l.map (·.toNat)).dropWhile q
  | [] => rfl
  | c :: r => by
    rw [List.map_cons]
    cases hc : p c with
    | true => rw [List.dropWhile_cons_of_pos hc, List.dropWhile_cons_of_pos (by rw [← h]; exact hc)]; exact map_dropWhile p q h r
    | false => rw [List.dropWhile_cons_of_neg (by rw [hc]; exact Bool.false_ne_true), List.dropWhile_cons_of_neg (by rw [← h, hc]; exact Bool.false_ne_true)]; rfl
theorem rstrip_by (b : Array UInt8) : bys (keptR b #[47]).toArray = rstripL (bys b) := by
  unfold bys keptR rstripL
  show ((b.toList.reverse.dropWhile _).reverse).map _ = _
  rw [List.map_reverse, map_dropWhile _ (· == 47), List.map_reverse]
  intro c
  have : (#[47] : Array UInt8).contains c = (c == 47) := by simp; rfl
  rw [this, Bool.eq_iff_iff, beq_iff_eq, beq_iff_eq, toNat_47]
/-! split -/
noncomputable def pos : List Nat → Nat → List Nat
  | [], _ => []
  | c :: r, k => if c = 47 then k :: pos r (k + 1) else pos r (k + 1)
noncomputable def cuts (l : List Nat) : Nat → List Nat → List (List Nat)
  | last, [] => [l.drop last]
  | last, p :: r => (l.drop last).take (p - last) :: cuts l (p + 1) r
theorem pos_append : ∀ (a b : List Nat) (k : Nat), pos (a ++ b) k = pos a k ++ pos b (k + a.length)
  | [], b, k => rfl
  | c :: r, b, k => by
    have ih := pos_append r b (k + 1)
    have e : k + 1 + r.length = k + (c :: r).length := by simp; omega
    rw [e] at ih
    have e1 : pos (c :: r ++ b) k = if c = 47 then k :: pos (r ++ b) (k + 1) else pos (r ++ b) (k + 1) := rfl
    have e2 : pos (c :: r) k = if c = 47 then k :: pos r (k + 1) else pos r (k + 1) := rfl
    rw [e1, e2, ih]
    split
    · rfl
    · rfl
theorem pos_free {s : List Nat} (h : 47 ∉ s) (k : Nat) : pos s k = [] := by
  induction s generalizing k with
  | nil => rfl
  | cons c r ih =>
    have hc : c ≠ 47 := fun e => h (e ▸ .head _)
    unfold pos
    rw [if_neg hc]; exact ih (fun e => h (.tail _ e)) _
theorem cuts_split (l : List Nat) : ∀ (n last : Nat), l.length - last ≤ n → cuts l last (pos (l.drop last) last) = splitL (l.drop last) := by
  intro n
  induction n with
  | zero =>
    intro last h
    have : l.drop last = [] := List.drop_of_length_le (by omega)
    rw [this]
    show cuts l last [] = [[]]
    unfold cuts
    rw [this]
  | succ n ih =>
    intro last h
    rcases tw_spec (l.drop last) with ⟨hf, _⟩ | ⟨s, t, e, hs, _⟩
    · rw [pos_free hf, splitL_free hf]; rfl
    · have ed : l.drop (last + s.length + 1) = t := by
        have : l.drop (last + (s.length + 1)) = (l.drop last).drop (s.length + 1) := by rw [List.drop_drop]
        rw [Nat.add_assoc, this, e]
        have e3 : s ++ 47 :: t = (s ++ [47]) ++ t := by simp
        rw [e3]
        have : s.length + 1 = (s ++ [47]).length := by simp
        rw [this, List.drop_left]
      have hlen : s.length + 1 + t.length = l.length - last := by
        have := congrArg List.length e
        rw [List.length_drop] at this
        simp at this; omega
      have ih' := ih (last + s.length + 1) (by omega)
      rw [ed] at ih'
      rw [e, splitL_app hs, pos_append, pos_free hs, ← ih']
      show cuts l last (pos (47 :: t) (last + s.length)) = _
      have ep : pos (47 :: t) (last + s.length) = (last + s.length) :: pos t (last + s.length + 1) := by
        conv => lhs; unfold pos
        simp
      rw [ep]
      show (l.drop last).take (last + s.length - last) :: cuts l (last + s.length + 1) _ = _
      have : last + s.length - last = s.length := by omega
      rw [this, e, List.take_left]
def occStep (b : Array UInt8) (acc : List Nat × Nat) (i : Nat) : List Nat × Nat := if i ≥ acc.2 && b.extract i (i + (#[47] : Array UInt8).size) == #[47] then (i :: acc.1, i + (#[47] : Array UInt8).size) else acc
theorem occ_fold (b : Array UInt8) : ∀ n, n ≤ b.size → ∃ k, k ≤ n ∧ (List.range n).foldl (occStep b) ([], 0) = ((pos ((bys b).take n) 0).reverse, k)
  | 0, _ => ⟨0, Nat.le_refl _, rfl⟩
  | n + 1, h => by
    obtain ⟨k, hk, e⟩ := occ_fold b n (by omega)
    rw [List.range_succ, List.foldl_append, e]
    have hn : n < (bys b).length := by rw [← bys_len]; omega
    have et : (bys b).take (n + 1) = (bys b).take n ++ [(bys b)[n]] := by rw [List.take_add_one, List.getElem?_eq_getElem hn]; rfl
    have el : ((bys b).take n).length = n := by rw [List.length_take]; omega
    rw [et, pos_append, el, Nat.zero_add]
    show ∃ k', k' ≤ n + 1 ∧ occStep b ((pos ((bys b).take n) 0).reverse, k) n = _
    unfold occStep
    have hx : (b.extract n (n + (#[47] : Array UInt8).size) == #[47]) = decide ((bys b)[n] = 47) := by
      have := ext1 b n
      rw [List.getElem?_eq_getElem hn] at this
      show (b.extract n (n + 1) == #[47]) = _
      rw [this, Bool.eq_iff_iff]; simp
    rw [hx]
    by_cases hc : (bys b)[n] = 47
    · refine ⟨n + 1, Nat.le_refl _, ?_⟩
      rw [if_pos (by simp [hc, hk])]
      simp [pos, hc]
    · refine ⟨k, by omega, ?_⟩
      rw [if_neg (by simp [hc])]
      simp [pos, hc]
theorem occ_by (b : Array UInt8) : Bytes.occurrences b #[47] 0 b.size = pos (bys b) 0 := by
  obtain ⟨k, _, e⟩ := occ_fold b b.size (Nat.le_refl _)
  have et : (bys b).take b.size = bys b := by rw [bys_len]; exact List.take_length
  rw [et] at e
  unfold Bytes.occurrences
  have e1 : b.size + 1 - (0 + (#[47] : Array UInt8).size) = b.size := by
    have : (#[47] : Array UInt8).size = 1 := rfl
    rw [this]; omega
  rw [e1]
  have e2 : (List.range b.size).map (· + 0) = List.range b.size := by simp
  rw [e2]
  show ((List.range b.size).foldl (occStep b) ([], 0)).1.reverse = _
  rw [e]; simp
theorem bys_extract (b : Array UInt8) (i j : Nat) : bys (b.extract i j) = ((bys b).drop i).take (j - i) := by
  unfold bys
  rw [Array.toList_extract, ← List.map_drop, ← List.map_take]
def btwStep (b : Array UInt8) (st : Array (Array UInt8) × Nat) (p : Nat) : Array (Array UInt8) × Nat := (st.1.push (b.extract st.2 p), p + 1)
theorem btw_fold (b : Array UInt8) : ∀ (ps : List Nat) (parts : Array (Array UInt8)) (last : Nat),
    (((ps.foldl (btwStep b) (parts, last)).1.push (b.extract (ps.foldl (btwStep b) (parts, last)).2 b.size)).toList).map bys = parts.toList.map bys ++ cuts (bys b) last ps
  | [], parts, last => by
    show (parts.push (b.extract last b.size)).toList.map bys = _
    have : bys (b.extract last b.size) = (bys b).drop last := by
      rw [bys_extract, List.take_of_length_le]
      rw [List.length_drop, ← bys_len]; omega
    simp [cuts, this]
  | p :: r, parts, last => by
    rw [List.foldl_cons]
    have ih := btw_fold b r (parts.push (b.extract last p)) (p + 1)
    show _ = parts.toList.map bys ++ (((bys b).drop last).take (p - last) :: cuts (bys b) (p + 1) r)
    rw [← bys_extract]
    have : (btwStep b (parts, last) p) = (parts.push (b.extract last p), p + 1) := rfl
    rw [this, ih]
    simp
theorem btw_by (b : Array UInt8) (ps : List Nat) : (Bytes.between b (#[47] : Array UInt8).size ps).map bys = cuts (bys b) 0 ps := by
  have h := btw_fold b ps #[] 0
  simp only [List.map_nil, List.nil_append] at h
  exact h
theorem pos_len : ∀ (l : List Nat) (k : Nat), (pos l k).length ≤ l.length
  | [], _ => Nat.le_refl _
  | c :: r, k => by
    have := pos_len r (k + 1)
    unfold pos
    split <;> simp <;> omega
theorem split_by (b : Array UInt8) : (splitB b #[47]).map bys = splitL (bys b) := by
  unfold splitB
  rw [occ_by]
  have et : (pos (bys b) 0).take (b.size + 1) = pos (bys b) 0 := List.take_of_length_le (by have := pos_len (bys b) 0; rw [← bys_len] at this; omega)
  rw [et]
  have hc := cuts_split (bys b) _ 0 (Nat.le_refl _)
  rw [List.drop_zero] at hc
  split
  · rename_i h
    have : pos (bys b) 0 = [] := List.isEmpty_iff.mp h
    rw [this] at hc
    rw [← hc]; rfl
  · rw [btw_by, hc]
/-! join -/
theorem joinL_cons : ∀ (x : List Nat) (r : List (List Nat)), joinL (x :: r) = x ++ txt r
  | x, [] => by simp [joinL, txt]
  | x, y :: r => by
    show x ++ 47 :: joinL (y :: r) = x ++ txt (y :: r)
    rw [joinL_cons y r]; simp [txt]
def jStep (out : Array UInt8) (q : Array UInt8 × Nat) : Array UInt8 := (if q.2 > 0 then out ++ #[47] else out) ++ q.1
theorem jn_fold : ∀ (ps : List (Array UInt8)) (k : Nat) (out : Array UInt8), bys ((ps.zipIdx (k + 1)).foldl jStep out) = bys out ++ txt (ps.map bys)
  | [], k, out => by simp [txt]
  | p :: r, k, out => by
    rw [List.zipIdx_cons, List.foldl_cons, jn_fold r (k + 1)]
    have : bys (jStep out (p, k + 1)) = bys out ++ (47 :: bys p) := by
      unfold jStep bys
      rw [if_pos (Nat.succ_pos _)]
      simp
    rw [this]
    simp [txt]
theorem join_by (ps : List (Array UInt8)) : bys (Bytes.joined #[47] ps) = joinL (ps.map bys) := by
  unfold Bytes.joined
  show bys (ps.zipIdx.foldl jStep #[]) = _
  cases ps with
  | nil => rfl
  | cons p r =>
    rw [List.zipIdx_cons, List.foldl_cons, jn_fold r 0, List.map_cons, joinL_cons]
    have : bys (jStep #[] (p, 0)) = bys p := by
      unfold jStep bys
      simp
    rw [this]
/-! slices, equality -/
theorem bys_slice (b : Array UInt8) (lo hi : Option Int) : bys (KBy.picked b lo hi) = ((bys b).drop (lo.elim 0 (clipAt b.size))).take (hi.elim b.size (clipAt b.size) - lo.elim 0 (clipAt b.size)) := by
  rw [KBc.picked_eq]
  unfold bys
  show ((b.toList.drop _).take _).map _ = _
  rw [List.map_take, List.map_drop]
theorem bys_to (b : Array UInt8) {j : Int} (h : 0 ≤ j) : bys (KBy.picked b none (some j)) = (bys b).take j.toNat := by
  obtain ⟨k, rfl⟩ := Int.eq_ofNat_of_zero_le h
  rw [bys_slice]
  show ((bys b).drop 0).take (clipAt b.size (k : Int) - 0) = (bys b).take k
  rw [clipAt_nat, List.drop_zero, Nat.sub_zero, bys_len, ← List.take_eq_take_min]
theorem bys_from (b : Array UInt8) {j : Int} (h : 0 ≤ j) : bys (KBy.picked b (some j) none) = (bys b).drop j.toNat := by
  obtain ⟨k, rfl⟩ := Int.eq_ofNat_of_zero_le h
  rw [bys_slice]
  show ((bys b).drop (clipAt b.size (k : Int))).take (b.size - clipAt b.size (k : Int)) = (bys b).drop k
  rw [clipAt_nat, List.take_of_length_le (by rw [List.length_drop, ← bys_len]; omega)]
  by_cases hk : k ≤ b.size
  · rw [Nat.min_eq_left hk]
  · rw [Nat.min_eq_right (by omega), List.drop_of_length_le (by rw [← bys_len]; omega), List.drop_of_length_le (by rw [← bys_len]; omega)]
theorem bys_mid (b : Array UInt8) {i j : Int} (h : 0 ≤ i) (hij : i ≤ j) : bys (KBy.picked b (some i) (some j)) = ((bys b).drop i.toNat).take (j.toNat - i.toNat) := by
  obtain ⟨k, rfl⟩ := Int.eq_ofNat_of_zero_le h
  obtain ⟨m, rfl⟩ := Int.eq_ofNat_of_zero_le (Int.le_trans h hij)
  rw [bys_slice]
  show ((bys b).drop (clipAt b.size (k : Int))).take (clipAt b.size (m : Int) - clipAt b.size (k : Int)) = ((bys b).drop k).take (m - k)
  rw [clipAt_nat, clipAt_nat]
  by_cases hk : k ≤ b.size
  · rw [Nat.min_eq_left hk]
    by_cases hm : m ≤ b.size
    · rw [Nat.min_eq_left hm]
    · rw [Nat.min_eq_right (by omega), List.take_of_length_le (by rw [List.length_drop, ← bys_len]; omega), List.take_of_length_le (by rw [List.length_drop, ← bys_len]; omega)]
  · rw [Nat.min_eq_right (by omega), List.drop_of_length_le (by rw [← bys_len]; omega), List.drop_of_length_le (by rw [← bys_len]; omega)]; simp
theorem bys_beq (b c : Array UInt8) : (b.toList == c.toList) = (bys b == bys c) := by
  rw [Bool.eq_iff_iff, beq_iff_eq, beq_iff_eq, Array.toList_inj]
  exact ⟨fun h => h ▸ rfl, bys_inj⟩
theorem bys_bne (b c : Array UInt8) : (b.toList != c.toList) = (bys b != bys c) := by unfold bne; rw [bys_beq]
theorem bys_append (b c : Array UInt8) : bys (b ++ c) = bys b ++ bys c := by unfold bys; simp
end Mine
end

noncomputable section
open PySem PySem.W PyProof.Rows PySem.Calls PySem.Builtin
set_option maxHeartbeats 1000000
namespace Mine
theorem sz47 : (#[47] : Array UInt8).size = 1 := rfl
section
variable {prog : Program} {w : World} {A : Around} {E : Value → Shared → Prop} {s : Shared} {b c : Array UInt8} {t u : Tok} {Q : Value → Shared → Prop}
theorem by_starts (h : Q (.bool (startsB b c)) s) : wpAny (model prog w) A (call (.builtin "bytes.startswith") [.bytes b t, .bytes c u]) Q E s :=
  call_gives FB.slot_bytes_startswith (typeIs_bytes _ _ _) FB.entry_bytes_startswith (FB.args_bytes_startswith_2 _ _) (gives_starts b c t u) h
theorem by_ends (h : Q (.bool (endsB b c)) s) : wpAny (model prog w) A (call (.builtin "bytes.endswith") [.bytes b t, .bytes c u]) Q E s :=
  call_gives FB.slot_bytes_endswith (typeIs_bytes _ _ _) FB.entry_bytes_endswith (FB.args_bytes_endswith_2 _ _) (gives_ends b c t u) h
theorem by_rfind (h : ∀ t' k, Q (.int (rfindB b c) t') { s with toks := k }) : wpAny (model prog w) A (call (.builtin "bytes.rfind") [.bytes b t, .bytes c u]) Q E s :=
  call_gives slot_rfind (typeIs_bytes _ _ _) entry_rfind (args_rfind _ _) (gives_rfind b c t u) (h _ _)
theorem by_rstrip (hz : b.size ≤ 1000) (h : ∀ d t' k, bys d = rstripL (bys b) → Q (.bytes d t') { s with toks := k }) : wpAny (model prog w) A (call (.builtin "bytes.rstrip") [.bytes b t, .bytes #[47] u]) Q E s := by
  refine call_gives slot_rstrip (typeIs_bytes _ _ _) entry_rstrip (args_rstrip _ _) (gives_rstrip b #[47] t u) ?_
  have hl : (keptR b #[47]).length ≤ b.size := by
    unfold keptR
    rw [List.length_reverse]
    have := (List.dropWhile_sublist (l := b.toList.reverse) (#[47] : Array UInt8).contains).length_le
    rw [List.length_reverse] at this
    exact this
  split
  · rename_i he
    refine h b t s.toks ?_
    rw [← rstrip_by]
    have he' : (keptR b #[47]).length = b.size := by simpa using he
    have hs : (keptR b #[47]) = b.toList := by
      unfold keptR at he' ⊢
      rw [List.length_reverse] at he'
      have h2 := (List.dropWhile_sublist (l := b.toList.reverse) (#[47] : Array UInt8).contains).eq_of_length (by rw [he']; simp)
      rw [h2, List.reverse_reverse]
    rw [hs]
  · refine ⟨?_, h _ _ _ (rstrip_by b)⟩
    rw [sizeLine_eq, List.size_toArray]
    omega
theorem by_split {h₀ : Heap} {L : Addr} {m : Str → Option Value} {news : List (Addr × Obj)} (hF : Fr h₀ L s.heap m) (hN : News h₀ L s.heap news) (hz : b.size ≤ 1000)
    (h : ∀ D qs h' k, (qs.map (fun q : Array UInt8 × Tok => bys q.1)) = splitL (bys b) → Fr h₀ L h' m → News h₀ L h' ((D, W.listOf (byVals qs).toArray 0) :: news) → (∀ p ∈ news, p.1 < D) → Q (.ref D) { s with heap := h', toks := k }) :
    wpAny (model prog w) A (call (.builtin "bytes.split") [.bytes b t, .bytes #[47] u]) Q E s := by
  have hw := wt_split (bys b)
  have hb : (bys b).length ≤ 1000 := by rw [← bys_len]; exact hz
  have hsp := split_by b
  refine call_meets slot_split (typeIs_bytes _ _ _) entry_split (args_split _ _) (meets_split b #[47] t u (by rfl) ?_ ?_) ?_
  · intro p hp
    have h1 : bys p ∈ splitL (bys b) := by rw [← hsp]; exact List.mem_map_of_mem hp
    obtain ⟨i, hi⟩ := List.mem_iff_getElem?.mp h1
    have := wt_mem hi
    rw [bys_len, sizeLine_eq]; omega
  · have h1 := congrArg List.length hsp
    rw [List.length_map] at h1
    have := wt_len (splitL (bys b))
    rw [h1, sizeLine_eq]; omega
  · intro qs k e
    have e2 : (qs.map (fun q : Array UInt8 × Tok => bys q.1)) = splitL (bys b) := by
      rw [← hsp, ← e, List.map_map]; rfl
    exact h _ qs _ k e2 (hF.push _) (News.push hF hN _) (fun p hp => Heap.lt_size (hN p hp).1)
theorem no_biadd : typeLookup (.type "bytes") "__iadd__" = pure none := by rw [typeLookup_type, builtinLookup_eq_fast]; kernel_rfl
theorem by_iadd (hsz : b.size + c.size ≤ 16777216) (h : ∀ t' k, Q (.bytes (b ++ c) t') { s with toks := k }) : wpAny (model prog w) A (inplaceOp .Add (.bytes b t) (.bytes c u)) Q E s := by
  refine iconcat_gives (typeIs_bytes s b t) (typeIs_bytes s c u) no_biadd KBy.noFill_bytes_add KBy.seq_bytes_add FB.slot_bytes_add FB.entry_bytes_add (FB.args_bytes_add_2 _ _) (KBy.gives_bytes_add (KBy.tooLong_not hsz)) ?_
  by_cases hb : b.isEmpty = true
  · rw [if_pos hb]
    have e : b = #[] := Array.isEmpty_iff.1 hb
    have h' := h u s.toks
    rw [e, Array.empty_append] at h'
    exact h'
  · rw [if_neg hb]
    by_cases hc : c.isEmpty = true
    · rw [if_pos hc]
      have e : c = #[] := Array.isEmpty_iff.1 hc
      have h' := h t s.toks
      rw [e, Array.append_empty] at h'
      exact h'
    · rw [if_neg hc]
      exact ⟨by rw [Array.size_append, sizeLine_eq]; exact hsz, h s.toks (s.toks + 1)⟩
theorem by_mul {n : Int} (hn : n ≤ 1000) (h0 : 0 ≤ n) (h : ∀ d t' k, bys d = List.replicate n.toNat 47 → Q (.bytes d t') { s with toks := k }) : wpAny (model prog w) A (binaryOp .Mult (.bytes #[47] t) (.int n u)) Q E s := by
  refine bytes_mul_any (b := [47]) (by simp) (by omega) (by omega) (by simp) fun t' k => h _ t' k ?_
  unfold bys
  simp
theorem by_meth_starts {pl : Sem Bool} {M : Model} {Q : Value × List Value → Shared → Prop} (h : Q (.builtin "bytes.startswith", [.bytes b t]) s) : wpAny M A (getMethod (.bytes b t) "startswith" pl) Q E s := by
  with_reducible exact KBd.method_of (.bytes b t) (typeIs_bytes _ _ _) FB.slot_bytes_startswith FB.type_bytes_startswith KBd.noRef h
theorem by_meth_ends {pl : Sem Bool} {M : Model} {Q : Value × List Value → Shared → Prop} (h : Q (.builtin "bytes.endswith", [.bytes b t]) s) : wpAny M A (getMethod (.bytes b t) "endswith" pl) Q E s := by
  with_reducible exact KBd.method_of (.bytes b t) (typeIs_bytes _ _ _) FB.slot_bytes_endswith FB.type_bytes_endswith KBd.noRef h
theorem by_meth_rfind {pl : Sem Bool} {M : Model} {Q : Value × List Value → Shared → Prop} (h : Q (.builtin "bytes.rfind", [.bytes b t]) s) : wpAny M A (getMethod (.bytes b t) "rfind" pl) Q E s := by
  with_reducible exact KBd.method_of (.bytes b t) (typeIs_bytes _ _ _) slot_rfind type_rfind KBd.noRef h
theorem by_meth_rstrip {pl : Sem Bool} {M : Model} {Q : Value × List Value → Shared → Prop} (h : Q (.builtin "bytes.rstrip", [.bytes b t]) s) : wpAny M A (getMethod (.bytes b t) "rstrip" pl) Q E s := by
  with_reducible exact KBd.method_of (.bytes b t) (typeIs_bytes _ _ _) slot_rstrip type_rstrip KBd.noRef h
theorem by_meth_split {pl : Sem Bool} {M : Model} {Q : Value × List Value → Shared → Prop} (h : Q (.builtin "bytes.split", [.bytes b t]) s) : wpAny M A (getMethod (.bytes b t) "split" pl) Q E s := by
  with_reducible exact KBd.method_of (.bytes b t) (typeIs_bytes _ _ _) slot_split type_split KBd.noRef h
theorem by_meth_join {pl : Sem Bool} {M : Model} {Q : Value × List Value → Shared → Prop} (h : Q (.builtin "bytes.join", [.bytes b t]) s) : wpAny M A (getMethod (.bytes b t) "join" pl) Q E s := by
  with_reducible exact KBd.method_of (.bytes b t) (typeIs_bytes _ _ _) slot_join type_join KBd.noRef h
theorem by_slice {value slice : Expr} {h₀ : Heap} {L : Addr} {m : Str → Option Value} {news : List (Addr × Obj)} {l u' : Value} {lo hi : Option Int} (hF : Fr h₀ L s.heap m) (hN : News h₀ L s.heap news) (hl : IsPart l lo) (hu : IsPart u' hi) (hz : b.size ≤ 16777216)
    (h : ∀ h' t' k, Fr h₀ L h' m → News h₀ L h' news → (KBy.picked b lo hi).size ≤ b.size → Q (.bytes (KBy.picked b lo hi) t') { s with heap := h', toks := k })
    (hs : subscripted slice false (.bytes b t) (.ref s.heap.objs.size) = operate [.ref s.heap.objs.size, .bytes b t] (getItem (.bytes b t) (.ref s.heap.objs.size)) := by with_unfolding_all rfl)
    (ht : ∀ r, letTemporaryGo value (.bytes b t) r = pure () := by intro _; with_unfolding_all rfl) :
    wpAny (model prog w) A (subscriptTail value slice (.bytes b t) (.ref s.heap.objs.size)) Q E { s with heap := s.heap.push { cls := .type "slice", data := .fields #[l, u', .none] } } :=
  KBc.slice_K hF hN rfl hl hu (by rw [KBw.ints_length]; exact hz) (fun h' t' k F N _ => h h' t' k F N (KBc.size_picked_le b lo hi)) hs ht
end
end Mine
end

noncomputable section
open PySem PySem.W PyProof.Rows PySem.Calls PySem.Builtin
set_option maxHeartbeats 1000000
namespace Mine
theorem meets_join1 (c : Array UInt8) (t : Tok) (l : Addr) (b : Array UInt8) (u : Tok) :
    Meets («bytes.join» ⟨[.bytes c t, .ref l], []⟩) (fun _ R s => s.heap.IsList l #[.bytes b u] ∧ R (.ok (.ret (.bytes b u))) s) := by
  refine .of_wp fun prog w A R s h => ?_
  obtain ⟨⟨o, ho, hc, n, hd⟩, hR⟩ := h
  show wpAny _ _ (Bytes.joinM .bytes ⟨[.bytes c t, .ref l], []⟩) _ _ s
  unfold Bytes.joinM
  dsimp only
  refine wpAny_bind (wpAny_of_eq (a := (Value.bytes c t, Value.ref l)) rfl ?_)
  dsimp only
  refine wpAny_bind ?_
  unfold Bytes.joinItems
  have hT : s.TypeIs (.ref l) "list" := ⟨o, ho, hc⟩
  refine wpAny_bind (wpAny_typeOf hT ?_)
  refine wpAny_ite ?_
  rw [if_pos (by decide)]
  refine wpAny_pure ?_
  refine wpAny_bind (wpAny_seqItems ho hd ?_)
  show wpAny (model prog w) A.in1 (typeOf (.bytes b u) >>= _) _ _ s
  refine wpAny_bind (wpAny_typeOf (typeIs_bytes _ b u) ?_)
  show wpAny (model prog w) A.in1 (if ((Value.type "bytes" == Value.type "bytes") = true) then _ else _) _ _ s
  rw [if_pos (by decide)]
  refine wpAny_bind (wpAny_rule ?_)
  exact wpAny_pure ⟨_, rfl, hR⟩
theorem bytes_of_ks : ∀ {us : List Value} {ls : List (List Nat)}, Ks true us ls → ∃ qs : List (Array UInt8 × Tok), us = byVals qs ∧ qs.map (fun p => bys p.1) = ls
  | [], [], _ => ⟨[], rfl, rfl⟩
  | _ :: us, _ :: ls, ⟨⟨x, t, e1, e2⟩, h⟩ => by
    obtain ⟨l, e3, e4⟩ := bytes_of_ks (us := us) (ls := ls) h
    exact ⟨(x, t) :: l, by rw [e1, e3]; rfl, by rw [← e2, ← e4]; rfl⟩
theorem fold_sz : ∀ (l : List (Array UInt8)) (k : Nat), l.foldl (fun x1 x2 => x1 + x2.size) k + l.length = k + wt (l.map bys)
  | [], k => rfl
  | a :: r, k => by
    have e : wt ((a :: r).map bys) = ((bys a).length + 1) + wt (r.map bys) := by simp [wt]
    have := fold_sz r (k + a.size)
    rw [e, ← bys_len, List.foldl_cons, List.length_cons]
    omega
section
variable {prog : Program} {w : World} {A : Around} {E : Value → Shared → Prop} {s : Shared} {h₀ : Heap} {L nl : Addr} {news : List (Addr × Obj)} {us : List Value} {c : Nat} {acc : List (List Nat)}
theorem lstB_join {t : Tok} {Q : Value → Shared → Prop} (hN : News h₀ L s.heap news) (hm : (nl, W.listOf us.toArray c) ∈ news) (hK : Ks true us acc) (hw : wt acc ≤ 2000)
    (h : ∀ y t' k, bys y = joinL acc → y.size ≤ 2000 → Q (.bytes y t') { s with toks := k }) : wpAny (model prog w) A (call (.builtin "bytes.join") [.bytes #[47] t, .ref nl]) Q E s := by
  obtain ⟨qs, e1, e2⟩ := bytes_of_ks hK
  subst e1
  have hl : s.heap.IsList nl (byVals qs).toArray := ⟨_, (hN _ hm).1, rfl, c, rfl⟩
  have hb : ∀ y : Array UInt8, bys y = joinL acc → y.size ≤ 2000 := fun y hy => by
    rw [bys_len, hy]
    exact Nat.le_trans (joinL_len acc) hw
  by_cases h1 : qs.length = 1
  · match qs, h1 with
    | [q], _ =>
      have hc : bys q.1 = joinL acc := by rw [← e2]; rfl
      exact call_meets slot_join (typeIs_bytes _ _ _) entry_join (args_join _ _) (meets_join1 #[47] t nl q.1 q.2) ⟨hl, h _ _ s.toks hc (hb _ hc)⟩
  · have hc : bys (Bytes.joined #[47] (qs.map (·.1))) = joinL acc := by
      rw [join_by, List.map_map, ← e2]; rfl
    refine call_meets slot_join (typeIs_bytes _ _ _) entry_join (args_join _ _) (meets_join #[47] t nl qs h1 ?_ ?_) ⟨hl, h _ _ _ hc (hb _ hc)⟩
    · have h3 := fold_sz (qs.map (·.1)) ((#[47] : Array UInt8).size * ((qs.map (·.1)).toArray.size - 1))
      rw [List.map_map] at h3
      have e3 : wt (qs.map (bys ∘ fun x => x.1)) = wt acc := by rw [← e2]; rfl
      rw [e3] at h3
      have h4 := wt_len acc
      have h5 : acc.length = qs.length := by rw [← e2]; simp
      have h6 : (qs.map (·.1)).toArray.size = qs.length := by simp
      have h7 : (#[47] : Array UInt8).size = 1 := rfl
      simp only [h6, h7, List.foldl_toArray', List.length_map] at h3 ⊢
      omega
    · have := hb _ hc
      rw [sizeLine_eq]; omega
end
end Mine
end

noncomputable section
open PySem PySem.W PyProof.Rows PySem.Calls
set_option maxHeartbeats 8000000
namespace Mine
local macro_rules | `(tactic| walk_at "call ref") => `(tactic| (k_here; (with_reducible show wpAny _ _ (call (Value.ref 94) [Value.str _ _]) _ _ _); k_dflt (refine' Con.use (fspath_str _ _ _ _ _ _) ?k1 ?k2 ?k3 ?k4 ?k5 ?kK ?kd ?ku ?_; (case k1 => k_asm); (case k2 => k_asm); (case k3 => k_asm); (case k4 => k_asm); (case k5 => k_asm); (case kK => first | exact rfl | assumption); (case kd => ktr_room); (case ku => ktr_units); intro v9 h9 tk9 hR9 F9 N9; subst hR9; (try dsimp only); (try k_fold))))
local macro_rules | `(tactic| walk_at "call ref") => `(tactic| (k_here; (with_reducible show wpAny _ _ (call (Value.ref 94) [Value.bytes _ _]) _ _ _); k_dflt (refine' Con.use (fspath_bytes _ _ _ _ _ _) ?k1 ?k2 ?k3 ?k4 ?k5 ?kK ?kd ?ku ?_; (case k1 => k_asm); (case k2 => k_asm); (case k3 => k_asm); (case k4 => k_asm); (case k5 => k_asm); (case kK => first | exact rfl | assumption); (case kd => ktr_room); (case ku => ktr_units); intro v9 h9 tk9 hR9 F9 N9; subst hR9; (try dsimp only); (try k_fold))))
local macro_rules | `(tactic| walk_at "call ref") => `(tactic| (k_here; (with_reducible show wpAny _ _ (call (Value.ref 108) [Value.str _ _]) _ _ _); k_dflt (refine' Con.use (sep_str _ _ _ _ _ _) ?k1 ?k2 ?k3 ?k4 ?k5 ?kK ?kd ?ku ?_; (case k1 => k_asm); (case k2 => k_asm); (case k3 => k_asm); (case k4 => k_asm); (case k5 => k_asm); (case kK => first | exact rfl | assumption); (case kd => ktr_room); (case ku => ktr_units); intro v9 h9 tk9 hR9 F9 N9; obtain ⟨t9, e9⟩ := hR9; subst e9; (try dsimp only); (try k_fold))))
local macro_rules | `(tactic| walk_at "call ref") => `(tactic| (k_here; (with_reducible show wpAny _ _ (call (Value.ref 108) [Value.bytes _ _]) _ _ _); k_dflt (refine' Con.use (sep_bytes _ _ _ _ _ _) ?k1 ?k2 ?k3 ?k4 ?k5 ?kK ?kd ?ku ?_; (case k1 => k_asm); (case k2 => k_asm); (case k3 => k_asm); (case k4 => k_asm); (case k5 => k_asm); (case kK => first | exact rfl | assumption); (case kd => ktr_room); (case ku => ktr_units); intro v9 h9 tk9 hR9 F9 N9; obtain ⟨t9, e9⟩ := hR9; subst e9; (try dsimp only); (try k_fold))))
local macro_rules | `(tactic| walk_at "getMethod bytes") => `(tactic| (k_here; (with_reducible first | refine by_meth_starts ?_ | refine by_meth_ends ?_ | refine by_meth_rfind ?_ | refine by_meth_rstrip ?_ | refine by_meth_split ?_ | refine by_meth_join ?_)))
local macro_rules | `(tactic| walk_at "call builtin:bytes.startswith nil") => `(tactic| (k_here; (with_reducible show wpAny _ _ (call (Value.builtin "bytes.startswith") _) _ _ _); k_dflt (refine' by_starts ?_)))
local macro_rules | `(tactic| walk_at "call builtin:bytes.endswith nil") => `(tactic| (k_here; (with_reducible show wpAny _ _ (call (Value.builtin "bytes.endswith") _) _ _ _); k_dflt (refine' by_ends ?_)))
local macro_rules | `(tactic| walk_at "call builtin:bytes.rfind nil") => `(tactic| (k_here; (with_reducible show wpAny _ _ (call (Value.builtin "bytes.rfind") _) _ _ _); k_dflt (refine' by_rfind ?_); intro _ _))
local macro_rules | `(tactic| walk_at "call builtin:bytes.rstrip nil") => `(tactic| (k_here; (with_reducible show wpAny _ _ (call (Value.builtin "bytes.rstrip") _) _ _ _); k_dflt (refine' by_rstrip ?kz ?_; (case kz => omega)); intro d9 t9 k9 hd9))
local macro_rules | `(tactic| walk_at "truthy bytes") => `(tactic| (k_here; (with_reducible show wpAny _ _ (truthy (Value.bytes _ _)) _ _ _); refine truthy_bytes (by (try simp only [Array.size_append]); omega) ?_))
local macro_rules | `(tactic| walk_at "call builtin:len") => `(tactic| (k_here; (with_reducible show wpAny _ _ (call (Value.builtin "len") [Value.bytes _ _]) _ _ _); (refine len_bytes (by omega) ?_)))
local macro_rules | `(tactic| walk_at "binaryOp Add bytes bytes") => `(tactic| (k_here; (with_reducible show wpAny _ _ (binaryOp Operator.Add (Value.bytes _ _) (Value.bytes _ _)) _ _ _); (refine KBy.add_bytes (by (try simp only [Array.size_append, sz47]); omega) ?_); intro _ _))
local macro_rules | `(tactic| walk_at "inplaceOp Add bytes bytes") => `(tactic| (k_here; (with_reducible show wpAny _ _ (inplaceOp Operator.Add (Value.bytes _ _) (Value.bytes _ _)) _ _ _); (refine by_iadd (by (try simp only [Array.size_append, sz47]); omega) ?_); intro _ _))
local macro_rules | `(tactic| walk_at "binaryOp Mult bytes int") => `(tactic| (k_here; (with_reducible show wpAny _ _ (binaryOp Operator.Mult (Value.bytes _ _) (Value.int _ _)) _ _ _); (refine by_mul (by omega) (by omega) ?_); intro d9 t9 k9 hd9))
local macro_rules | `(tactic| walk_at "subscriptTail") => `(tactic| (k_here; (with_reducible show wpAny _ _ (subscriptTail _ (Expr.Slice _ _ none _) (Value.bytes _ _) (Value.ref _)) _ _ _); (with_reducible rename Fr _ _ _ _ => F'); (with_reducible rename News _ _ _ _ => N'); (refine by_slice (s := ⟨_, _, _, _, _⟩) F' N' (by constructor) (by constructor) (by omega) ?_); intro _ _ _ _ _ hz9))
theorem isabs_bytes (w : World) (mean : ExcName → Option Value) (mg mb : Str → Option Value) (x : Array UInt8) (t : Tok) :
    Con w mean mg mb 115 2 [.bytes x t] (fun v => v = .bool ((bys x).head? == some 47)) := by
  w_on
  unfold Con
  k_fill
  intro news dp un gd cn cs a ccd cl outer A₀ base h₀ L m s Q E B F X N T hk hd hu hret
  refine wpAny_call ?_
  k_dflt cell_enter
  k_steps
  all_goals exact hret _ _ _ (by rw [starts_by]) (by k_asm) (by k_asm)
theorem bsl1 (x : Array UInt8) : ((KBy.picked x none (some 1)).toList != (#[47] : Array UInt8).toList) = ((bys x).take 1 != [47]) := by rw [bys_bne, bys_to x (by decide), bys_sl]; rfl
theorem bsl12 (x : Array UInt8) : ((KBy.picked x (some 1) (some 2)).toList != (#[47] : Array UInt8).toList) = (((bys x).drop 1).take 1 != [47]) := by rw [bys_bne, bys_mid x (by decide) (by decide), bys_sl]; rfl
theorem bsl23 (x : Array UInt8) : ((KBy.picked x (some 2) (some 3)).toList == (#[47] : Array UInt8).toList) = (((bys x).drop 2).take 1 == [47]) := by rw [bys_beq, bys_mid x (by decide) (by decide), bys_sl]; rfl
section
variable {x : Array UInt8}
theorem broot1 (h : ((KBy.picked x none (some 1)).toList != (#[47] : Array UInt8).toList) = true) : bys #[] = (rootL (bys x)).1 ∧ bys x = (rootL (bys x)).2 := by
  rw [bsl1] at h
  unfold rootL
  rw [if_pos (by simpa using h)]; exact ⟨rfl, rfl⟩
theorem broot2 (h : ((KBy.picked x none (some 1)).toList != (#[47] : Array UInt8).toList) = false) (h2 : ((KBy.picked x (some 1) (some 2)).toList != (#[47] : Array UInt8).toList) = true) : bys #[47] = (rootL (bys x)).1 ∧ bys (KBy.picked x (some 1) none) = (rootL (bys x)).2 := by
  rw [bsl1] at h
  rw [bsl12] at h2
  unfold rootL
  rw [if_neg (by simpa using h), if_pos (.inl (by simpa using h2)), bys_sl, bys_from x (by decide)]; exact ⟨rfl, rfl⟩
theorem broot3 (h : ((KBy.picked x none (some 1)).toList != (#[47] : Array UInt8).toList) = false) (_h2 : ((KBy.picked x (some 1) (some 2)).toList != (#[47] : Array UInt8).toList) = false) (h3 : ((KBy.picked x (some 2) (some 3)).toList == (#[47] : Array UInt8).toList) = true) : bys #[47] = (rootL (bys x)).1 ∧ bys (KBy.picked x (some 1) none) = (rootL (bys x)).2 := by
  rw [bsl1] at h
  rw [bsl23] at h3
  unfold rootL
  rw [if_neg (by simpa using h), if_pos (.inr (by simpa using h3)), bys_sl, bys_from x (by decide)]; exact ⟨rfl, rfl⟩
theorem broot4 (h : ((KBy.picked x none (some 1)).toList != (#[47] : Array UInt8).toList) = false) (h2 : ((KBy.picked x (some 1) (some 2)).toList != (#[47] : Array UInt8).toList) = false) (h3 : ((KBy.picked x (some 2) (some 3)).toList == (#[47] : Array UInt8).toList) = false) : bys (KBy.picked x none (some 2)) = (rootL (bys x)).1 ∧ bys (KBy.picked x (some 2) none) = (rootL (bys x)).2 := by
  rw [bsl1] at h
  rw [bsl12] at h2
  rw [bsl23] at h3
  unfold rootL
  rw [if_neg (by simpa using h), if_neg (by simp at h2 h3; simp [h2, h3]), bys_from x (by decide), bys_to x (by decide)]; exact ⟨rfl, rfl⟩
end
theorem split_bytes (w : World) (mean : ExcName → Option Value) (mg mb : Str → Option Value) (x : Array UInt8) (t : Tok) (hx : x.size ≤ 1000) :
    ConT w mean mg mb 129 2 [.bytes x t] (fun v1 v2 v3 => ∃ e t1 y t2 z t3, v1 = .bytes e t1 ∧ v2 = .bytes y t2 ∧ v3 = .bytes z t3 ∧ bys y = (rootL (bys x)).1 ∧ bys z = (rootL (bys x)).2) := by
  w_on
  unfold ConT
  k_fill
  intro news dp un gd cn cs a ccd cl outer A₀ base h₀ L m s Q E B F X N T hk hd hu hret
  refine wpAny_call ?_
  k_dflt cell_enter
  k_steps
  all_goals refine hret _ _ _ _ _ _ ⟨_, _, _, _, _, _, rfl, rfl, rfl, ?_⟩ (by k_asm) (by k_asm) (by assumption)
  · exact broot1 (by with_reducible assumption)
  · exact broot2 (by with_reducible assumption) (by with_reducible assumption)
  · exact broot3 (by with_reducible assumption) (by with_reducible assumption) (by with_reducible assumption)
  · exact broot4 (by with_reducible assumption) (by with_reducible assumption) (by with_reducible assumption)
theorem bys_head (x : Array UInt8) : bys (KBy.picked x none (some (rfindB x #[47] + 1))) = upTo (bys x) := by
  rw [rfind_by, bys_to x (by omega)]
  conv => rhs; rw [← upTo_take (bys x)]
  congr 1; omega
theorem bdir1 {x hd d r : Array UInt8} (hh : bys hd = upTo (bys x)) (h : (hd.size : Int) ≠ 0) (hd9 : bys d = List.replicate (hd.size : Int).toNat 47) (h2 : (hd.toList != d.toList) = true) (hr : bys r = rstripL (bys hd)) : bys r = dirL (bys x) := by
  rw [bys_bne, hd9, Int.toNat_natCast, bys_len, hh] at h2
  have h0 : upTo (bys x) ≠ [] := by rw [← hh]; intro e; rw [bys_len, e] at h; exact h rfl
  unfold dirL
  rw [if_pos ⟨h0, by simpa using h2⟩, hr, hh]
theorem bdir2 {x hd d : Array UInt8} (hh : bys hd = upTo (bys x)) (hd9 : bys d = List.replicate (hd.size : Int).toNat 47) (h2 : (hd.toList != d.toList) = false) : bys hd = dirL (bys x) := by
  rw [bys_bne, hd9, Int.toNat_natCast, bys_len, hh] at h2
  unfold dirL
  rw [if_neg (fun x => x.2 (by simpa using h2)), hh]
theorem bdir3 {x hd : Array UInt8} (hh : bys hd = upTo (bys x)) (h : (hd.size : Int) = 0) : bys hd = dirL (bys x) := by
  have h0 : upTo (bys x) = [] := by rw [← hh]; exact List.eq_nil_of_length_eq_zero (by rw [← bys_len]; omega)
  unfold dirL
  rw [if_neg (fun x => x.1 h0), hh]
theorem dir_bytes (w : World) (mean : ExcName → Option Value) (mg mb : Str → Option Value) (x : Array UInt8) (t : Tok) (hx : x.size ≤ 1000) :
    Con w mean mg mb 136 2 [.bytes x t] (fun v => ∃ y t, v = .bytes y t ∧ bys y = dirL (bys x)) := by
  w_on
  unfold Con
  k_fill
  intro news dp un gd cn cs a ccd cl outer A₀ base h₀ L m s Q E B F X N T hk hd hu hret
  refine wpAny_call ?_
  k_dflt cell_enter
  k_steps
  all_goals refine hret _ _ _ ⟨_, _, rfl, ?_⟩ (by k_asm) (by k_asm)
  · exact bdir1 (bys_head x) (by with_reducible assumption) (by with_reducible assumption) (by with_reducible assumption) (by with_reducible assumption)
  · exact bdir2 (bys_head x) (by with_reducible assumption) (by with_reducible assumption)
  · exact bdir3 (bys_head x) (by with_reducible assumption)
end Mine
end

noncomputable section
open PySem PySem.W PyProof.Rows PySem.Calls
set_option maxHeartbeats 8000000
namespace Mine
section
variable {x y : Array UInt8}
theorem bjn1 (h : startsB y #[47] = true) : bys y = joinF (bys x) (bys y) := by
  rw [starts_by] at h
  unfold joinF
  rw [if_pos (.inl (by simpa using h))]
theorem bjn2 (h : (x.size : Int) = 0) : bys y = joinF (bys x) (bys y) := by
  have : bys x = [] := bys_nil h
  unfold joinF
  rw [if_pos (.inr this)]
theorem bjn3 (h : startsB y #[47] = false) (h1 : (x.size : Int) ≠ 0) (h2 : endsB x #[47] = true) : bys (x ++ y) = joinF (bys x) (bys y) := by
  rw [starts_by] at h
  rw [ends_by] at h2
  have h0 : bys x ≠ [] := fun e => h1 (by rw [bys_len, e]; rfl)
  unfold joinF
  rw [if_neg (by rintro (e | e); simp [e] at h; exact h0 e), if_pos (by simpa using h2), bys_append]
theorem bjn4 (h : startsB y #[47] = false) (h1 : (x.size : Int) ≠ 0) (h2 : endsB x #[47] = false) : bys (x ++ (#[47] ++ y)) = joinF (bys x) (bys y) := by
  rw [starts_by] at h
  rw [ends_by] at h2
  have h0 : bys x ≠ [] := fun e => h1 (by rw [bys_len, e]; rfl)
  unfold joinF
  rw [if_neg (by rintro (e | e); simp [e] at h; exact h0 e), if_neg (by simpa using h2), bys_append, bys_append, bys_sl]; rfl
end
def BJnP (x y : Array UInt8) (v : Value) : Prop := ∃ z t, v = .bytes z t ∧ bys z = joinF (bys x) (bys y)
local macro_rules | `(tactic| walk_at "call ref") => `(tactic| (k_here; (with_reducible show wpAny _ _ (call (Value.ref 94) [Value.str _ _]) _ _ _); k_dflt (refine' Con.use (fspath_str _ _ _ _ _ _) ?k1 ?k2 ?k3 ?k4 ?k5 ?kK ?kd ?ku ?_; (case k1 => k_asm); (case k2 => k_asm); (case k3 => k_asm); (case k4 => k_asm); (case k5 => k_asm); (case kK => first | exact rfl | assumption); (case kd => ktr_room); (case ku => ktr_units); intro v9 h9 tk9 hR9 F9 N9; subst hR9; (try dsimp only); (try k_fold))))
local macro_rules | `(tactic| walk_at "call ref") => `(tactic| (k_here; (with_reducible show wpAny _ _ (call (Value.ref 94) [Value.bytes _ _]) _ _ _); k_dflt (refine' Con.use (fspath_bytes _ _ _ _ _ _) ?k1 ?k2 ?k3 ?k4 ?k5 ?kK ?kd ?ku ?_; (case k1 => k_asm); (case k2 => k_asm); (case k3 => k_asm); (case k4 => k_asm); (case k5 => k_asm); (case kK => first | exact rfl | assumption); (case kd => ktr_room); (case ku => ktr_units); intro v9 h9 tk9 hR9 F9 N9; subst hR9; (try dsimp only); (try k_fold))))
local macro_rules | `(tactic| walk_at "call ref") => `(tactic| (k_here; (with_reducible show wpAny _ _ (call (Value.ref 108) [Value.str _ _]) _ _ _); k_dflt (refine' Con.use (sep_str _ _ _ _ _ _) ?k1 ?k2 ?k3 ?k4 ?k5 ?kK ?kd ?ku ?_; (case k1 => k_asm); (case k2 => k_asm); (case k3 => k_asm); (case k4 => k_asm); (case k5 => k_asm); (case kK => first | exact rfl | assumption); (case kd => ktr_room); (case ku => ktr_units); intro v9 h9 tk9 hR9 F9 N9; obtain ⟨t9, e9⟩ := hR9; subst e9; (try dsimp only); (try k_fold))))
local macro_rules | `(tactic| walk_at "call ref") => `(tactic| (k_here; (with_reducible show wpAny _ _ (call (Value.ref 108) [Value.bytes _ _]) _ _ _); k_dflt (refine' Con.use (sep_bytes _ _ _ _ _ _) ?k1 ?k2 ?k3 ?k4 ?k5 ?kK ?kd ?ku ?_; (case k1 => k_asm); (case k2 => k_asm); (case k3 => k_asm); (case k4 => k_asm); (case k5 => k_asm); (case kK => first | exact rfl | assumption); (case kd => ktr_room); (case ku => ktr_units); intro v9 h9 tk9 hR9 F9 N9; obtain ⟨t9, e9⟩ := hR9; subst e9; (try dsimp only); (try k_fold))))
local macro_rules | `(tactic| walk_at "getMethod bytes") => `(tactic| (k_here; (with_reducible first | refine by_meth_starts ?_ | refine by_meth_ends ?_ | refine by_meth_rfind ?_ | refine by_meth_rstrip ?_ | refine by_meth_split ?_ | refine by_meth_join ?_)))
local macro_rules | `(tactic| walk_at "call builtin:bytes.startswith nil") => `(tactic| (k_here; (with_reducible show wpAny _ _ (call (Value.builtin "bytes.startswith") _) _ _ _); k_dflt (refine' by_starts ?_)))
local macro_rules | `(tactic| walk_at "call builtin:bytes.endswith nil") => `(tactic| (k_here; (with_reducible show wpAny _ _ (call (Value.builtin "bytes.endswith") _) _ _ _); k_dflt (refine' by_ends ?_)))
local macro_rules | `(tactic| walk_at "call builtin:bytes.rfind nil") => `(tactic| (k_here; (with_reducible show wpAny _ _ (call (Value.builtin "bytes.rfind") _) _ _ _); k_dflt (refine' by_rfind ?_); intro _ _))
local macro_rules | `(tactic| walk_at "call builtin:bytes.rstrip nil") => `(tactic| (k_here; (with_reducible show wpAny _ _ (call (Value.builtin "bytes.rstrip") _) _ _ _); k_dflt (refine' by_rstrip ?kz ?_; (case kz => omega)); intro d9 t9 k9 hd9))
local macro_rules | `(tactic| walk_at "truthy bytes") => `(tactic| (k_here; (with_reducible show wpAny _ _ (truthy (Value.bytes _ _)) _ _ _); refine truthy_bytes (by (try simp only [Array.size_append]); omega) ?_))
local macro_rules | `(tactic| walk_at "call builtin:len") => `(tactic| (k_here; (with_reducible show wpAny _ _ (call (Value.builtin "len") [Value.bytes _ _]) _ _ _); (refine len_bytes (by omega) ?_)))
local macro_rules | `(tactic| walk_at "binaryOp Add bytes bytes") => `(tactic| (k_here; (with_reducible show wpAny _ _ (binaryOp Operator.Add (Value.bytes _ _) (Value.bytes _ _)) _ _ _); (refine KBy.add_bytes (by (try simp only [Array.size_append, sz47]); omega) ?_); intro _ _))
local macro_rules | `(tactic| walk_at "inplaceOp Add bytes bytes") => `(tactic| (k_here; (with_reducible show wpAny _ _ (inplaceOp Operator.Add (Value.bytes _ _) (Value.bytes _ _)) _ _ _); (refine by_iadd (by (try simp only [Array.size_append, sz47]); omega) ?_); intro _ _))
local macro_rules | `(tactic| walk_at "binaryOp Mult bytes int") => `(tactic| (k_here; (with_reducible show wpAny _ _ (binaryOp Operator.Mult (Value.bytes _ _) (Value.int _ _)) _ _ _); (refine by_mul (by omega) (by omega) ?_); intro d9 t9 k9 hd9))
local macro_rules | `(tactic| walk_at "subscriptTail") => `(tactic| (k_here; (with_reducible show wpAny _ _ (subscriptTail _ (Expr.Slice _ _ none _) (Value.bytes _ _) (Value.ref _)) _ _ _); (with_reducible rename Fr _ _ _ _ => F'); (with_reducible rename News _ _ _ _ => N'); (refine by_slice (s := ⟨_, _, _, _, _⟩) F' N' (by constructor) (by constructor) (by omega) ?_); intro _ _ _ _ _ hz9))
local macro_rules | `(tactic| walk_at "exec For Name Name cons nil") => `(tactic| (k_here; (rename Fr _ _ _ _ => lF'); (with_unfolding_all refine' For_invVF lF' ?k1 ?k2 ?_; (case k1 => exact rfl); (case k2 => exact rfl); k_whole)))
theorem join_bytes (w : World) (mean : ExcName → Option Value) (mg mb : Str → Option Value) (x y : Array UInt8) (t u : Tok) (hx : x.size ≤ 1000) (hy : y.size ≤ 1000) :
    Con w mean mg mb 122 2 [.bytes x t, .bytes y u] (fun v => ∃ z t, v = .bytes z t ∧ bys z = joinF (bys x) (bys y)) := by
  k_with "pyIter ref" => ((rename Fr _ _ _ _ => lF'); (rename News _ _ _ _ => lN'); (with_unfolding_all refine' for_one (Str.ofString "path") (BJnP x y) (by rfl) lF' lN' ?kl ?_ ?_); (case kl => assumption); (all_goals (try clear lF' lN')); intro h' tk' own' off' F' N'; (try k_fold); rotate_left; intro m' u' h' tk' hP' F' N'; obtain ⟨z', t', e', hz'⟩ := hP'; subst e'; (try k_fold); rotate_left)
  w_on
  unfold Con
  k_fill
  intro news dp un gd cn cs a ccd cl outer A₀ base h₀ L m s Q E B F X N T hk hd hu hret
  refine wpAny_call ?_
  k_dflt (refine' kp_rest ?k1 ?k2 ?k3 ?k4 ?k5 ?kA ?kF ?kK ?k6 ?k7 ?k8 ?kV ?kP ?kG ?kB ?_ ?c2 ?c3 ?c4 ?c5; (case kA => exact rfl); (case kF => exact rfl); (case kK => assumption); (case k1 => k_asm); (case k2 => k_asm); (case k3 => k_asm); (case k4 => k_asm); (case k5 => k_asm); (case k6 => k_is); (case k7 => k_is); (case k8 => ktr_room); (case kV => kl_lit); (case kP => exact rfl); (case kG => exact fun _ => rfl); (case kB => exact fun _ => locs rfl); (case c5 => decide); (case c2 => exact rfl); (case c3 => exact rfl); (case c4 => exact rfl); k_whole; intro D' g' L' h' l1 FG' F' N' B' X' T'; (try dsimp only); (try k_lift B'); (try k_fold))
  k_steps
  · refine' invN_end ?ka ?kb ?kc ?kd ?ke ?kf; (case ka => assumption); (case kb => assumption); (case ke => exact rfl); (case kc => kcj_all); (case kd => kcj_all); (case kf => exact ⟨_, _, rfl, bjn1 (by with_reducible assumption)⟩)
  · refine' invN_end ?ka ?kb ?kc ?kd ?ke ?kf; (case ka => assumption); (case kb => assumption); (case ke => exact rfl); (case kc => kcj_all); (case kd => kcj_all); (case kf => exact ⟨_, _, rfl, bjn3 (by with_reducible assumption) (by with_reducible assumption) (by with_reducible assumption)⟩)
  · refine' invN_end ?ka ?kb ?kc ?kd ?ke ?kf; (case ka => assumption); (case kb => assumption); (case ke => exact rfl); (case kc => kcj_all); (case kd => kcj_all); (case kf => exact ⟨_, _, rfl, bjn4 (by with_reducible assumption) (by with_reducible assumption) (by with_reducible assumption)⟩)
  · refine' invN_end ?ka ?kb ?kc ?kd ?ke ?kf; (case ka => assumption); (case kb => assumption); (case ke => exact rfl); (case kc => kcj_all); (case kd => kcj_all); (case kf => exact ⟨_, _, rfl, bjn2 (by with_reducible assumption)⟩)
  · exact hret _ _ _ ⟨_, _, rfl, by with_reducible assumption⟩ (by k_asm) (by k_asm)
end Mine
end

noncomputable section
open PySem PySem.W PyProof.Rows PySem.Calls
set_option maxHeartbeats 8000000
namespace Mine
theorem b_dot : bys #[46] = [46] := rfl
theorem b_dots : bys #[46, 46] = [46, 46] := rfl
section
variable {x y z : Array UInt8}
theorem broot_b (hy : bys y = (rootL (bys x)).1) (hz : bys z = (rootL (bys x)).2) (hx : x.size ≤ 1000) : y.size ≤ 1000 ∧ z.size ≤ 1000 := by
  have := root_len (bys x)
  rw [← hy, ← hz, ← bys_len, ← bys_len, ← bys_len] at this
  omega
theorem by_item {l : List (Array UInt8 × Tok)} {z : Array UInt8} {i : Nat} {v : Value} (e : l.map (fun q => bys q.1) = splitL (bys z)) (hv : (byVals l)[i]? = some v) :
    ∃ p t, v = .bytes p t ∧ (splitL (bys z))[i]? = some (bys p) := by
  unfold byVals at hv
  rw [List.getElem?_map] at hv
  cases h : l[i]? with
  | none => rw [h] at hv; simp at hv
  | some q =>
    rw [h] at hv
    refine ⟨q.1, q.2, by simpa using hv.symm, ?_⟩
    rw [← e, List.getElem?_map, h]; rfl
theorem bvals_len {l : List (Array UInt8 × Tok)} {z : Array UInt8} (e : l.map (fun q => bys q.1) = splitL (bys z)) : (byVals l).length = (splitL (bys z)).length := by
  rw [← e]; simp [byVals]
theorem bnorm_turn {l : List (Array UInt8 × Tok)} {z : Array UInt8} {i : Nat} {v : Value} {us : List Value} {ini body : List Nat} (e : l.map (fun q => bys q.1) = splitL (bys z)) (hz : bys z = body) (hb : z.size ≤ 1000) (hv : (byVals l)[i]? = some v) (hR : NpR true ini body i us) :
    ∃ p t acc, v = .bytes p t ∧ p.size ≤ 1000 ∧ us.length ≤ 2000 ∧ Ks true us acc ∧ ∀ us', Ks true us' (npStep ini acc (bys p)) → NpR true ini body (i + 1) us' := by
  obtain ⟨p, t, ev, hl⟩ := by_item e hv
  rw [hz] at hl
  obtain ⟨acc, h1, h2, h3, h4⟩ := np_turn (by rw [← hz, ← bys_len]; exact hb) hl hR
  exact ⟨p, t, acc, ev, by rw [bys_len]; exact h1, h2, h3, h4⟩
theorem bnorm_done {l : List (Array UInt8 × Tok)} {z : Array UInt8} {us : List Value} {ini body : List Nat} (e : l.map (fun q => bys q.1) = splitL (bys z)) (hz : bys z = body) (hb : z.size ≤ 1000) (hR : NpR true ini body (byVals l).length us) :
    Ks true us ((splitL body).foldl (npStep ini) []) ∧ wt ((splitL body).foldl (npStep ini) []) ≤ 1001 := by
  unfold NpR at hR
  rw [bvals_len e, hz, List.take_length] at hR
  refine ⟨hR, ?_⟩
  have h1 := wt_fold ini (splitL body) []
  have h2 := wt_split body
  have h3 : body.length ≤ 1000 := by rw [← hz, ← bys_len]; exact hb
  have h4 : wt [] = 0 := rfl
  omega
end
section
variable {ini : List Nat} {acc : List (List Nat)} {us ys : List Value} {p q y : Array UInt8} {t u : Tok}
theorem bnorm_fin0 {x : Array UInt8} (h : (x.size : Int) = 0) : bys #[46] = npF (bys x) := by
  have : bys x = [] := List.eq_nil_of_length_eq_zero (by rw [← bys_len]; omega)
  rw [this, b_dot]; rfl
theorem bnorm_fin1 {x r j : Array UInt8} (h : (x.size : Int) ≠ 0) (hr : bys r = (rootL (bys x)).1) (hj : bys j = joinL ((splitL (rootL (bys x)).2).foldl (npStep (rootL (bys x)).1) [])) (h2 : ((r ++ j).size : Int) ≠ 0) : bys (r ++ j) = npF (bys x) := by
  have h0 : bys x ≠ [] := fun e => h (by rw [bys_len, e]; rfl)
  have h3 : bys (r ++ j) ≠ [] := fun e => h2 (by rw [bys_len, e]; rfl)
  rw [bys_append, hr, hj] at h3
  unfold npF orDot
  rw [if_neg h0, if_neg h3, bys_append, hr, hj]
theorem bnorm_fin2 {x r j : Array UInt8} (h : (x.size : Int) ≠ 0) (hr : bys r = (rootL (bys x)).1) (hj : bys j = joinL ((splitL (rootL (bys x)).2).foldl (npStep (rootL (bys x)).1) [])) (h2 : ((r ++ j).size : Int) = 0) : bys #[46] = npF (bys x) := by
  have h0 : bys x ≠ [] := fun e => h (by rw [bys_len, e]; rfl)
  have h3 : bys (r ++ j) = [] := List.eq_nil_of_length_eq_zero (by rw [← bys_len]; omega)
  rw [bys_append, hr, hj] at h3
  unfold npF orDot
  rw [if_neg h0, if_pos h3, b_dot]
theorem kvB (p : Array UInt8) (t : Tok) : Kv true (.bytes p t) (bys p) := ⟨p, t, rfl, rfl⟩
theorem bnp_A (hK : Ks true us acc) (h : (p.size : Int) = 0) : Ks true us (npStep ini acc (bys p)) := by
  have : bys p = [] := List.eq_nil_of_length_eq_zero (by rw [← bys_len]; omega)
  unfold npStep
  rw [if_pos (.inl this)]; exact hK
theorem bnp_B (hK : Ks true us acc) (h : (p.toList == (#[46] : Array UInt8).toList) = true) : Ks true us (npStep ini acc (bys p)) := by
  rw [bys_beq, b_dot] at h
  unfold npStep
  rw [if_pos (.inr (by simpa using h))]; exact hK
theorem bnp_not (h : (p.size : Int) ≠ 0) (h2 : (p.toList == (#[46] : Array UInt8).toList) = false) : ¬ (bys p = [] ∨ bys p = [46]) := by
  rw [bys_beq, b_dot] at h2
  rintro (e | e)
  · exact h (by rw [bys_len, e]; rfl)
  · rw [e] at h2; simp at h2
theorem bnp_C (hK : Ks true us acc) (h : (p.size : Int) ≠ 0) (h2 : (p.toList == (#[46] : Array UInt8).toList) = false) (h3 : (p.toList != (#[46, 46] : Array UInt8).toList) = true) : Ks true (us ++ [.bytes p t]) (npStep ini acc (bys p)) := by
  rw [bys_bne, b_dots] at h3
  unfold npStep
  rw [if_neg (bnp_not h h2), if_pos (.inl (by simpa using h3))]
  exact Ks.snoc (kvB p t) hK
theorem bnp_D (hK : Ks true [] acc) (h : (p.size : Int) ≠ 0) (h2 : (p.toList == (#[46] : Array UInt8).toList) = false) (hi : bys y = ini) (h4 : (y.size : Int) = 0) : Ks true [.bytes p t] (npStep ini acc (bys p)) := by
  have ha := Ks.nil hK
  have : ini = [] := by rw [← hi]; exact List.eq_nil_of_length_eq_zero (by rw [← bys_len]; omega)
  unfold npStep
  rw [if_neg (bnp_not h h2), if_pos (.inr (.inl ⟨this, ha⟩))]
  exact Ks.snoc (kvB p t) hK
theorem bnp_E (hK : Ks true ys acc) (h : (p.size : Int) ≠ 0) (h2 : (p.toList == (#[46] : Array UInt8).toList) = false) (h5 : (q.toList == (#[46, 46] : Array UInt8).toList) = true) : Ks true ((ys ++ [.bytes q u]) ++ [.bytes p t]) (npStep ini (acc ++ [bys q]) (bys p)) := by
  rw [bys_beq, b_dots] at h5
  unfold npStep
  rw [if_neg (bnp_not h h2), if_pos (.inr (.inr ⟨by simp, by rw [List.getLast?_append]; simpa using h5⟩))]
  exact Ks.snoc (kvB p t) (Ks.snoc (kvB q u) hK)
theorem bnp_F (hK : Ks true ys acc) (h : (p.size : Int) ≠ 0) (h2 : (p.toList == (#[46] : Array UInt8).toList) = false) (h3 : (p.toList != (#[46, 46] : Array UInt8).toList) = false) (h5 : (q.toList == (#[46, 46] : Array UInt8).toList) = false) : Ks true ys (npStep ini (acc ++ [bys q]) (bys p)) := by
  rw [bys_bne, b_dots] at h3
  rw [bys_beq, b_dots] at h5
  have h3' : bys p = [46, 46] := by simpa using h3
  have h5' : bys q ≠ [46, 46] := by simpa using h5
  unfold npStep
  rw [if_neg (bnp_not h h2), if_neg, List.dropLast_concat]
  · exact hK
  · rintro (e | ⟨_, e⟩ | ⟨_, e⟩)
    · exact e h3'
    · simp at e
    · rw [List.getLast?_append] at e; simp at e; exact h5' e
theorem bnp_G (hK : Ks true [] acc) (h : (p.size : Int) ≠ 0) (h2 : (p.toList == (#[46] : Array UInt8).toList) = false) (h3 : (p.toList != (#[46, 46] : Array UInt8).toList) = false) (hi : bys y = ini) (h4 : (y.size : Int) ≠ 0) : Ks true [] (npStep ini acc (bys p)) := by
  have ha := Ks.nil hK
  subst ha
  rw [bys_bne, b_dots] at h3
  have h3' : bys p = [46, 46] := by simpa using h3
  have : ini ≠ [] := by rw [← hi]; intro e; exact h4 (by rw [bys_len, e]; rfl)
  unfold npStep
  rw [if_neg (bnp_not h h2), if_neg (by simp [h3', this])]
  exact hK
end
section
variable {prog : Program} {w : World} {A : Around} {E : Value → Shared → Prop} {s : Shared} {h₀ : Heap} {L nl : Addr} {news : List (Addr × Obj)} {us : List Value} {c : Nat} {acc : List (List Nat)}
theorem lstB_truthy {Q : Bool → Shared → Prop} (N : News h₀ L s.heap news) (hm : (nl, listOf us.toArray c) ∈ news) (hz : us.length ≤ 2000) (hK : Ks true us acc)
    (h0 : us = [] → Q false { s with toks := s.toks + 1 + 1 }) (h1 : ∀ ys q u acc', us = ys ++ [.bytes q u] → acc = acc' ++ [bys q] → Ks true ys acc' → Q true { s with toks := s.toks + 1 + 1 }) : wpAny (model prog w) A (truthy (.ref nl)) Q E s := by
  refine lst_truthy N hm (by omega) h0 fun ys y e => ?_
  subst e
  obtain ⟨ls, l, e2, h2, h3⟩ := Ks.unsnoc hK
  obtain ⟨q, u, e3, e4⟩ := h3
  subst e3 e4
  exact h1 ys q u ls rfl e2 h2
end
local macro_rules | `(tactic| walk_at "call ref") => `(tactic| (k_here; (with_reducible show wpAny _ _ (call (Value.ref 94) [Value.str _ _]) _ _ _); k_dflt (refine' Con.use (fspath_str _ _ _ _ _ _) ?k1 ?k2 ?k3 ?k4 ?k5 ?kK ?kd ?ku ?_; (case k1 => k_asm); (case k2 => k_asm); (case k3 => k_asm); (case k4 => k_asm); (case k5 => k_asm); (case kK => first | exact rfl | assumption); (case kd => ktr_room); (case ku => ktr_units); intro v9 h9 tk9 hR9 F9 N9; subst hR9; (try dsimp only); (try k_fold))))
local macro_rules | `(tactic| walk_at "call ref") => `(tactic| (k_here; (with_reducible show wpAny _ _ (call (Value.ref 94) [Value.bytes _ _]) _ _ _); k_dflt (refine' Con.use (fspath_bytes _ _ _ _ _ _) ?k1 ?k2 ?k3 ?k4 ?k5 ?kK ?kd ?ku ?_; (case k1 => k_asm); (case k2 => k_asm); (case k3 => k_asm); (case k4 => k_asm); (case k5 => k_asm); (case kK => first | exact rfl | assumption); (case kd => ktr_room); (case ku => ktr_units); intro v9 h9 tk9 hR9 F9 N9; subst hR9; (try dsimp only); (try k_fold))))
local macro_rules | `(tactic| walk_at "call ref") => `(tactic| (k_here; (with_reducible show wpAny _ _ (call (Value.ref 108) [Value.str _ _]) _ _ _); k_dflt (refine' Con.use (sep_str _ _ _ _ _ _) ?k1 ?k2 ?k3 ?k4 ?k5 ?kK ?kd ?ku ?_; (case k1 => k_asm); (case k2 => k_asm); (case k3 => k_asm); (case k4 => k_asm); (case k5 => k_asm); (case kK => first | exact rfl | assumption); (case kd => ktr_room); (case ku => ktr_units); intro v9 h9 tk9 hR9 F9 N9; obtain ⟨t9, e9⟩ := hR9; subst e9; (try dsimp only); (try k_fold))))
local macro_rules | `(tactic| walk_at "call ref") => `(tactic| (k_here; (with_reducible show wpAny _ _ (call (Value.ref 108) [Value.bytes _ _]) _ _ _); k_dflt (refine' Con.use (sep_bytes _ _ _ _ _ _) ?k1 ?k2 ?k3 ?k4 ?k5 ?kK ?kd ?ku ?_; (case k1 => k_asm); (case k2 => k_asm); (case k3 => k_asm); (case k4 => k_asm); (case k5 => k_asm); (case kK => first | exact rfl | assumption); (case kd => ktr_room); (case ku => ktr_units); intro v9 h9 tk9 hR9 F9 N9; obtain ⟨t9, e9⟩ := hR9; subst e9; (try dsimp only); (try k_fold))))
local macro_rules | `(tactic| walk_at "getMethod bytes") => `(tactic| (k_here; (with_reducible first | refine by_meth_starts ?_ | refine by_meth_ends ?_ | refine by_meth_rfind ?_ | refine by_meth_rstrip ?_ | refine by_meth_split ?_ | refine by_meth_join ?_)))
local macro_rules | `(tactic| walk_at "call builtin:bytes.startswith nil") => `(tactic| (k_here; (with_reducible show wpAny _ _ (call (Value.builtin "bytes.startswith") _) _ _ _); k_dflt (refine' by_starts ?_)))
local macro_rules | `(tactic| walk_at "call builtin:bytes.endswith nil") => `(tactic| (k_here; (with_reducible show wpAny _ _ (call (Value.builtin "bytes.endswith") _) _ _ _); k_dflt (refine' by_ends ?_)))
local macro_rules | `(tactic| walk_at "call builtin:bytes.rfind nil") => `(tactic| (k_here; (with_reducible show wpAny _ _ (call (Value.builtin "bytes.rfind") _) _ _ _); k_dflt (refine' by_rfind ?_); intro _ _))
local macro_rules | `(tactic| walk_at "call builtin:bytes.rstrip nil") => `(tactic| (k_here; (with_reducible show wpAny _ _ (call (Value.builtin "bytes.rstrip") _) _ _ _); k_dflt (refine' by_rstrip ?kz ?_; (case kz => omega)); intro d9 t9 k9 hd9))
local macro_rules | `(tactic| walk_at "truthy bytes") => `(tactic| (k_here; (with_reducible show wpAny _ _ (truthy (Value.bytes _ _)) _ _ _); refine truthy_bytes (by (try simp only [Array.size_append]); omega) ?_))
local macro_rules | `(tactic| walk_at "call builtin:len") => `(tactic| (k_here; (with_reducible show wpAny _ _ (call (Value.builtin "len") [Value.bytes _ _]) _ _ _); (refine len_bytes (by omega) ?_)))
local macro_rules | `(tactic| walk_at "binaryOp Add bytes bytes") => `(tactic| (k_here; (with_reducible show wpAny _ _ (binaryOp Operator.Add (Value.bytes _ _) (Value.bytes _ _)) _ _ _); (refine KBy.add_bytes (by (try simp only [Array.size_append, sz47]); omega) ?_); intro _ _))
local macro_rules | `(tactic| walk_at "inplaceOp Add bytes bytes") => `(tactic| (k_here; (with_reducible show wpAny _ _ (inplaceOp Operator.Add (Value.bytes _ _) (Value.bytes _ _)) _ _ _); (refine by_iadd (by (try simp only [Array.size_append, sz47]); omega) ?_); intro _ _))
local macro_rules | `(tactic| walk_at "binaryOp Mult bytes int") => `(tactic| (k_here; (with_reducible show wpAny _ _ (binaryOp Operator.Mult (Value.bytes _ _) (Value.int _ _)) _ _ _); (refine by_mul (by omega) (by omega) ?_); intro d9 t9 k9 hd9))
local macro_rules | `(tactic| walk_at "subscriptTail") => `(tactic| (k_here; (with_reducible show wpAny _ _ (subscriptTail _ (Expr.Slice _ _ none _) (Value.bytes _ _) (Value.ref _)) _ _ _); (with_reducible rename Fr _ _ _ _ => F'); (with_reducible rename News _ _ _ _ => N'); (refine by_slice (s := ⟨_, _, _, _, _⟩) F' N' (by constructor) (by constructor) (by omega) ?_); intro _ _ _ _ _ hz9))
local macro_rules | `(tactic| walk_at "call ref") => `(tactic| (k_here; (with_reducible show wpAny _ _ (call (Value.ref 129) [Value.bytes _ _]) _ _ _); k_dflt (refine' ConT.use (split_bytes _ _ _ _ _ _ ?kx) ?k1 ?k2 ?k3 ?k4 ?k5 ?kK ?kd ?ku ?_; (case k1 => k_asm); (case k2 => k_asm); (case k3 => k_asm); (case k4 => k_asm); (case k5 => k_asm); (case kK => first | exact rfl | assumption); (case kd => ktr_room); (case ku => ktr_units); (case kx => assumption); intro D9 v1 v2 v3 h9 tk9 hR9 F9 N9 l9; obtain ⟨e9, t1, y9, t2, z9, t3, q1, q2, q3, hy9, hz9⟩ := hR9; subst q1 q2 q3; (have hb9 := broot_b hy9 hz9 (by assumption)); obtain ⟨hby9, hbz9⟩ := hb9; (try dsimp only); (try k_fold))))
local macro_rules | `(tactic| walk_at "call builtin:bytes.split nil") => `(tactic| (k_here; (with_reducible show wpAny _ _ (call (Value.builtin "bytes.split") _) _ _ _); k_dflt (refine' by_split ?k1 ?k2 ?k3 ?_; (case k1 => k_asm); (case k2 => k_asm); (case k3 => omega)); intro D9 l9 h9 k9 e9 F9 N9 lt9; (have ltn9 := lt_tail lt9)))
local macro_rules | `(tactic| walk_at "exec For Name Name cons nil") => `(tactic| (k_here; (rename Fr _ _ _ _ => lF'); (with_unfolding_all refine' For_invVF lF' ?k1 ?k2 ?_; (case k1 => exact rfl); (case k2 => exact rfl); k_whole)))
local macro_rules | `(tactic| walk_at "truthy ref") => `(tactic| (k_here; (with_reducible show wpAny _ _ (truthy (Value.ref _)) _ _ _); k_dflt (first
  | (refine' lstS_truthy0 ?k1 ?k2 ?_; (case k1 => k_asm); (case k2 => k_mem); k_whole)
  | (refine' lstS_truthyC ?k1 ?k2 ?k3 ?_; (case k1 => k_asm); (case k2 => k_mem); (case k3 => assumption); k_whole)
  | ((with_reducible rename Ks _ _ _ => hK9); refine' lstB_truthy ?k1 ?k2 ?k3 hK9 ?_ ?_; (case k1 => k_asm); (case k2 => k_mem); (case k3 => assumption); (all_goals k_whole); (intro e9; subst e9); rotate_left; (intro ys9 q9 u9 a9 e9 ea9 hy9; subst e9; subst ea9); rotate_left))))
local macro_rules | `(tactic| walk_at "subscriptTail") => `(tactic| (k_here; (with_reducible show wpAny _ _ (subscriptTail _ _ (Value.ref _) (Value.int _ _)) _ _ _); k_dflt (refine' lst_last ?k1 ?k2 ?_; (case k1 => k_asm); (case k2 => k_mem); k_whole)))
local macro_rules | `(tactic| walk_at "call builtin:list.pop cons nil") => `(tactic| (k_here; (with_reducible show wpAny _ _ (call (Value.builtin _) [Value.ref _]) _ _ _); k_dflt (refine' lst_pop ?k1 ?k2 ?k3 ?k4 ?_; (case k1 => k_asm); (case k2 => k_asm); (case k3 => assumption); (case k4 => ((simp only [List.length_append, List.length_cons, List.length_nil] at *); omega)); k_whole); intro h' F' N'; (try k_sweep)))
local macro_rules | `(tactic| walk_at "call builtin:list.append nil") => `(tactic| (k_here; (with_reducible show wpAny _ _ (call (Value.builtin _) _) _ _ _); k_dflt (refine' lst_append ?k1 ?k2 ?k3 ?k4 ?_; (case k1 => k_asm); (case k2 => k_asm); (case k3 => assumption); (case k4 => omega); k_whole); intro h' F' N'; (try k_sweep)))
local macro_rules | `(tactic| walk_at "call builtin:bytes.join nil") => `(tactic| (k_here; (with_reducible show wpAny _ _ (call (Value.builtin "bytes.join") _) _ _ _); (with_reducible rename Ks _ _ _ => hK9); k_dflt (refine' lstB_join ?k1 ?k2 hK9 ?k4 ?_; (case k1 => k_asm); (case k2 => k_mem); (case k4 => omega); k_whole); intro y9 t9 k9 hj9 hl9))
theorem norm_bytes (w : World) (mean : ExcName → Option Value) (mg mb : Str → Option Value) (x : Array UInt8) (t : Tok) (hx : x.size ≤ 1000) :
    Con w mean mg mb 143 3 [.bytes x t] (fun v => ∃ y t, v = .bytes y t ∧ bys y = npF (bys x)) := by
  k_with "pyIter ref" => ((rename Fr _ _ _ _ => lF'); (rename News _ _ _ _ => lN'); (with_unfolding_all refine' for_vals (news := news) (NpR true (rootL (bys x)).1 (rootL (bys x)).2) (by rfl) lF' ?kl ?kL ?kN ?kh ?kr ?_ ?_); (case kN => exact cb_drop lN' (by kcj_all)); (case kl => exact News.isList lN' (by k_mem)); (case kL => exact ne_frame lN' (by k_mem)); (case kh => exact hlt_of (by omega) (by assumption)); (case kr => exact trivial); (all_goals (try clear lF' lN')); intro i8 v8 us8 c8 h8 tk8 own8 hv8 off8 hR8 F8 N8; obtain ⟨p8, t8, acc8, ev8, hp8, hus8, hK8, hstep8⟩ := bnorm_turn (by assumption) (by assumption) (by assumption) hv8 hR8; subst ev8; (have hne8 := off_ne off8 (by assumption) (by omega)); (try k_fold); rotate_left; intro u8 us8 c8 h8 tk8 hR8 F8 N8; (have hd8 := bnorm_done (by assumption) (by assumption) (by assumption) hR8); obtain ⟨hK8, hw8⟩ := hd8; (try k_fold); rotate_left)
  k_with "InvEndN" => ((refine' nrm_end ?k1 ?k2 ?k3 ?k4); (case k1 => assumption); (case k2 => assumption); (case k3 => (intro z h1; simp [h1])); (case k4 => (refine hstep8 _ ?_; first
    | with_reducible exact bnp_A hK8 (by with_reducible assumption)
    | with_reducible exact bnp_B hK8 (by with_reducible assumption)
    | with_reducible exact bnp_C hK8 (by with_reducible assumption) (by with_reducible assumption) (by with_reducible assumption)
    | exact bnp_D (by with_reducible assumption) (by with_reducible assumption) (by with_reducible assumption) (by with_reducible assumption) (by with_reducible assumption)
    | with_reducible exact bnp_E (by with_reducible assumption) (by with_reducible assumption) (by with_reducible assumption) (by with_reducible assumption)
    | with_reducible exact bnp_F (by with_reducible assumption) (by with_reducible assumption) (by with_reducible assumption) (by with_reducible assumption) (by with_reducible assumption)
    | exact bnp_G (by with_reducible assumption) (by with_reducible assumption) (by with_reducible assumption) (by with_reducible assumption) (by with_reducible assumption) (by with_reducible assumption))))
  w_on
  unfold Con
  k_fill
  intro news dp un gd cn cs a ccd cl outer A₀ base h₀ L m s Q E B F X N T hk hd hu hret
  refine wpAny_call ?_
  k_dflt cell_enter
  k_steps
  · exact hret _ _ _ ⟨_, _, rfl, bnorm_fin1 (by with_reducible assumption) (by with_reducible assumption) (by with_reducible assumption) (by with_reducible assumption)⟩ (by k_asm) (cb_drop (by assumption) (by kcj_all))
  · exact hret _ _ _ ⟨_, _, rfl, bnorm_fin2 (by with_reducible assumption) (by with_reducible assumption) (by with_reducible assumption) (by with_reducible assumption)⟩ (by k_asm) (cb_drop (by assumption) (by kcj_all))
  · exact hret _ _ _ ⟨_, _, rfl, bnorm_fin0 (by with_reducible assumption)⟩ (by k_asm) (by k_asm)
end Mine
end

noncomputable section
open PySem PySem.W PyProof.Rows PySem.Calls PySem.Spec
set_option maxHeartbeats 8000000
namespace Mine
section
variable {prog : Program} {w : World} {A : Around} {E : Value → Shared → Prop} {s : Shared} {h₀ : Heap} {L : Addr} {m : Str → Option Value} {news : List (Addr × Obj)} {env : Env}
def ordOf (a : Str) : Int := ((a.cps.getD 0 0 : Nat) : Int)
theorem signs_ord (y : Str) : ((signs y).filter fun _ => true).map (fun a => PyData.int (ordOf a)) = ((chs y).map fun (c : Nat) => (c : Int)).map PyData.int := by
  unfold signs chs
  rw [List.filter_eq_self.mpr (fun _ _ => rfl), List.map_map, List.map_map]
  apply List.map_congr_left
  intro c _
  rfl
def OrdEnd (c : Nat) (s₂ : Shared) (r : Value) (s₃ : Shared) : Prop := (∃ t, r = .int (c : Int) t) ∧ Keeps s₂ s₃
theorem ListComp_ords {elt iter : Expr} {x : Str} {px : Pos} {scope : Scope} {cl : List (Str × Addr)} {pos : Pos} {Q : Value → Shared → Prop} {y : Str} {t : Tok}
    (hh : A.handled = none) (hclos : closureFor scope env = pure cl) (hcell : ∀ y ∈ scope.names, y.2 ≠ .cell) (hkind : scope.kind = .function)
    (hnames : ∀ y ∈ scope.names, y.2 = .local → scope.names.lookup y.1 = some .local) (hx : scope.names.lookup x = some .local)
    (F : Fr h₀ L s.heap m) (N : News h₀ L s.heap news) (hsz : y.length ≤ sizeLine)
    (hiter : ∀ Q' : Value → Shared → Prop, Q' (.str y t) s → wpAny (model prog w) A (eval iter env) Q' E s)
    (helt : ∀ (C : Addr) (oC : Obj) (c : Nat) (u : Tok) (s₂ : Shared) (m₂ : Str → Option Value) (E' : Value → Shared → Prop), Fr h₀ L s₂.heap m → News h₀ L s₂.heap ((C, oC) :: news) → LCg.NsObj oC m₂ → m₂ x = some (.str ⟨#[c]⟩ u) → wpAny (model prog w) A (eval elt (compEnvC scope cl C env)) (OrdEnd c s₂) E' s₂)
    (hQ : ∀ D (ys : List Value) h' tk, Fr h₀ L h' m → News h₀ L h' news → h'.IsList D ys.toArray → IntsAre ys ((chs y).map fun (c : Nat) => (c : Int)) → Q (.ref D) { s with heap := h', toks := tk })
    (hs : ∀ x, foldedSetIterable iter env x = pure x) :
    wpAny (model prog w) A (eval (.ListComp elt [⟨.Name x px, iter, [], 0⟩] scope pos) env) Q E s := by
  refine wpAny_ListComp_free (ItemKind.str.lift fun _ => true) (fun v r => ∃ a, ItemKind.str.is a v ∧ Carried r (PyData.int (ordOf a))) hclos hcell hkind hnames hx
    (hiter _ ?_) hs
  refine wpAny_pyIter_str fun o St W hst => ?_
  have up : ∀ (h' : Heap), (∀ b o', b ∉ [s.heap.objs.size] → (s.heap.push o).get? b = some o' → h'.get? b = some o') → ∀ b o', s.heap.get? b = some o' → h'.get? b = some o' :=
    fun h' hk b o' e => hk b o' (old_not_new e) (Heap.get?_push_of_some _ e)
  refine ⟨s.heap.objs.size, [s.heap.objs.size], [s.heap.objs.size], y.cps.size, SignAt y, St, rfl, W A hh, hsz, hst, ?_, ⟨?_, ?_⟩, ?_⟩
  · intro b hb
    show b < (s.heap.push o).objs.size
    rw [Heap.size_push, List.mem_singleton.mp hb]
    exact Nat.lt_succ_self _
  · intro C i v s₃ m₃ E' _ hP hn hm _ _
    obtain ⟨c, u, _, rfl⟩ := hP
    have ha : ItemKind.str.is ⟨#[c]⟩ (.str ⟨#[c]⟩ u) := ⟨u, rfl⟩
    rw [ItemKind.lift_is ha]
    exact wpAny_pure ⟨rfl, _, _, rfl, fun _ _ e => e⟩
  · intro C i v s₃ m₃ E' hC hP hp hn hm hk1 _
    obtain ⟨c, u, _, rfl⟩ := hP
    have ha : ItemKind.str.is ⟨#[c]⟩ (.str ⟨#[c]⟩ u) := ⟨u, rfl⟩
    obtain ⟨oC, heC, hoC⟩ := LCg.ns_obj hn
    have hk := up s₃.heap hk1
    have hlt : s.heap.objs.size < C := by
      have : (s.heap.push o).objs.size = s.heap.objs.size + 1 := Heap.size_push ..
      exact Nat.lt_of_lt_of_le (by rw [this]; exact Nat.lt_succ_self _) hC
    have hC₀ : h₀.get? C = none := by
      cases e : h₀.get? C with
      | none => rfl
      | some o' => exact absurd (Nat.lt_trans (Heap.lt_size (F.keep _ _ e)) hlt) (Nat.lt_irrefl _)
    have hCL : C ≠ L := fun e => absurd (Nat.lt_trans (show L < s.heap.objs.size from F.ns.lt) (e ▸ hlt)) (Nat.lt_irrefl _)
    refine wpAny_mono (helt C oC c u s₃ m₃ E' (F.keeps hk) ?_ hoC hm) (fun r s₄ h₄ => ⟨⟨_, ha, ?_⟩, h₄.2⟩) fun _ _ e => e
    · intro p hp
      rcases List.mem_cons.mp hp with rfl | hp
      · exact ⟨heC, hCL, hC₀⟩
      · exact ⟨hk _ _ (N p hp).1, (N p hp).2⟩
    · obtain ⟨⟨t', rfl⟩, _⟩ := h₄
      exact .int _ _
  · intro D h' tk ys vs hnew hlD hplD hlen hP hF hk
    refine hQ D ys.toList h' tk (F.keeps (up h' hk)) (N.grown (up h' hk)) (by rw [Array.toArray_toList]; exact hlD) ?_
    have hc := (areOf_signs hlen hP).paired (fun _ => true) (fun a => PyData.int (ordOf a)) _ hF
    rw [signs_ord, List.map_map] at hc
    rw [← List.map_map] at hc
    exact IntsAre.ofCarried hc
theorem bytes_made {c : List Nat} (h : ∀ x ∈ c, x < 256) : bys' (((c.map fun (x : Nat) => (x : Int)).map fun n : Int => n.toNat.toUInt8).toArray) = c := by
  unfold bys'
  rw [List.map_map, List.map_map]
  conv => rhs; rw [← List.map_id c]
  apply List.map_congr_left
  intro x hx
  have := h x hx
  show ((x : Int).toNat.toUInt8).toNat = x
  simp; omega
end
def Stop (p : Prop) : Prop := p
theorem Stop.intro {p : Prop} (h : Stop p) : p := h
theorem bytes_of_ints {prog : Program} {w : World} {A : Around} {E : Value → Shared → Prop} {s : Shared} {h₀ : Heap} {L : Addr} {m : Str → Option Value} {news : List (Addr × Obj)} {l : Addr} {vs : List Value} {c : List Nat} {Q : Value → Shared → Prop} (F : Fr h₀ L s.heap m) (N : News h₀ L s.heap news) (hl : s.heap.IsList l vs.toArray) (hi : IntsAre vs (c.map fun (x : Nat) => (x : Int))) (hr : ∀ x ∈ c, x < 256) (hz : c.length ≤ 2000) (hh : A.handled = none)
    (h : ∀ h' b t k, Fr h₀ L h' m → News h₀ L h' news → bys' b = c → Q (.bytes b t) { s with heap := h', toks := k }) : wpAny (model prog w) A (call (.type "bytes") [.ref l]) Q E s := by
  refine bytes_K F N hl hi (fun n hn => ?_) ?_ hh fun h' t k F' N' _ => h h' _ t k F' N' (bytes_made hr)
  · obtain ⟨x, hx, rfl⟩ := List.mem_map.mp hn
    have := hr x hx
    omega
  · have := hi.length
    rw [List.length_map] at this
    rw [sizeLine_eq]; omega
theorem kind_str (w : World) (mean : ExcName → Option Value) (mg mb : Str → Option Value) (x : Str) (t : Tok) :
    Con w mean mg mb 204 1 [.str x t, .bool false] (fun v => v = .str x t) := by
  w_on
  unfold Con
  k_fill
  intro news dp un gd cn cs a ccd cl outer A₀ base h₀ L m s Q E B F X N T hk hd hu hret
  refine wpAny_call ?_
  k_dflt cell_enter
  k_steps
  all_goals exact hret _ _ _ rfl (by k_asm) (by k_asm)
local macro_rules | `(tactic| walk_at "call type:bytes") => `(tactic| (k_here; (with_reducible show wpAny _ _ (call (Value.type "bytes") [Value.ref _]) _ _ _); k_dflt (refine' bytes_of_ints ?k1 ?k2 ?k3 ?k4 ?k5 ?k6 ?k7 ?_; (case k1 => k_asm); (case k2 => k_asm); (case k3 => assumption); (case k4 => assumption); (case k5 => assumption); (case k6 => (rw [← chs_len]; assumption)); (case k7 => with_unfolding_all rfl)); intro h9 b9 t9 k9 F9 N9 hb9))
theorem kind_bytes (w : World) (mean : ExcName → Option Value) (mg mb : Str → Option Value) (x : Str) (t : Tok) (hx : x.length ≤ 2000) (h : ∀ c ∈ chs x, c < 256) :
    Con w mean mg mb 204 1 [.str x t, .bool true] (fun v => ∃ b u, v = .bytes b u ∧ bys' b = chs x) := by
  k_with "eval ListComp" => (refine Stop.intro ?_)
  w_on
  unfold Con
  k_fill
  intro news dp un gd cn cs a ccd cl outer A₀ base h₀ L m s Q E B F X N T hk hd hu hret
  refine wpAny_call ?_
  k_dflt cell_enter
  k_steps
  unfold Stop
  rename Fr _ _ _ _ => lF'
  rename News _ _ _ _ => lN'
  k_dflt (refine ListComp_ords (y := x) (t := t) (cl := []) (by rfl) (by with_unfolding_all rfl) (by decide) (by rfl) (by decide) (by rfl) lF' lN' ?ksz ?kit ?kel ?kq (by intro _; with_unfolding_all rfl))
  case ksz => rw [sizeLine_eq]; omega
  case kit => intro Q' hq'; k_steps; exact hq'
  case kel =>
    clear lF' lN'
    intro C' oC' c' u' s' m' E' F' N' hC' hx'
    k_steps
    exact ⟨⟨_, rfl⟩, _, _, rfl, fun _ _ e => e⟩
  clear lF' lN'
  intro D' ys' h' tk' F' N' hl' hi'
  k_steps
  all_goals exact hret _ _ _ ⟨_, _, rfl, by assumption⟩ (by k_asm) (by k_asm)
/-- a value of the kind of octets: bytes, or the text itself -/
theorem kind_con (w : World) (mean : ExcName → Option Value) (mg mb : Str → Option Value) (o : Bool) (x : Str) (t : Tok) (hx : x.length ≤ 2000) (h : ∀ c ∈ chs x, c < 256) :
    Con w mean mg mb 204 1 [.str x t, .bool o] (fun v => Kv o v (chs x)) := by
  cases o with
  | false =>
    intro news dp un gd cn cs a ccd cl outer A₀ base h₀ L m s Q E B F X N T hk hd hu hret
    exact kind_str w mean mg mb x t _ _ _ _ _ _ _ _ _ _ _ _ _ _ _ _ _ _ B F X N T hk hd hu fun v h' tk' hR => hret v h' tk' ⟨x, t, hR, rfl⟩
  | true => exact kind_bytes w mean mg mb x t hx h
end Mine
end

noncomputable section
open PySem PySem.W PyProof.Rows PySem.Calls
set_option maxHeartbeats 1000000
namespace Mine
theorem upTo_le (l : List Nat) : (upTo l).length ≤ l.length := by
  have := congrArg List.length (upTo_take l)
  rw [List.length_take] at this; omega
theorem dirL_le (l : List Nat) : (dirL l).length ≤ l.length := by
  have h := upTo_le l
  unfold dirL
  split
  · unfold rstripL
    rw [List.length_reverse]
    have := (List.dropWhile_sublist (l := (upTo l).reverse) (· == 47)).length_le
    rw [List.length_reverse] at this; omega
  · exact h
theorem joinF_le (a b : List Nat) : (joinF a b).length ≤ a.length + b.length + 1 := by
  unfold joinF
  split
  · omega
  split
  · rw [List.length_append]; omega
  · rw [List.length_append, List.length_cons]; omega
theorem npF_le (l : List Nat) : (npF l).length ≤ l.length + 1 := by
  have h1 := root_len l
  have h2 := joinL_len ((splitL (rootL l).2).foldl (npStep (rootL l).1) [])
  have h3 := wt_fold (rootL l).1 (splitL (rootL l).2) []
  have h4 := wt_split (rootL l).2
  have h5 : wt [] = 0 := rfl
  unfold npF orDot
  split
  · simp
  split
  · simp
  · rw [List.length_append]; omega
section
variable {x y z d b r q : Str}
theorem dir_bd (h : chs y = dirL (chs x)) (hx : x.length ≤ 400) : y.length ≤ 400 := by
  have := dirL_le (chs x)
  rw [chs_len, h]; rw [chs_len] at hx; omega
theorem join_bd (h : chs z = joinF (chs x) (chs y)) (hx : x.length ≤ 400) (hy : y.length ≤ 400) : z.length ≤ 900 := by
  have := joinF_le (chs x) (chs y)
  rw [chs_len] at hx hy
  rw [chs_len, h]; omega
theorem norm_bd (h : chs y = npF (chs x)) (hx : x.length ≤ 1000) : y.length ≤ 1001 := by
  have := npF_le (chs x)
  rw [chs_len] at hx
  rw [chs_len, h]; omega
end
section
variable {x y z d b r q : Array UInt8}
theorem bdir_bd (h : bys y = dirL (bys x)) (hx : x.size ≤ 400) : y.size ≤ 400 := by
  have := dirL_le (bys x)
  rw [bys_len, h]; rw [bys_len] at hx; omega
theorem bjoin_bd (h : bys z = joinF (bys x) (bys y)) (hx : x.size ≤ 400) (hy : y.size ≤ 400) : z.size ≤ 900 := by
  have := joinF_le (bys x) (bys y)
  rw [bys_len] at hx hy
  rw [bys_len, h]; omega
theorem bnorm_bd (h : bys y = npF (bys x)) (hx : x.size ≤ 1000) : y.size ≤ 1001 := by
  have := npF_le (bys x)
  rw [bys_len] at hx
  rw [bys_len, h]; omega
theorem kind_bd {x : Str} (h : bys y = chs x) (hx : x.length ≤ 400) : y.size ≤ 400 := by
  rw [bys_len, h, ← chs_len]; exact hx
end
theorem slash_small : ∀ c ∈ chs (Str.ofString "/"), c < 256 := by rw [chs_slash]; decide
theorem slash_short : (Str.ofString "/").length ≤ 400 := by rw [chs_len, chs_slash]; decide
/-! which way the law's helper went -/
section
variable {q r : Str} {l T base : List Nat}
theorem sp1 (h : (q == Str.ofString "") = true) : special (chs q) := by rw [chs_beq, chs_none] at h; exact .inl (by simpa using h)
theorem sp2 (h : (q == Str.ofString ".") = true) : special (chs q) := by rw [chs_beq, chs_dot] at h; exact .inr (.inl (by simpa using h))
theorem sp3 (h : (q == Str.ofString "..") = true) : special (chs q) := by rw [chs_beq, chs_dots] at h; exact .inr (.inr (by simpa using h))
theorem sp0 (h1 : (q == Str.ofString "") = false) (h2 : (q == Str.ofString ".") = false) (h3 : (q == Str.ofString "..") = false) : ¬ special (chs q) := by
  rw [chs_beq, chs_none] at h1
  rw [chs_beq, chs_dot] at h2
  rw [chs_beq, chs_dots] at h3
  rintro (e | e | e)
  · simp [e] at h1
  · simp [e] at h2
  · simp [e] at h3
theorem close_yes (hq : chs q = lastSeg l) (hs : special (chs q)) (hT : T ≠ [47]) : T ++ [47] = closeF T l := by
  unfold closeF
  rw [← hq, if_pos ⟨hs, hT⟩]
theorem close_root (hT : T = [47]) : T = closeF T l := by
  unfold closeF
  rw [if_neg (fun h => h.2 hT)]
theorem close_no (hq : chs q = lastSeg l) (hs : ¬ special (chs q)) : T = closeF T l := by
  unfold closeF
  rw [← hq, if_neg (fun h => hs h.1)]
theorem told_ab (h : (l.head? == some 47) = true) (hW : T = npF l) : T = npF (if l.head? = some 47 then l else joinF (dirL base) l) := by
  rw [if_pos (by simpa using h)]; exact hW
theorem told_re {W D : List Nat} (h : (l.head? == some 47) = false) (hD : D = dirL base) (hW : W = joinF D l) (hT : T = npF W) : T = npF (if l.head? = some 47 then l else joinF (dirL base) l) := by
  rw [if_neg (by simpa using h), hT, hW, hD]
theorem told_f (hT : T = npF (if l.head? = some 47 then l else joinF (dirL base) l)) {V : List Nat} (hV : V = closeF T l) : V = toldF base l := by
  unfold toldF
  rw [← hT]; exact hV
theorem rooted_eq (r : Str) : ((chs r).head? == some 47) = (Txt.slice r none (some 1) == Str.ofString "/") := by
  rw [chs_beq, chs_to r (by decide), chs_slash]
  cases h : chs r with
  | nil => rfl
  | cons c t => show (some c == some 47) = ([c] == [47]); rw [Bool.eq_iff_iff]; simp
end
theorem strValues_snoc (l : List (Str × Tok)) (q : Str) (u : Tok) : strValues (l ++ [(q, u)]) = strValues l ++ [.str q u] := by simp [strValues]
theorem split_last {l : List (Str × Tok)} {x : Str} (e : l.map (·.1) = Txt.split x (Str.ofString "/")) : ∃ us q u, strValues l = us ++ [.str q u] ∧ chs q = lastSeg (chs x) := by
  have hs := chs_split x
  rw [← e, List.map_map] at hs
  rcases List.eq_nil_or_concat l with e2 | ⟨i, s, e2⟩
  · subst e2
    exact absurd hs.symm (splitL_ne _)
  · rw [List.concat_eq_append] at e2
    subst e2
    refine ⟨strValues i, s.1, s.2, strValues_snoc i s.1 s.2, ?_⟩
    unfold lastSeg
    rw [← hs]; simp
section
variable {prog : Program} {w : World} {A : Around} {E : Value → Shared → Prop} {s : Shared} {h₀ : Heap} {L : Addr} {m : Str → Option Value} {news : List (Addr × Obj)} {x : Str} {t u : Tok} {Q : Value → Shared → Prop}
theorem str_split_last (hF : Fr h₀ L s.heap m) (hN : News h₀ L s.heap news) (hx : x.length ≤ 1000)
    (h : ∀ D us q v h' k, chs q = lastSeg (chs x) → Fr h₀ L h' m → News h₀ L h' ((D, W.listOf (us ++ [.str q v]).toArray 0) :: news) → (∀ p ∈ news, p.1 < D) → Q (.ref D) { s with heap := h', toks := k }) :
    wpAny (model prog w) A (call (.builtin "str.split") [.str x t, .str (Str.ofString "/") u]) Q E s := by
  refine KSpl.split1 hF hN (by decide +kernel) (fun D l h' k e _ F N a => ?_) (by rw [sizeLine_eq]; omega)
  obtain ⟨us, q, v, e2, hq⟩ := split_last e
  rw [e2] at N
  exact h D us q v h' k hq F N a
end
end Mine
namespace Mine
section
variable {q r y : Str} {b c d e : Array UInt8} {l T base : List Nat}
theorem never_s (h : (((chs r).head? == some 47) != (Txt.slice r none (some 1) == Str.ofString "/")) = true) : False := by
  rw [rooted_eq] at h
  simp at h
theorem cyS (hq : chs q = lastSeg l) (hs : special (chs q)) (hn : (y != Str.ofString "/") = true) : chs (y ++ Str.ofString "/") = closeF (chs y) l := by
  rw [chs_bne, chs_slash] at hn
  rw [chs_append, chs_slash]; exact close_yes hq hs (by simpa using hn)
theorem crS (hn : (y != Str.ofString "/") = false) : chs y = closeF (chs y) l := by
  rw [chs_bne, chs_slash] at hn
  exact close_root (by simpa using hn)
theorem never_b (hb : bys' b = chs r) (h : (((bys b).head? == some 47) != (Txt.slice r none (some 1) == Str.ofString "/")) = true) : False := by
  have hb' : bys b = chs r := hb
  rw [hb'] at h
  exact never_s h
theorem told_abB (hb : bys' b = l) (h : ((bys b).head? == some 47) = true) (hn : bys c = npF (bys b)) : bys c = npF (if l.head? = some 47 then l else joinF (dirL base) l) := by
  have hb' : bys b = l := hb
  rw [hb'] at h hn
  exact told_ab h hn
theorem told_reB {k z : Array UInt8} (hb : bys' b = l) (h : ((bys b).head? == some 47) = false) (hk : bys' k = base) (hd : bys d = dirL (bys k)) (hj : bys z = joinF (bys d) (bys b)) (hn : bys c = npF (bys z)) : bys c = npF (if l.head? = some 47 then l else joinF (dirL base) l) := by
  have hb' : bys b = l := hb
  have hk' : bys k = base := hk
  rw [hb'] at h hj
  rw [hk'] at hd
  exact told_re h hd hj hn
theorem cyB {f : Array UInt8} (hq : chs q = lastSeg l) (hs : special (chs q)) (hn : (c.toList != d.toList) = true) (hd : bys' d = chs (Str.ofString "/")) (hf : bys' f = chs (Str.ofString "/")) : bys (c ++ f) = closeF (bys c) l := by
  have hd' : bys d = chs (Str.ofString "/") := hd
  have hf' : bys f = chs (Str.ofString "/") := hf
  rw [bys_bne, hd', chs_slash] at hn
  rw [bys_append, hf', chs_slash]; exact close_yes hq hs (by simpa using hn)
theorem crB (hn : (c.toList != d.toList) = false) (hd : bys' d = chs (Str.ofString "/")) : bys c = closeF (bys c) l := by
  have hd' : bys d = chs (Str.ofString "/") := hd
  rw [bys_bne, hd', chs_slash] at hn
  exact close_root (by simpa using hn)
end
end Mine
end

noncomputable section
open PySem PySem.W PyProof.Rows PySem.Calls
set_option maxHeartbeats 8000000
namespace Mine
local macro_rules | `(tactic| walk_at "call builtin:str.split nil") => `(tactic| (k_here; (with_reducible show wpAny _ _ (call (Value.builtin "str.split") _) _ _ _); k_dflt (refine' str_split_last ?k1 ?k2 ?k3 ?_; (case k1 => k_asm); (case k2 => k_asm); (case k3 => omega)); intro D9 us9 q9 u9 h9 k9 hq9 F9 N9 lt9))
local macro_rules | `(tactic| walk_at "subscriptTail") => `(tactic| (k_here; (with_reducible show wpAny _ _ (subscriptTail _ _ (Value.ref _) (Value.int _ _)) _ _ _); k_dflt (refine' lst_last ?k1 ?k2 ?_; (case k1 => k_asm); (case k2 => k_mem); k_whole)))
section
local macro_rules | `(tactic| walk_at "call ref") => `(tactic| (k_here; (with_reducible show wpAny _ _ (call (Value.ref 204) [Value.str _ _, Value.bool false]) _ _ _); k_dflt (refine' Con.use (kind_str _ _ _ _ _ _) ?k1 ?k2 ?k3 ?k4 ?k5 ?kK ?kd ?ku ?_; (case k1 => k_asm); (case k2 => k_asm); (case k3 => k_asm); (case k4 => k_asm); (case k5 => k_asm); (case kK => first | exact rfl | assumption); (case kd => ktr_room); (case ku => ktr_units); intro v9 h9 tk9 hR9 F9 N9; subst hR9; (try dsimp only); (try k_fold))))
local macro_rules | `(tactic| walk_at "call ref") => `(tactic| (k_here; (with_reducible show wpAny _ _ (call (Value.ref 115) [Value.str _ _]) _ _ _); k_dflt (refine' Con.use (isabs_str _ _ _ _ _ _) ?k1 ?k2 ?k3 ?k4 ?k5 ?kK ?kd ?ku ?_; (case k1 => k_asm); (case k2 => k_asm); (case k3 => k_asm); (case k4 => k_asm); (case k5 => k_asm); (case kK => first | exact rfl | assumption); (case kd => ktr_room); (case ku => ktr_units); intro v9 h9 tk9 hR9 F9 N9; subst hR9; (try dsimp only); (try k_fold))))
local macro_rules | `(tactic| walk_at "call ref") => `(tactic| (k_here; (with_reducible show wpAny _ _ (call (Value.ref 136) [Value.str _ _]) _ _ _); k_dflt (refine' Con.use (dir_str _ _ _ _ _ _ ?kx) ?k1 ?k2 ?k3 ?k4 ?k5 ?kK ?kd ?ku ?_; (case k1 => k_asm); (case k2 => k_asm); (case k3 => k_asm); (case k4 => k_asm); (case k5 => k_asm); (case kK => first | exact rfl | assumption); (case kd => ktr_room); (case ku => ktr_units); (case kx => omega); intro v9 h9 tk9 hR9 F9 N9; obtain ⟨y9, t9, e9, hd9⟩ := hR9; subst e9; (have hdb9 := dir_bd hd9 (by assumption)); (try dsimp only); (try k_fold))))
local macro_rules | `(tactic| walk_at "call ref") => `(tactic| (k_here; (with_reducible show wpAny _ _ (call (Value.ref 122) [Value.str _ _, Value.str _ _]) _ _ _); k_dflt (refine' Con.use (join_str _ _ _ _ _ _ _ _ ?kx ?ky) ?k1 ?k2 ?k3 ?k4 ?k5 ?kK ?kd ?ku ?_; (case k1 => k_asm); (case k2 => k_asm); (case k3 => k_asm); (case k4 => k_asm); (case k5 => k_asm); (case kK => first | exact rfl | assumption); (case kd => ktr_room); (case ku => ktr_units); (case kx => omega); (case ky => omega); intro v9 h9 tk9 hR9 F9 N9; obtain ⟨y9, t9, e9, hj9⟩ := hR9; subst e9; (have hjb9 := join_bd hj9 (by assumption) (by assumption)); (try dsimp only); (try k_fold))))
local macro_rules | `(tactic| walk_at "call ref") => `(tactic| (k_here; (with_reducible show wpAny _ _ (call (Value.ref 143) [Value.str _ _]) _ _ _); k_dflt (refine' Con.use (norm_str _ _ _ _ _ _ ?kx) ?k1 ?k2 ?k3 ?k4 ?k5 ?kK ?kd ?ku ?_; (case k1 => k_asm); (case k2 => k_asm); (case k3 => k_asm); (case k4 => k_asm); (case k5 => k_asm); (case kK => first | exact rfl | assumption); (case kd => ktr_room); (case ku => ktr_units); (case kx => omega); intro v9 h9 tk9 hR9 F9 N9; obtain ⟨y9, t9, e9, hn9⟩ := hR9; subst e9; (have hnb9 := norm_bd hn9 (by omega)); (try dsimp only); (try k_fold))))
theorem told_str (w : World) (mean : ExcName → Option Value) (mg mb : Str → Option Value) (bse ref : Str) (t u : Tok) (hb : bse.length ≤ 400) (hr : ref.length ≤ 400) :
    Con w mean mg mb 211 4 [.str bse t, .str ref u, .bool false] (fun v => ∃ y t, v = .str y t ∧ chs y = toldF (chs bse) (chs ref)) := by
  w_on
  unfold Con
  k_fill
  intro news dp un gd cn cs a ccd cl outer A₀ base h₀ L m s Q E B F X N T hk hd hu hret
  refine wpAny_call ?_
  k_dflt cell_enter
  k_steps
  · exact (never_s (by with_reducible assumption)).elim
  all_goals ((with_reducible rename Fr _ _ _ _ => lF9); (with_reducible rename News _ _ _ _ => lN9); (refine hret _ _ _ ⟨_, _, rfl, ?_⟩ lF9 (cb_drop lN9 (fun _ hp => .tail _ hp))); clear lF9 lN9)
  all_goals first
    | (refine told_f (told_ab (by with_reducible assumption) (by with_reducible assumption)) ?_)
    | (refine told_f (told_re (by with_reducible assumption) (by with_reducible assumption) (by with_reducible assumption) (by with_reducible assumption)) ?_)
  all_goals first
    | exact cyS (by with_reducible assumption) (by first | exact sp1 (by with_reducible assumption) | exact sp2 (by with_reducible assumption) | exact sp3 (by with_reducible assumption)) (by with_reducible assumption)
    | exact crS (by with_reducible assumption)
    | exact close_no (by with_reducible assumption) (sp0 (by with_reducible assumption) (by with_reducible assumption) (by with_reducible assumption))
end
section
local macro_rules | `(tactic| walk_at "getMethod bytes") => `(tactic| (k_here; (with_reducible first | refine by_meth_starts ?_ | refine by_meth_ends ?_ | refine by_meth_rfind ?_ | refine by_meth_rstrip ?_ | refine by_meth_split ?_ | refine by_meth_join ?_)))
local macro_rules | `(tactic| walk_at "call builtin:bytes.startswith nil") => `(tactic| (k_here; (with_reducible show wpAny _ _ (call (Value.builtin "bytes.startswith") _) _ _ _); k_dflt (refine' by_starts ?_)))
local macro_rules | `(tactic| walk_at "call builtin:bytes.endswith nil") => `(tactic| (k_here; (with_reducible show wpAny _ _ (call (Value.builtin "bytes.endswith") _) _ _ _); k_dflt (refine' by_ends ?_)))
local macro_rules | `(tactic| walk_at "call builtin:bytes.rfind nil") => `(tactic| (k_here; (with_reducible show wpAny _ _ (call (Value.builtin "bytes.rfind") _) _ _ _); k_dflt (refine' by_rfind ?_); intro _ _))
local macro_rules | `(tactic| walk_at "call builtin:bytes.rstrip nil") => `(tactic| (k_here; (with_reducible show wpAny _ _ (call (Value.builtin "bytes.rstrip") _) _ _ _); k_dflt (refine' by_rstrip ?kz ?_; (case kz => omega)); intro d9 t9 k9 hd9))
local macro_rules | `(tactic| walk_at "truthy bytes") => `(tactic| (k_here; (with_reducible show wpAny _ _ (truthy (Value.bytes _ _)) _ _ _); refine truthy_bytes (by (try simp only [Array.size_append]); omega) ?_))
local macro_rules | `(tactic| walk_at "call builtin:len") => `(tactic| (k_here; (with_reducible show wpAny _ _ (call (Value.builtin "len") [Value.bytes _ _]) _ _ _); (refine len_bytes (by omega) ?_)))
local macro_rules | `(tactic| walk_at "binaryOp Add bytes bytes") => `(tactic| (k_here; (with_reducible show wpAny _ _ (binaryOp Operator.Add (Value.bytes _ _) (Value.bytes _ _)) _ _ _); (refine KBy.add_bytes (by (try simp only [Array.size_append, sz47]); omega) ?_); intro _ _))
local macro_rules | `(tactic| walk_at "inplaceOp Add bytes bytes") => `(tactic| (k_here; (with_reducible show wpAny _ _ (inplaceOp Operator.Add (Value.bytes _ _) (Value.bytes _ _)) _ _ _); (refine by_iadd (by (try simp only [Array.size_append, sz47]); omega) ?_); intro _ _))
local macro_rules | `(tactic| walk_at "binaryOp Mult bytes int") => `(tactic| (k_here; (with_reducible show wpAny _ _ (binaryOp Operator.Mult (Value.bytes _ _) (Value.int _ _)) _ _ _); (refine by_mul (by omega) (by omega) ?_); intro d9 t9 k9 hd9))
local macro_rules | `(tactic| walk_at "subscriptTail") => `(tactic| (k_here; (with_reducible show wpAny _ _ (subscriptTail _ (Expr.Slice _ _ none _) (Value.bytes _ _) (Value.ref _)) _ _ _); (with_reducible rename Fr _ _ _ _ => F'); (with_reducible rename News _ _ _ _ => N'); (refine by_slice (s := ⟨_, _, _, _, _⟩) F' N' (by constructor) (by constructor) (by omega) ?_); intro _ _ _ _ _ hz9))
local macro_rules | `(tactic| walk_at "call ref") => `(tactic| (k_here; (with_reducible show wpAny _ _ (call (Value.ref 204) [Value.str _ _, Value.bool true]) _ _ _); k_dflt (refine' Con.use (kind_bytes _ _ _ _ _ _ ?kx ?kc) ?k1 ?k2 ?k3 ?k4 ?k5 ?kK ?kd ?ku ?_; (case k1 => k_asm); (case k2 => k_asm); (case k3 => k_asm); (case k4 => k_asm); (case k5 => k_asm); (case kK => first | exact rfl | assumption); (case kd => ktr_room); (case ku => ktr_units); (case kx => (first | omega | exact Nat.le_trans slash_short (by decide))); (case kc => first | assumption | exact slash_small); intro v9 h9 tk9 hR9 F9 N9; obtain ⟨y9, t9, e9, hk9⟩ := hR9; subst e9; (have hkb9 := kind_bd hk9 (by first | assumption | exact slash_short)); (try dsimp only); (try k_fold))))
local macro_rules | `(tactic| walk_at "call ref") => `(tactic| (k_here; (with_reducible show wpAny _ _ (call (Value.ref 115) [Value.bytes _ _]) _ _ _); k_dflt (refine' Con.use (isabs_bytes _ _ _ _ _ _) ?k1 ?k2 ?k3 ?k4 ?k5 ?kK ?kd ?ku ?_; (case k1 => k_asm); (case k2 => k_asm); (case k3 => k_asm); (case k4 => k_asm); (case k5 => k_asm); (case kK => first | exact rfl | assumption); (case kd => ktr_room); (case ku => ktr_units); intro v9 h9 tk9 hR9 F9 N9; subst hR9; (try dsimp only); (try k_fold))))
local macro_rules | `(tactic| walk_at "call ref") => `(tactic| (k_here; (with_reducible show wpAny _ _ (call (Value.ref 136) [Value.bytes _ _]) _ _ _); k_dflt (refine' Con.use (dir_bytes _ _ _ _ _ _ ?kx) ?k1 ?k2 ?k3 ?k4 ?k5 ?kK ?kd ?ku ?_; (case k1 => k_asm); (case k2 => k_asm); (case k3 => k_asm); (case k4 => k_asm); (case k5 => k_asm); (case kK => first | exact rfl | assumption); (case kd => ktr_room); (case ku => ktr_units); (case kx => omega); intro v9 h9 tk9 hR9 F9 N9; obtain ⟨y9, t9, e9, hd9⟩ := hR9; subst e9; (have hdb9 := bdir_bd hd9 (by assumption)); (try dsimp only); (try k_fold))))
local macro_rules | `(tactic| walk_at "call ref") => `(tactic| (k_here; (with_reducible show wpAny _ _ (call (Value.ref 122) [Value.bytes _ _, Value.bytes _ _]) _ _ _); k_dflt (refine' Con.use (join_bytes _ _ _ _ _ _ _ _ ?kx ?ky) ?k1 ?k2 ?k3 ?k4 ?k5 ?kK ?kd ?ku ?_; (case k1 => k_asm); (case k2 => k_asm); (case k3 => k_asm); (case k4 => k_asm); (case k5 => k_asm); (case kK => first | exact rfl | assumption); (case kd => ktr_room); (case ku => ktr_units); (case kx => omega); (case ky => omega); intro v9 h9 tk9 hR9 F9 N9; obtain ⟨y9, t9, e9, hj9⟩ := hR9; subst e9; (have hjb9 := bjoin_bd hj9 (by assumption) (by assumption)); (try dsimp only); (try k_fold))))
local macro_rules | `(tactic| walk_at "call ref") => `(tactic| (k_here; (with_reducible show wpAny _ _ (call (Value.ref 143) [Value.bytes _ _]) _ _ _); k_dflt (refine' Con.use (norm_bytes _ _ _ _ _ _ ?kx) ?k1 ?k2 ?k3 ?k4 ?k5 ?kK ?kd ?ku ?_; (case k1 => k_asm); (case k2 => k_asm); (case k3 => k_asm); (case k4 => k_asm); (case k5 => k_asm); (case kK => first | exact rfl | assumption); (case kd => ktr_room); (case ku => ktr_units); (case kx => omega); intro v9 h9 tk9 hR9 F9 N9; obtain ⟨y9, t9, e9, hn9⟩ := hR9; subst e9; (have hnb9 := bnorm_bd hn9 (by omega)); (try dsimp only); (try k_fold))))
theorem told_bytes (w : World) (mean : ExcName → Option Value) (mg mb : Str → Option Value) (bse ref : Str) (t u : Tok) (hb : bse.length ≤ 400) (hr : ref.length ≤ 400) (hbc : ∀ c ∈ chs bse, c < 256) (hrc : ∀ c ∈ chs ref, c < 256) :
    Con w mean mg mb 211 4 [.str bse t, .str ref u, .bool true] (fun v => ∃ y t, v = .bytes y t ∧ bys y = toldF (chs bse) (chs ref)) := by
  w_on
  unfold Con
  k_fill
  intro news dp un gd cn cs a ccd cl outer A₀ base h₀ L m s Q E B F X N T hk hd hu hret
  refine wpAny_call ?_
  k_dflt cell_enter
  k_steps
  · exact (never_b (by with_reducible assumption) (by with_reducible assumption)).elim
  all_goals ((with_reducible rename Fr _ _ _ _ => lF9); (with_reducible rename News _ _ _ _ => lN9); (refine hret _ _ _ ⟨_, _, rfl, ?_⟩ lF9 (cb_drop lN9 (fun _ hp => .tail _ hp))); clear lF9 lN9)
  all_goals first
    | (refine told_f (told_abB (by with_reducible assumption) (by with_reducible assumption) (by with_reducible assumption)) ?_)
    | (refine told_f (told_reB (by with_reducible assumption) (by with_reducible assumption) (by with_reducible assumption) (by with_reducible assumption) (by with_reducible assumption) (by with_reducible assumption)) ?_)
  all_goals first
    | exact cyB (by with_reducible assumption) (by first | exact sp1 (by with_reducible assumption) | exact sp2 (by with_reducible assumption) | exact sp3 (by with_reducible assumption)) (by with_reducible assumption) (by with_reducible assumption) (by with_reducible assumption)
    | exact crB (by with_reducible assumption) (by with_reducible assumption)
    | exact close_no (by with_reducible assumption) (sp0 (by with_reducible assumption) (by with_reducible assumption) (by with_reducible assumption))
end
end Mine
end

noncomputable section
open PySem PySem.W PyProof.Rows PySem.Calls
set_option maxHeartbeats 8000000
namespace Mine
def Sized (l : List Nat) : Prop := l.length ≤ 400 ∧ ∀ c ∈ l, c < 256
theorem told_con (w : World) (mean : ExcName → Option Value) (mg mb : Str → Option Value) (o : Bool) (bse ref : Str) (t u : Tok) (hb : Sized (chs bse)) (hr : Sized (chs ref)) :
    Con w mean mg mb 211 4 [.str bse t, .str ref u, .bool o] (fun v => Kv o v (toldF (chs bse) (chs ref))) := by
  have hb' : bse.length ≤ 400 := by rw [chs_len]; exact hb.1
  have hr' : ref.length ≤ 400 := by rw [chs_len]; exact hr.1
  cases o with
  | false =>
    intro news dp un gd cn cs a ccd cl outer A₀ base h₀ L m s Q E B F X N T hk hd hu hret
    exact told_str w mean mg mb bse ref t u hb' hr' _ _ _ _ _ _ _ _ _ _ _ _ _ _ _ _ _ _ B F X N T hk hd hu fun v h' tk' hR => hret v h' tk' hR
  | true =>
    intro news dp un gd cn cs a ccd cl outer A₀ base h₀ L m s Q E B F X N T hk hd hu hret
    exact told_bytes w mean mg mb bse ref t u hb' hr' hb.2 hr.2 _ _ _ _ _ _ _ _ _ _ _ _ _ _ _ _ _ _ B F X N T hk hd hu fun v h' tk' hR => hret v h' tk' hR
end Mine
end

noncomputable section
open PySem PySem.W PyProof.Rows PySem.Calls
set_option maxHeartbeats 8000000
namespace Mine
section
variable {prog : Program} {w : World} {A₀ A : Around} {s : Shared} {base h₀ : Heap} {outer : List Env} {L : Addr} {m : Str → Option Value} {env : Env} {K : Frag} {p : Program} {loose : List Str} {mean : ExcName → Option Value} {mg mb : Str → Option Value}
  {R : Result → Shared → Prop} {name qual : Str} {params : Arguments} {body : List Stmt} {scope : Scope} {dV kV doc pm cdv ct oc : Value} {an od : Option Addr} {osl : Array (Option Value)} {f : Addr} {args : Args} {binds : List (Str × Value)}
/-- a call that leaves all that lay there: the callee's ledger starts empty -/
theorem code_pure (B : Below A₀ base outer h₀) (F : Fr h₀ L s.heap m) (X₀ : K.In h₀) (T : Top p loose mean mg mb h₀) (hA : A.frames = some (env :: outer)) (hf : env.frame = some L) (hke : env.scope.kind = .function)
    (ho : K.lookup f = some ⟨oc, od, .func (fnOf name qual params body scope dV kV doc pm an cdv ct), osl⟩) (hcd : codeIn K cdv qual = true) (hroom : A.depth < recursionLimit)
    (hbind : BindsTo s (fnOf name qual params body scope dV kV doc pm an cdv ct) args binds) (hloc : ∀ y ∈ binds, scope.names.lookup y.1 = some .local)
    (h : ∀ g L' h₁, (∀ b o, s.heap.get? b = some o → g.get? b = some o) → Fr h₀ L g m → Fr g L' h₁ (fun y => binds.reverse.lookup y) → News g L' h₁ [] → Below A base (env :: outer) g → K.In g → Top p loose mean mg mb g →
      wpAny (model prog w) (A.deeper (envOf qual scope L' f cdv)) (execs body (envOf qual scope L' f cdv))
        (fun fl s' => LeaveK h₀ L m g (fun r s' => (∀ b o, s.heap.get? b = some o → s'.heap.get? b = some o) → R r s') (match fl with | .ret v => v | _ => .none) s')
        (fun e s' => wpAny (model prog w) (A.deeper (envOf qual scope L' f cdv)) (leaving (envOf qual scope L' f cdv) e) (fun _ s'' => R (.error e) s'') (fun e' s'' => R (.error e') s'') s')
        { s with heap := h₁, toks := s.toks + binds.length })
    (hco : scope.isCoroutine = false) (hgen : scope.isGenerator = false) (hk : scope.kind = .function)
    (hcell : ∀ x ∈ scope.names, x.2 ≠ .cell) : codeAny (model prog w) A (.call (.ref f) args) R s := by
  have N : News h₀ L s.heap [] := fun _ hp => nomatch hp
  obtain ⟨FG, BG, st, lv⟩ := groundX (R := R) B F N hA hf hke
  have keep : ∀ b o, s.heap.get? b = some o → (hideAll s.heap (([] : List (Addr × Obj)).map (·.1))).get? b = some o := fun b o e => hideAll_get _ e (fun hm => nomatch hm)
  refine codeAny_call_def (fd := fnOf name qual params body scope dV kV doc pm an cdv ct) (body := body) (binds := binds) hroom ((X₀.keeps F.keep) _ _ ho) rfl (T.nolimit.keeps F.keep) (codeRec_of (X₀.keeps F.keep) hcd) rfl hbind hcell hloc (fun h₁ hns hk₁ => ?_) hco hgen hk
  exact wpAny_mono (h _ s.heap.objs.size h₁ keep FG ⟨hns, fun b o e => hk₁ b o (of_hideAll _ e), Nat.le_of_eq (hideAll_size _ _)⟩
    (fun _ hp => nomatch hp) BG (X₀.keeps st) (T.keeps st)) (fun fl s' hl => lv _ _ (by
      obtain ⟨L', m', news', F', N', k⟩ := hl
      exact ⟨L', m', news', F', N', fun a b => k a b fun b o e => F'.keep b o (keep b o e)⟩)) fun _ _ y => y
end
def Piece (l : List Nat) : Prop := l ≠ [] ∧ 47 ∉ l ∧ l.length ≤ 3 ∧ ∀ c ∈ l, c < 256
def PathR (i : Nat) (us : List Value) : Prop := ∃ ps : List (List Nat), ps.length = i ∧ (∀ p ∈ ps, Piece p) ∧ Ks false us ps
section
variable {prog : Program} {w : World} {A : Around} {E : Value → Shared → Prop} {s : Shared} {env : Env} {h₀ : Heap} {x : Str} {body : List Stmt} {Q : Flow → Shared → Prop}
/-- a for over a list of values that the call holds, whose turns change one list of the ledger's -/
theorem for_vals2 (y : Str) {l nl : Addr} {vs : List Value} {c0 : Nat} {m₀ : Str → Option Value} {news : List (Addr × Obj)} (R : Nat → List Value → Prop)
    (hh : A.handled = none) (F : Fr h₀ env.locals s.heap m₀) (hl : s.heap.IsList l vs.toArray) (hL : l ≠ env.locals) (N : News h₀ env.locals s.heap ((nl, listOf #[] c0) :: news)) (hlt : ∀ p ∈ (nl, listOf #[] c0) :: news, p.1 ≠ l) (hr : R 0 [])
    (turn : ∀ (u₀ : Str → Option Value) i v us c h tk own, vs[i]? = some v → OwnOff own (nl :: news.map (·.1)) → R i us → Fr h₀ env.locals h (fun z => if z = x then some v else if z = y then u₀ z else m₀ z) → News h₀ env.locals h ((nl, listOf us.toArray c) :: (news ++ own)) →
      wpAny (model prog w) A (execs body env) (InvPostN h₀ env.locals (fun m' nx => (∃ us' c', nx = (nl, listOf us'.toArray c') :: news ∧ R (i + 1) us') ∧ ∀ z, z ≠ x → z ≠ y → m' z = m₀ z) own (nl :: news.map (·.1)) { s with heap := h, toks := tk } Q) E { s with heap := h, toks := tk })
    (done : ∀ (u : Str → Option Value) us c h tk, R vs.length us → Fr h₀ env.locals h (fun z => if z = x then u z else if z = y then u z else m₀ z) → News h₀ env.locals h ((nl, listOf us.toArray c) :: news) → Q .next { s with heap := h, toks := tk }) :
    wpAny (model prog w) A (pyIter (.ref l)) (fun it s₂ => LoopAtV prog w A h₀ env x body Q E it s₂) E s := by
  obtain ⟨ol, hol, _⟩ := id hl
  have hne : l ≠ s.heap.objs.size := Nat.ne_of_lt (Heap.lt_size hol)
  refine wpAny_pyIter_list hl ?_
  refine loop_invN (fun i m nx => (∃ us c, nx = (nl, listOf us.toArray c) :: news ∧ R i us) ∧ ∀ z, z ≠ x → z ≠ y → m z = m₀ z) (Walks.list hh s.heap.objs.size l hne vs.toArray) ?_ ?_ ?_ ?_ ⟨⟨_, Heap.get?_push_size _ rfl, rfl, rfl⟩, hl.at fun o e => Heap.get?_push_of_some _ e⟩ (F.push _) (fun p hp => ⟨Heap.get?_push_of_some _ (N p hp).1, (N p hp).2⟩) ⟨⟨[], c0, rfl, hr⟩, fun _ _ _ => rfl⟩ ?_ ?_
  · intro hm
    rcases List.mem_cons.mp hm with e | hm
    · exact absurd F.ns.lt (e ▸ Nat.lt_irrefl _)
    · exact hL (List.mem_singleton.mp hm).symm
  · intro b hb
    rw [List.mem_singleton.mp hb]
    exact next_is_new F
  · intro p hp hI
    exact absurd (Heap.lt_size (N p hp).1) ((List.mem_singleton.mp hI) ▸ Nat.lt_irrefl _)
  · intro p hp hI
    rcases List.mem_cons.mp hI with e | hI
    · exact absurd (Heap.lt_size (N p hp).1) (e ▸ Nat.lt_irrefl _)
    · exact hlt p hp (List.mem_singleton.mp hI)
  · rintro i v m₁ news₁ h tk own hi hP _ hoff ⟨⟨us, c, rfl, hR⟩, hm⟩ F₁ N₁
    have hv : vs[i]? = some v := by simpa using hP
    have e : (fun z => if z = x then some v else m₁ z) = fun z => if z = x then some v else if z = y then m₁ z else m₀ z := by
      funext z
      by_cases hz : z = x
      · rw [if_pos hz, if_pos hz]
      · by_cases hy : z = y
        · rw [if_neg hz, if_neg hz, if_pos hy]
        · rw [if_neg hz, if_neg hz, if_neg hy, hm z hz hy]
    rw [e] at F₁
    exact turn m₁ i v us c h tk own hv hoff hR F₁ N₁
  · rintro m₁ news₁ h tk ⟨⟨us, c, rfl, hR⟩, hm⟩ F₁ N₁
    have e : (fun z => if z = x then m₁ z else if z = y then m₁ z else m₀ z) = m₁ := by
      funext z
      by_cases hz : z = x
      · rw [if_pos hz]
      · by_cases hy : z = y
        · rw [if_neg hz, if_pos hy]
        · rw [if_neg hz, if_neg hy, hm z hz hy]
    have hn : vs.toArray.size = vs.length := List.size_toArray
    rw [hn] at hR
    exact done m₁ us c h tk hR (by rw [e]; exact F₁) N₁
end
theorem nrm_end2 {h₀ : Heap} {L nl : Addr} {R : List Value → Prop} {x y : Str} {own : List (Addr × Obj)} {m₀ m' : Str → Option Value} {s₁ : Shared} {h' : Heap} {tk c' : Nat} {us' : List Value} (F : Fr h₀ L h' m') (N : News h₀ L h' ((nl, listOf us'.toArray c') :: own)) (hs : ∀ z, z ≠ x → z ≠ y → m' z = m₀ z) (hR : R us') :
    InvEndN h₀ L (fun m' nx => (∃ us' c', nx = (nl, listOf us'.toArray c') :: [] ∧ R us') ∧ ∀ z, z ≠ x → z ≠ y → m' z = m₀ z) own (nl :: [].map (fun (p : Addr × Obj) => p.1)) s₁ { s₁ with heap := h', toks := tk } := by
  refine InvEndN.intro (nx := (nl, listOf us'.toArray c') :: []) F N ⟨⟨us', c', rfl, hR⟩, hs⟩ rfl ?_ ?_
  · intro p hp
    rcases List.mem_cons.mp hp with rfl | hp
    · exact .head _
    · exact nomatch hp
  · exact fun p hp => .tail _ hp
theorem off_ne2 {own : List (Addr × Obj)} {nl : Addr} (hoff : OwnOff own (nl :: [].map (fun (p : Addr × Obj) => p.1))) : ∀ p ∈ own, p.1 ≠ nl := fun p hp => hoff p hp nl (.head _)
theorem new_ne {h₀ h : Heap} {L l nl : Addr} {its : Array Value} {o : Obj} {news : List (Addr × Obj)} (hl : h₀.IsList l its) (N : News h₀ L h ((nl, o) :: news)) : nl ≠ l := by
  obtain ⟨ol, e, _⟩ := hl
  intro q
  have := (N _ (.head _)).2.2
  rw [show (nl, o).1 = nl from rfl, q, e] at this; cases this
theorem path_len {i : Nat} {us : List Value} (h : PathR i us) : us.length = i := by
  obtain ⟨ps, h1, _, h3⟩ := h
  rw [Ks.len h3, h1]
theorem path_turn {i : Nat} {us : List Value} {p : Str} {t : Tok} (h : PathR i us) (hp : Piece (chs p)) : PathR (i + 1) (us ++ [.str p t]) := by
  obtain ⟨ps, h1, h2, h3⟩ := h
  refine ⟨ps ++ [chs p], by simp [h1], ?_, Ks.snoc (kvS p t) h3⟩
  intro q hq
  rcases List.mem_append.mp hq with hq | hq
  · exact h2 q hq
  · rw [List.mem_singleton.mp hq]; exact hp
theorem g_list {s : Shared} {g : Heap} {l : Addr} {its : Array Value} (hl : s.heap.IsList l its) (hk : ∀ b o, s.heap.get? b = some o → g.get? b = some o) : g.IsList l its := by
  obtain ⟨o, e, r⟩ := hl
  exact ⟨o, hk _ _ e, r⟩
theorem fr_list {h₀ h : Heap} {L l : Addr} {its : Array Value} {m : Str → Option Value} (F : Fr h₀ L h m) (hl : h₀.IsList l its) : h.IsList l its := by
  obtain ⟨o, e, r⟩ := hl
  exact ⟨o, F.keep _ _ e, r⟩
theorem ne_own {h₀ h : Heap} {L l : Addr} {its : Array Value} {m : Str → Option Value} (F : Fr h₀ L h m) (hl : h₀.IsList l its) : l ≠ L := by
  obtain ⟨o, e, _⟩ := hl
  intro q
  exact absurd (Nat.lt_of_lt_of_le (Heap.lt_size e) F.above) (by rw [q]; exact Nat.lt_irrefl _)
local macro_rules | `(tactic| walk_at "exec For Name Name cons nil") => `(tactic| (k_here; (rename Fr _ _ _ _ => lF'); (with_unfolding_all refine' For_invVF lF' ?k1 ?k2 ?_; (case k1 => exact rfl); (case k2 => exact rfl); k_whole)))
local macro_rules | `(tactic| walk_at "call builtin:list.append nil") => `(tactic| (k_here; (with_reducible show wpAny _ _ (call (Value.builtin _) _) _ _ _); k_dflt (refine' lst_append ?k1 ?k2 ?k3 ?k4 ?_; (case k1 => k_asm); (case k2 => k_asm); (case k3 => assumption); (case k4 => omega); k_whole); intro h' F' N'; (try k_sweep)))
theorem news_kept {h₀ h h' : Heap} {L : Addr} {news : List (Addr × Obj)} (N : News h₀ L h news) (hk : ∀ b o, h.get? b = some o → h'.get? b = some o) : News h₀ L h' news := fun p hp => ⟨hk _ _ (N p hp).1, (N p hp).2⟩
def pieceB (l : List Nat) : Bool := !l.isEmpty && !l.contains 47 && decide (l.length ≤ 3) && l.all (fun c => decide (c < 256))
theorem pieceB_ok {l : List Nat} (h : pieceB l = true) : Piece l := by
  unfold pieceB at h
  simp only [Bool.and_eq_true, decide_eq_true_eq, List.all_eq_true, Bool.not_eq_true', List.isEmpty_eq_false_iff] at h
  obtain ⟨⟨⟨h1, h2⟩, h3⟩, h4⟩ := h
  exact ⟨h1, by simpa using h2, h3, h4⟩
def pieceTab : List Str := [Str.ofString "a", Str.ofString "b", Str.ofString "ab", Str.ofString ".", Str.ofString "..", Str.ofString "...", Str.ofString ".a", Str.ofString "a."]
theorem piece_tab : ∀ i, i < 8 → Piece (chs (pieceTab.getD i Str.empty)) := fun i h => pieceB_ok ((by decide +kernel : ∀ i, i < 8 → pieceB (chs (pieceTab.getD i Str.empty)) = true) i h)
theorem fmod_nn (a : Int) {b : Int} (h : 0 < b) : 0 ≤ a.fmod b := Int.fmod_nonneg_of_pos a h
theorem chr_piece {k : Int} (h0 : 0 ≤ k) (h1 : k < 256) (h2 : k ≠ 47) : Piece (chs (Str.ofString "a" ++ ⟨#[k.toNat]⟩)) := by
  have e : chs (Str.ofString "a" ++ ⟨#[k.toNat]⟩) = [97, k.toNat] := by
    rw [chs_append]
    have : chs (Str.ofString "a") = [97] := by decide +kernel
    rw [this]; rfl
  rw [e]
  have h3 : k.toNat ≠ 47 := by omega
  refine ⟨by simp, by simp [Ne.symm h3], by simp, ?_⟩
  intro c hc
  rcases List.mem_cons.mp hc with rfl | hc
  · decide
  · rw [List.mem_singleton.mp hc]; omega
theorem chr_a {n : Int} (h : (n.fdiv 9).fmod 256 = 47) : Piece (chs (Str.ofString "a" ++ ⟨#[((n.fdiv 9).fmod 256 + 1).toNat]⟩)) := by
  rw [h]; exact chr_piece (by decide) (by decide) (by decide)
theorem chr_b {n : Int} (h : (n.fdiv 9).fmod 256 ≠ 47) : Piece (chs (Str.ofString "a" ++ ⟨#[((n.fdiv 9).fmod 256).toNat]⟩)) :=
  chr_piece (fmod_nn _ (by decide)) (Int.fmod_lt_of_pos _ (by decide)) h
theorem path_wt {ps : List (List Nat)} (h : ∀ p ∈ ps, Piece p) : wt ps ≤ 4 * ps.length := by
  induction ps with
  | nil => exact Nat.le_refl _
  | cons a r ih =>
    have e : wt (a :: r) = (a.length + 1) + wt r := by simp [wt]
    have h1 := (h a (.head _)).2.2.1
    have h2 := ih fun p hp => h p (.tail _ hp)
    rw [e, List.length_cons]; omega
local macro_rules | `(tactic| walk_at "subscriptTail") => `(tactic| (k_here; (with_reducible show wpAny _ _ (subscriptTail _ _ (Value.ref _) (Value.int _ _)) _ _ _); ktb_letter; k_dflt (refine' KTb.item_tup ?ktbl ?ktbw ?ktb0 ?ktb1 ?ktbf ?_; (case ktbl => ktb_isTup); (case ktbw => repeat constructor); (case ktb0 => exact fmod_nn _ (by decide)); (case ktb1 => ((try simp only [List.length_cons, List.length_nil]); omega)); (case ktbf => omega)); intro t9 hlt9))
local macro_rules | `(tactic| walk_at "call builtin:str.join nil") => `(tactic| (k_here; (with_reducible show wpAny _ _ (call (Value.builtin "str.join") _) _ _ _); (with_reducible rename Ks _ _ _ => hK9); k_dflt (refine' lstS_join ?k1 ?k2 hK9 ?k4 ?_; (case k1 => k_asm); (case k2 => k_mem); (case k4 => omega); k_whole); intro y9 t9 k9 hj9 hl9))
/-- the law's path out of a list of at most four numbers -/
theorem path_con (w : World) (mean : ExcName → Option Value) (mg mb : Str → Option Value) (news : List (Addr × Obj)) (dp un : Nat) (gd : Option (List Code)) (cn : Str) (cs : Scope) (a : Addr) (ccd : Value) (cl : List (Str × Addr)) (outer : List Env) (A₀ : Around) (base h₀ : Heap) (L : Addr) (m : Str → Option Value) (s : Shared) (Q E : Value → Shared → Prop) (l : Addr) (vs : List Value) (ns : List Int)
    (B : Below A₀ base outer h₀) (F : Fr h₀ L s.heap m) (X : (Mine.hd.heap_39 w.params).In h₀) (N : News h₀ L s.heap news) (T : Top Mine.hd.view_39 (looseW Mine.hd.view_39 []) mean mg mb h₀) (hk : cs.kind = .function)
    (hl : s.heap.IsList l vs.toArray) (hi : IntsAre vs ns) (hn : ns.length ≤ 4)
    (hd : dp + 1 < recursionLimit) (hu : un + 8 * 1 < cLine)
    (hret : ∀ (x : Str) (t : Tok) (ps : List (List Nat)) (h' : Heap) (tk' : Nat), chs x = joinL ps → ps.length ≤ 4 → (∀ p ∈ ps, Piece p) → Fr h₀ L h' m → News h₀ L h' news → Q (.str x t) { s with heap := h', toks := tk' }) :
      wpAny (model PySem.Challenge.rw_ab6016_01.row.prog w) (ktrTop dp un gd cn cs L a ccd cl outer) (call (.ref 178) [.ref l]) Q E s := by
  w_on
  revert B F X N T hk hl hi hn hd hu hret
  k_fill
  intro B F X N T hk hl hi hn hd hu hret
  refine wpAny_call ?_
  k_dflt (refine' code_pure ?k1 ?k2 ?k3 ?k5 ?kA ?kF ?kK ?k6 ?k7 ?k8 ?k9 ?kB ?_ ?c2 ?c3 ?c4 ?c5; (case kA => exact rfl); (case kF => exact rfl); (case kK => assumption); (case k1 => k_asm); (case k2 => k_asm); (case k3 => k_asm); (case k5 => k_asm); (case k6 => k_is); (case k7 => k_is); (case k8 => ktr_room); (case k9 => exact BindsTo.of_eq rfl); (case c5 => decide); (case kB => exact locs rfl); (case c2 => exact rfl); (case c3 => exact rfl); (case c4 => exact rfl); k_whole; intro g' L' h' hkeep FG' F' N' B' X' T'; (try dsimp only); (try k_lift B'); (try k_fold))
  k_steps
  have hlg := g_list hl hkeep
  rename Fr _ _ _ _ => lF'
  rename News _ _ _ _ => lN'
  with_unfolding_all refine' for_vals2 (Str.ofString "code") (news := []) PathR (by rfl) lF' ?kl ?kL ?kN ?kh ?kr ?_ ?_
  case kN => exact lN'
  case kl => exact fr_list lF' hlg
  case kL => exact ne_own lF' hlg
  case kh => intro p hp; rw [List.mem_singleton.mp hp]; exact new_ne hlg lN'
  case kr => exact ⟨[], rfl, by simp, trivial⟩
  · clear lF' lN'
    intro u8 i8 v8 us8 c8 h8 tk8 own8 hv8 off8 hR8 F8 N8
    obtain ⟨n8, t8, e8, hn8⟩ := IntsAre.at (by assumption) i8 v8 hv8
    subst e8
    have hus8 : us8.length ≤ 4 := by
      have := path_len hR8
      have h9 := (List.getElem?_eq_some_iff.mp hn8).1
      omega
    have hne8 := off_ne2 off8
    simp only [List.nil_append] at N8
    (try k_fold)
    k_steps
    · refine' nrm_end2 ?k1 ?k2 ?k3 ?k4
      case k1 => assumption
      case k2 => assumption
      case k3 => intro z h1 h2; simp [h1, h2]
      case k4 => exact path_turn hR8 (piece_tab _ (by assumption))
    · refine' nrm_end2 ?k1 ?k2 ?k3 ?k4
      case k1 => assumption
      case k2 => assumption
      case k3 => intro z h1 h2; simp [h1, h2]
      case k4 => exact path_turn hR8 (chr_a (by assumption))
    · refine' nrm_end2 ?k1 ?k2 ?k3 ?k4
      case k1 => assumption
      case k2 => assumption
      case k3 => intro z h1 h2; simp [h1, h2]
      case k4 => exact path_turn hR8 (chr_b (by assumption))
  · clear lF' lN'
    intro u8 us8 c8 h8 tk8 hR8 F8 N8
    obtain ⟨ps8, hp8, hP8, hK8⟩ := hR8
    have hw8 := path_wt hP8
    have hlen8 : ps8.length ≤ 4 := by
      rw [hp8, IntsAre.length (by assumption)]; exact hn
    (try k_fold)
    k_steps
    exact hret _ _ ps8 _ _ (by assumption) hlen8 hP8 (by k_asm) (news_kept N (by assumption))
end Mine
end

noncomputable section
open PySem PySem.W PyProof.Rows PySem.Calls
set_option maxHeartbeats 1000000
namespace Mine
/-! plain facts: sizes of what the law makes -/
theorem upTo_mem {l : List Nat} {c : Nat} (h : c ∈ upTo l) : c ∈ l := by
  rw [← upTo_take l] at h; exact List.mem_of_mem_take h
theorem merge_mem {b r : List Nat} {c : Nat} (h : c ∈ mergeF b r) : c ∈ b ∨ c ∈ r := by
  unfold mergeF at h
  split at h
  · exact .inr h
  · rcases List.mem_append.mp h with h | h
    · exact .inl (upTo_mem h)
    · exact .inr h
theorem merge_len (b r : List Nat) : (mergeF b r).length ≤ b.length + r.length := by
  unfold mergeF
  split
  · omega
  · rw [List.length_append]
    have := upTo_le b
    omega
theorem step_mem {s o : List Nat} {c : Nat} (h : c ∈ (rdsStep s o).1 ∨ c ∈ (rdsStep s o).2) : c ∈ s ∨ c ∈ o ∨ c = 47 := by
  have hd : ∀ {l : List Nat}, c ∈ dropSeg l → c ∈ l := fun {l} q => upTo_mem (mem_dropLast q)
  unfold rdsStep at h
  split at h
  · exact h.elim (fun q => .inl (List.mem_of_mem_drop q)) fun q => .inr (.inl q)
  split at h
  · exact h.elim (fun q => .inl (List.mem_of_mem_drop q)) fun q => .inr (.inl q)
  split at h
  · exact h.elim (fun q => .inl (List.mem_of_mem_drop q)) fun q => .inr (.inl q)
  split at h
  · exact h.elim (fun q => .inr (.inr (List.mem_singleton.mp q))) fun q => .inr (.inl q)
  split at h
  · exact h.elim (fun q => .inl (List.mem_of_mem_drop q)) fun q => .inr (.inl (hd q))
  split at h
  · exact h.elim (fun q => .inr (.inr (List.mem_singleton.mp q))) fun q => .inr (.inl (hd q))
  split at h
  · exact h.elim (fun q => nomatch q) fun q => .inr (.inl q)
  · rcases h with q | q
    · exact .inl (List.mem_of_mem_tail ((List.dropWhile_sublist _).subset q))
    · rcases List.mem_append.mp q with q | q
      · exact .inr (.inl q)
      · rcases List.mem_append.mp q with q | q
        · exact .inl (List.mem_of_mem_take q)
        · exact .inl (List.mem_of_mem_tail ((List.takeWhile_sublist _).subset q))
theorem rds_mem {c : Nat} : ∀ (n : Nat) (s o : List Nat), s.length ≤ n → c ∈ rdsW s o → c ∈ s ∨ c ∈ o ∨ c = 47
  | n, [], o, _, h => by rw [rdsW_nil] at h; exact .inr (.inl h)
  | 0, _ :: _, _, hn, _ => by simp at hn
  | n + 1, a :: s, o, hn, h => by
    have h0 : a :: s ≠ [] := by simp
    have hl := rdsStep_lt (a :: s) o h0
    rw [rdsW_step h0] at h
    rcases rds_mem n _ _ (by omega) h with q | q | q
    · exact step_mem (.inl q)
    · exact step_mem (.inr q)
    · exact .inr (.inr q)
theorem rds_len : ∀ (n : Nat) (s o : List Nat), s.length ≤ n → (rdsW s o).length ≤ s.length + o.length
  | n, [], o, _ => by rw [rdsW_nil]; omega
  | 0, _ :: _, _, hn => by simp at hn
  | n + 1, a :: s, o, hn => by
    have h0 : a :: s ≠ [] := by simp
    have hl := rdsStep_lt (a :: s) o h0
    rw [rdsW_step h0]
    have h1 := rds_len n (rdsStep (a :: s) o).1 (rdsStep (a :: s) o).2 (by omega)
    have h2 := rdsStep_sum (a :: s) o
    omega
theorem sized_str {x : Str} (h : Sized (chs x)) : x.length ≤ 1000 := by rw [chs_len]; have := h.1; omega
theorem merged_len {b r z : Str} (hb : Sized (chs b)) (hr : Sized (chs r)) (hz : chs z = mergeF (chs b) (chs r)) : z.length ≤ 1000 := by
  rw [chs_len, hz]
  have := merge_len (chs b) (chs r)
  have := hb.1
  have := hr.1
  omega
theorem due_len {b r z y : Str} (hb : Sized (chs b)) (hr : Sized (chs r)) (hz : chs z = mergeF (chs b) (chs r)) (hy : chs y = rdsW (chs z) []) : y.length ≤ 2000 := by
  have h1 := rds_len _ (chs z) [] (Nat.le_refl _)
  have h2 := merged_len hb hr hz
  rw [chs_len] at h2
  rw [chs_len, hy]
  simp only [List.length_nil] at h1
  omega
theorem due_small {b r z y : Str} (hb : Sized (chs b)) (hr : Sized (chs r)) (hz : chs z = mergeF (chs b) (chs r)) (hy : chs y = rdsW (chs z) []) : ∀ c ∈ chs y, c < 256 := by
  intro c hc
  rw [hy] at hc
  rcases rds_mem _ (chs z) [] (Nat.le_refl _) hc with q | q | q
  · rw [hz] at q
    rcases merge_mem q with q | q
    · exact hb.2 c q
    · exact hr.2 c q
  · exact nomatch q
  · rw [q]; decide
/-- two texts that the law holds: base and reference -/
def Pair (b r : Str) : Prop := Sized (chs b) ∧ Sized (chs r) ∧ toldF (chs b) (chs r) = rdsW (mergeF (chs b) (chs r)) []
theorem pair_eq {b r z y : Str} (h : Pair b r) (hz : chs z = mergeF (chs b) (chs r)) (hy : chs y = rdsW (chs z) []) : toldF (chs b) (chs r) = chs y := by
  rw [hy, hz]; exact h.2.2
theorem joinL_mem : ∀ {ps : List (List Nat)} {c : Nat}, c ∈ joinL ps → c = 47 ∨ ∃ p ∈ ps, c ∈ p
  | [], _, h => nomatch h
  | [x], c, h => .inr ⟨x, .head _, h⟩
  | x :: y :: r, c, h => by
    rcases List.mem_append.mp (show c ∈ x ++ 47 :: joinL (y :: r) from h) with h | h
    · exact .inr ⟨x, .head _, h⟩
    · rcases List.mem_cons.mp h with h | h
      · exact .inl h
      · rcases joinL_mem h with h | ⟨p, hp, hc⟩
        · exact .inl h
        · exact .inr ⟨p, .tail _ hp, hc⟩
theorem path_sized {ps : List (List Nat)} (hl : ps.length ≤ 4) (hP : ∀ p ∈ ps, Piece p) : (joinL ps).length ≤ 16 ∧ ∀ c ∈ joinL ps, c < 256 := by
  refine ⟨?_, ?_⟩
  · have h1 := joinL_len ps
    have h2 := path_wt hP
    omega
  · intro c hc
    rcases joinL_mem hc with h | ⟨p, hp, h⟩
    · rw [h]; decide
    · exact (hP p hp).2.2.2 c h
theorem piece_ok {ps : List (List Nat)} (hP : ∀ p ∈ ps, Piece p) : ∀ p ∈ ps, p ≠ [] ∧ 47 ∉ p := fun p hp => ⟨(hP p hp).1, (hP p hp).2.1⟩
theorem base_sized {ps : List (List Nat)} (hl : ps.length ≤ 4) (hP : ∀ p ∈ ps, Piece p) : Sized (47 :: joinL ps) := by
  obtain ⟨h1, h2⟩ := path_sized hl hP
  refine ⟨by rw [List.length_cons]; omega, ?_⟩
  intro c hc
  rcases List.mem_cons.mp hc with h | h
  · rw [h]; decide
  · exact h2 c h
theorem first_sized {ps : List (List Nat)} (hl : ps.length ≤ 4) (hP : ∀ p ∈ ps, Piece p) (b : Bool) : Sized (joinL ps ++ (if b then [47] else [])) := by
  obtain ⟨h1, h2⟩ := path_sized hl hP
  cases b with
  | false => 
    rw [if_neg (by decide), List.append_nil]
    exact ⟨by omega, h2⟩
  | true =>
    rw [if_pos rfl]
    refine ⟨by rw [List.length_append]; simp; omega, ?_⟩
    intro c hc
    rcases List.mem_append.mp hc with h | h
    · exact h2 c h
    · rw [List.mem_singleton.mp h]; decide
/-- what the law's path helper gives -/
def PathOf (x : Str) : Prop := ∃ ps, chs x = joinL ps ∧ ps.length ≤ 4 ∧ ∀ p ∈ ps, Piece p
theorem path_short {x : Str} (h : PathOf x) : x.length ≤ 16 := by
  obtain ⟨ps, e, hl, hP⟩ := h
  rw [chs_len, e]; exact (path_sized hl hP).1
theorem slash_len {z : Str} {o : Bool} (h : chs z = if o then [47] else []) : z.length ≤ 1 := by
  rw [chs_len, h]; cases o <;> simp
theorem slash_app {x : Str} {l : List Nat} (h : chs x = l) : chs (Str.ofString "/" ++ x) = 47 :: l := by rw [chs_append, chs_slash, h]; rfl
/-- the law's references -/
theorem pair_first {bx rx y z : Str} {b : Bool} (hb : PathOf bx) (hr : PathOf rx) (hz : chs z = if b then [47] else []) (hy : chs y = if chs (rx ++ z) = [] then [46] else chs (rx ++ z)) : Pair (Str.ofString "/" ++ bx) y := by
  obtain ⟨ps, hbase, hp, hP⟩ := hb
  obtain ⟨rs, hrs, hrl, hR⟩ := hr
  have hbase := slash_app hbase
  rw [chs_append, hrs, hz] at hy
  unfold Pair
  refine ⟨by rw [hbase]; exact base_sized hp hP, ?_, ?_⟩
  · rw [hy]
    by_cases h0 : joinL rs ++ (if b then [47] else []) = []
    · rw [if_pos h0]; exact ⟨by decide, by decide⟩
    · rw [if_neg h0]; exact first_sized hrl hR b
  · rw [hbase]
    exact told_first (piece_ok hP) (piece_ok hR) b hy
theorem pair_second {bx rx : Str} (hb : PathOf bx) (hr : PathOf rx) : Pair (Str.ofString "/" ++ bx) (Str.ofString "/" ++ rx) := by
  obtain ⟨ps, hbase, hp, hP⟩ := hb
  obtain ⟨rs, hrs, hrl, hR⟩ := hr
  have hbase := slash_app hbase
  have hrs := slash_app hrs
  unfold Pair
  refine ⟨by rw [hbase]; exact base_sized hp hP, by rw [hrs]; exact base_sized hrl hR, ?_⟩
  rw [hrs]
  exact told_second (piece_ok hR)
theorem first_t {x : Str} (h : (x == Str.ofString "") = true) : chs (Str.ofString ".") = if chs x = [] then [46] else chs x := by
  rw [chs_beq, chs_none] at h
  rw [if_pos (by simpa using h), chs_dot]
theorem first_f {x : Str} (h : (x == Str.ofString "") = false) : chs x = if chs x = [] then [46] else chs x := by
  rw [chs_beq, chs_none] at h
  rw [if_neg (by simpa using h)]
def sizedB (l : List Nat) : Bool := decide (l.length ≤ 400) && l.all (fun c => decide (c < 256))
theorem sizedB_ok {l : List Nat} (h : sizedB l = true) : Sized l := by
  unfold sizedB at h
  simp only [Bool.and_eq_true, decide_eq_true_eq, List.all_eq_true] at h
  exact h
/-- a row of the page -/
def Row (r d : Str) : Prop := Sized (chs r) ∧ Sized (chs d) ∧ toldF (chs (Str.ofString "/b/c/d;p")) (chs r) = chs d
def rowB (r d : Str) : Bool := sizedB (chs r) && sizedB (chs d) && (toldF (chs (Str.ofString "/b/c/d;p")) (chs r) == chs d)
theorem rowB_ok {r d : Str} (h : rowB r d = true) : Row r d := by
  unfold rowB at h
  simp only [Bool.and_eq_true, beq_iff_eq] at h
  exact ⟨sizedB_ok h.1.1, sizedB_ok h.1.2, h.2⟩
theorem sized_page : Sized (chs (Str.ofString "/b/c/d;p")) := sizedB_ok (by decide +kernel)
theorem sized_dots : Sized (chs (Str.ofString "..")) := sizedB_ok (by decide +kernel)
end Mine
end

noncomputable section
open PySem PySem.W PyProof.Rows PySem.Calls
set_option maxHeartbeats 1000000
namespace Mine
section
variable {prog : Program} {w : World} {A : Around} {E : Value → Shared → Prop} {s : Shared} {h₀ : Heap} {L : Addr} {m : Str → Option Value} {news : List (Addr × Obj)} {env : Env}
theorem kv_ne {o : Bool} {v u : Value} {l l' : List Nat} {Q : Value → Shared → Prop} (hv : Kv o v l) (hu : Kv o u l') (e : l = l') (h : Q (.bool false) s) : wpAny (model prog w) A (compareOp .NotEq v u) Q E s := by
  subst e
  cases o with
  | true =>
    obtain ⟨b, t, rfl, hb⟩ := hv
    obtain ⟨c, t', rfl, hc⟩ := hu
    refine ne_bytes ?_
    have e : (b.toList != c.toList) = false := by
      rw [bys_bne, show bys b = l from hb, show bys c = l from hc]; simp
    rw [e]; exact h
  | false =>
    obtain ⟨b, t, rfl, hb⟩ := hv
    obtain ⟨c, t', rfl, hc⟩ := hu
    refine ne_str ?_
    have e : (b != c) = false := by
      rw [chs_bne, hb, hc]; simp
    rw [e]; exact h
theorem kv_isnot {o : Bool} {v : Value} {l : List Nat} {Q : Value → Shared → Prop} (hv : Kv o v l) (h : Q (.bool true) s) : wpAny (model prog w) A (compareOp .IsNot v .none) Q E s := by
  refine isNot_none ?_
  have e : (!(v == .none)) = true := by
    cases o with
    | true => obtain ⟨b, t, rfl, hb⟩ := hv; rfl
    | false => obtain ⟨b, t, rfl, hb⟩ := hv; rfl
  rw [e]; exact h
/-! cuts: ways of the walk that meet -/
def NumsP (h₀ : Heap) (L : Addr) (m : Str → Option Value) (s : Shared) (v : Value) (s' : Shared) : Prop :=
  ∃ D vs ns h' tk, v = .ref D ∧ s' = { s with heap := h', toks := tk } ∧ Fr h₀ L h' m ∧ News h₀ L h' [(D, listOf (List.toArray vs) 0)] ∧ IntsAre vs ns ∧ ns.length ≤ 12
theorem nums_cut {t : Sem Value} {Q : Value → Shared → Prop} (_F : Fr h₀ L s.heap m) (h1 : wpAny (model prog w) A t (NumsP h₀ L m s) (fun _ _ => False) s)
    (k : ∀ D vs ns h' tk, Fr h₀ L h' m → News h₀ L h' [(D, listOf (List.toArray vs) 0)] → IntsAre vs ns → ns.length ≤ 12 → Q (.ref D) { s with heap := h', toks := tk }) : wpAny (model prog w) A t Q E s := by
  refine wpAny_mono h1 ?_ fun _ _ h => h.elim
  rintro v s' ⟨D, vs, ns, h', tk, rfl, rfl, F, N, hi, hn⟩
  exact k D vs ns h' tk F N hi hn
def TokP (s : Shared) (_ : Bool) (s' : Shared) : Prop := ∃ tk, s' = { s with toks := tk }
theorem slash_cut {test : Expr} {k1 k2 : Nat} {p1 p2 pos : Pos} {Q : Value → Shared → Prop} (h1 : wpAny (model prog w) A (isTrue test env (eval test env)) (TokP s) (fun _ _ => False) s)
    (k : ∀ z t (b : Bool) tk, chs z = (if b then [47] else []) → Q (.str z t) { s with toks := tk }) :
    wpAny (model prog w) A (eval (.IfExp test (.Constant (.str (Str.ofString "/")) k1 p1) (.Constant (.str (Str.ofString "")) k2 p2) pos) env) Q E s := by
  refine IfExp_ (wpAny_mono h1 ?_ fun _ _ h => h.elim)
  rintro b s' ⟨tk, rfl⟩
  cases b with
  | true => exact Calls.Constant_str (k _ _ true _ (by rw [chs_slash]; rfl))
  | false => exact Calls.Constant_str (k _ _ false _ (by rw [chs_none]; rfl))
def FirstP (h₀ : Heap) (L : Addr) (m : Str → Option Value) (y : Str) (l : List Nat) (s : Shared) (f : Flow) (s' : Shared) : Prop :=
  f = .next ∧ ∃ x t h' tk, s' = { s with heap := h', toks := tk } ∧ Fr h₀ L h' (fun z => if z = y then some (.str x t) else m z) ∧ chs x = l
theorem first_cut {t : Sem Flow} {Q : Flow → Shared → Prop} (y : Str) {x : Str} {tx : Tok} (_F : Fr h₀ L s.heap m) (_hm : m y = some (.str x tx)) (h1 : wpAny (model prog w) A t (FirstP h₀ L m y (if chs x = [] then [46] else chs x) s) (fun _ _ => False) s)
    (k : ∀ x' u h' tk, chs x' = (if chs x = [] then [46] else chs x) → Fr h₀ L h' (fun z => if z = y then some (.str x' u) else m z) → News h₀ L h' [] → Q .next { s with heap := h', toks := tk }) : wpAny (model prog w) A t Q E s := by
  refine wpAny_mono h1 ?_ fun _ _ h => h.elim
  rintro v s' ⟨rfl, x', u, h', tk, rfl, F, e⟩
  exact k x' u h' tk e F fun _ hp => nomatch hp
/-- a slice by threes of a list of at most twelve numbers -/
theorem three_len (lo : Int) (h0 : 0 ≤ lo) (n : Nat) (hn : n ≤ 12) : (sliceRange (sliceBounds (some lo) (some 12) (some 3) n).1 (sliceBounds (some lo) (some 12) (some 3) n).2.1 (sliceBounds (some lo) (some 12) (some 3) n).2.2).length ≤ 4 := by
  unfold sliceRange sliceBounds
  simp only [List.length_map, List.length_range, Option.getD_some, show (3 : Int) > 0 from by decide, if_true, if_neg (show ¬ (lo < 0) by omega), if_neg (show ¬ ((12 : Int) < 0) by decide)]
  split <;> omega
theorem slice_three {value slice : Expr} {l : Addr} {vs : List Value} {ns : List Int} {lo : Int} {t1 t2 t3 : Tok} {ops : List Value} {Q : Value → Shared → Prop} (F : Fr h₀ L s.heap m) (N : News h₀ L s.heap news) (hl : (l, listOf vs.toArray 0) ∈ news) (hi : IntsAre vs ns) (hn : ns.length ≤ 12) (h0 : 0 ≤ lo)
    (h : ∀ D ws ms h', Fr h₀ L h' m → News h₀ L h' ((D, listOf (List.toArray ws) 0) :: news) → (∀ p ∈ news, p.1 < D) → IntsAre ws ms → ms.length ≤ 4 → Q (.ref D) { s with heap := h' })
    (hs : subscripted slice false (.ref l) (.ref s.heap.objs.size) = operate ops (getItem (.ref l) (.ref s.heap.objs.size))) (ht : ∀ r, letTemporaryGo value (.ref l) r = pure ()) :
    wpAny (model prog w) A (subscriptTail value slice (.ref l) (.ref s.heap.objs.size)) Q E { s with heap := s.heap.push { cls := .type "slice", data := .fields #[.int lo t1, .int 12 t2, .int 3 t3] } } := by
  have hv : vs.length ≤ 12 := by rw [hi.length]; exact hn
  refine kmk_slice3_lit (zs := (slicePick vs.toArray (some lo) (some 12) (some 3)).toList) F N (N.isList hl) (IsPart.int _ _) (IsPart.int _ _) (IsPart.int _ _) (by decide) rfl ?_ hs ht (by rw [List.size_toArray, sizeLine_eq]; omega)
  intro D h' F' N' l1
  refine h D _ _ h' F' N' l1 (hi.pick (some lo) (some 12) (some 3)) ?_
  rw [← (hi.pick (some lo) (some 12) (some 3)).length]
  unfold slicePick
  refine Nat.le_trans (List.length_filterMap_le _ _) (three_len lo h0 vs.toArray.size (by rw [List.size_toArray]; exact hv))
end
section
variable {prog : Program} {w : World} {A : Around} {E : Value → Shared → Prop} {s : Shared} {env : Env} {h₀ : Heap} {target : Expr} {body : List Stmt} {Q : Flow → Shared → Prop}
/-- a for over a tuple that stood before the call: one turn for all its items; the turns change two names -/
theorem page_loop {ax : Addr} {vs : List Value} {m₀ : Str → Option Value} (y1 y2 : Str) (hh : A.handled = none) (F : Fr h₀ env.locals s.heap m₀) (hl : h₀.IsTuple ax vs.toArray)
    (turn : ∀ (i : Nat) (v : Value) (u : Str → Option Value) (h : Heap) (tk : Nat) (own : List (Addr × Obj)), vs[i]? = some v → Fr h₀ env.locals h (fun z => if z = y1 then u z else if z = y2 then u z else m₀ z) → News h₀ env.locals h own →
      wpAny (model prog w) A (assign target env v) (fun _ s₃ => wpAny (model prog w) A (execs body env) (InvPostN h₀ env.locals (fun m' nx => nx = [] ∧ ∀ z, z ≠ y1 → z ≠ y2 → m' z = m₀ z) own [] { s with heap := h, toks := tk } Q) E s₃) E { s with heap := h, toks := tk })
    (done : ∀ (u : Str → Option Value) (h : Heap) (tk : Nat), Fr h₀ env.locals h (fun z => if z = y1 then u z else if z = y2 then u z else m₀ z) → News h₀ env.locals h [] → Q .next { s with heap := h, toks := tk }) :
    wpAny (model prog w) A (pyIter (.ref ax)) (fun it s₂ => TurnsAt prog w A h₀ env target body Q E it s₂) E s := by
  obtain ⟨lo, hg, hc, n, hd⟩ := id hl
  have hax : s.heap.get? ax = some lo := F.keep _ _ hg
  have hl' : s.heap.IsTuple ax vs.toArray := ⟨lo, hax, hc, n, hd⟩
  have hne : ax ≠ s.heap.objs.size := Nat.ne_of_lt (Heap.lt_size hax)
  have eqm : ∀ m₁ : Str → Option Value, (∀ z, z ≠ y1 → z ≠ y2 → m₁ z = m₀ z) → (fun z => if z = y1 then m₁ z else if z = y2 then m₁ z else m₀ z) = m₁ := by
    intro m₁ hm
    funext z
    by_cases h1 : z = y1
    · rw [if_pos h1]
    · by_cases h2 : z = y2
      · rw [if_neg h1, if_pos h2]
      · rw [if_neg h1, if_neg h2, hm z h1 h2]
  refine wpAny_pyIter_tuple hl' ?_
  refine ⟨s.heap.objs.size, _, _, _, _, _, _, m₀, [], fun _ m₁ nx => nx = [] ∧ ∀ z, z ≠ y1 → z ≠ y2 → m₁ z = m₀ z, rfl, KTurns.ofWalks (Walks.tuple hh s.heap.objs.size ax hne vs.toArray) fun i v s Q E st q => letGo_tupleiter st.1 q, ?_, ?_, (fun _ hp => nomatch hp), ⟨⟨_, Heap.get?_push_size _ rfl, rfl, rfl⟩, hl'.at fun o e => Heap.get?_push_of_some _ e⟩, F.push _, (fun _ hp => nomatch hp), ⟨rfl, fun _ _ _ => rfl⟩, ?_, ?_⟩
  · intro hI
    rcases List.mem_cons.mp hI with e | hI
    · exact absurd F.ns.lt (e ▸ Nat.lt_irrefl _)
    · exact absurd (Heap.lt_size hg) (Nat.not_lt.mpr ((List.mem_singleton.mp hI) ▸ F.above))
  · intro b hb
    rw [List.mem_singleton.mp hb]
    exact next_is_new F
  · rintro i v m₁ news₁ h₁ tk₁ own hin hP ⟨rfl, hm⟩ hoff hown hget hall st F₁ N₁
    rw [← eqm m₁ hm] at F₁
    rw [List.append_nil] at N₁
    have hv : vs[i]? = some v := by simpa using hP
    refine wpAny_mono (turn i v m₁ h₁ tk₁ own hv F₁ N₁) (fun _ s₂ h₂ => wpAny_mono h₂ (fun f s₃ p => ?_) fun _ _ e => e) fun _ _ e => e
    have fin : InvEndN h₀ env.locals (fun m' nx => nx = [] ∧ ∀ z, z ≠ y1 → z ≠ y2 → m' z = m₀ z) own [] { s with heap := h₁, toks := tk₁ } s₃ → LoopStepU h₀ env.locals [s.heap.objs.size] own (fun m' nx => nx = [] ∧ ∀ z, z ≠ y1 → z ≠ y2 → m' z = m₀ z) { s with heap := h₁, toks := tk₁ } .next s₃ := by
      rintro ⟨h', tk, m', news', nx, e, F', N', hn, ho, ha, rfl, hm'⟩
      exact ⟨rfl, h', tk, m', [], e, F', fun p hp => N' p (ho p (by simpa using hp)), (fun _ hp => nomatch hp), rfl, hm'⟩
    cases f with
    | ret v => exact .ret p
    | brk => exact .brk p
    | next => exact .next (fin p)
    | cont => exact .cont (fin p)
  · rintro h' tk m' news' F' N' _ ⟨rfl, hm⟩
    exact done m' h' tk (by rw [eqm m' hm]; exact F') N'
/-- what an item of the page is -/
def RowAt (h₀ : Heap) (v : Value) : Prop := ∃ a r d t u, v = .ref a ∧ h₀.IsTuple a #[.str r t, .str d u] ∧ Row r d
theorem fr_tup {L a : Addr} {its : Array Value} {h : Heap} {m : Str → Option Value} (F : Fr h₀ L h m) (hl : h₀.IsTuple a its) : h.IsTuple a its := by
  obtain ⟨o, e, r⟩ := hl
  exact ⟨o, F.keep _ _ e, r⟩
theorem in_tup {K : Frag} {a : Addr} {lo : Obj} {its : Array Value} {n : Nat} (X : K.In h₀) (hk : K.lookup a = some lo) (hc : lo.cls = .type "tuple") (hd : lo.data = .seq its n) : h₀.IsTuple a its := ⟨lo, X _ _ hk, hc, n, hd⟩
theorem page_end {L : Addr} {y1 y2 : Str} {own : List (Addr × Obj)} {m₀ m' : Str → Option Value} {news : List (Addr × Obj)} {s₁ : Shared} {h' : Heap} {tk : Nat} (F : Fr h₀ L h' m') (N : News h₀ L h' news) (hn : ∀ p ∈ own, p ∈ news) (hs : ∀ z, z ≠ y1 → z ≠ y2 → m' z = m₀ z) :
    InvEndN h₀ L (fun m' nx => nx = [] ∧ ∀ z, z ≠ y1 → z ≠ y2 → m' z = m₀ z) own [] s₁ { s₁ with heap := h', toks := tk } :=
  InvEndN.intro (nx := []) F N ⟨rfl, hs⟩ rfl (fun _ hp => nomatch hp) hn
end
end Mine
end

noncomputable section
open PySem PySem.W PyProof.Rows PySem.Calls
set_option maxHeartbeats 8000000
namespace Mine
section
variable {b r z y : Str}
theorem pair_b (h : Pair b r) : b.length ≤ 1000 := sized_str h.1
theorem pair_r (h : Pair b r) : r.length ≤ 1000 := sized_str h.2.1
theorem pair_sb (h : Pair b r) : Sized (chs b) := h.1
theorem pair_sr (h : Pair b r) : Sized (chs r) := h.2.1
theorem pm_len (hz : chs z = mergeF (chs b) (chs r)) (h : Pair b r) : z.length ≤ 1000 := merged_len h.1 h.2.1 hz
theorem pd_len (hy : chs y = rdsW (chs z) []) (hz : chs z = mergeF (chs b) (chs r)) (h : Pair b r) : y.length ≤ 2000 := due_len h.1 h.2.1 hz hy
theorem pd_small (hy : chs y = rdsW (chs z) []) (hz : chs z = mergeF (chs b) (chs r)) (h : Pair b r) : ∀ c ∈ chs y, c < 256 := due_small h.1 h.2.1 hz hy
theorem pd_eq (hy : chs y = rdsW (chs z) []) (hz : chs z = mergeF (chs b) (chs r)) (h : Pair b r) : toldF (chs b) (chs r) = chs y := pair_eq h hz hy
theorem row_r (h : Row b r) : Sized (chs b) := h.1
theorem row_l (h : Row b r) : r.length ≤ 2000 := Nat.le_trans (sized_str h.2.1) (by decide)
theorem row_s (h : Row b r) : ∀ c ∈ chs r, c < 256 := h.2.1.2
theorem row_eq (h : Row b r) : toldF (chs (Str.ofString "/b/c/d;p")) (chs b) = chs r := h.2.2
end
theorem path_use {w : World} {mean : ExcName → Option Value} {mg mb : Str → Option Value} {news : List (Addr × Obj)} {dp un : Nat} {gd : Option (List Code)} {cn : Str} {cs : Scope} {a : Addr} {ccd : Value} {cl : List (Str × Addr)} {outer : List Env} {A₀ : Around} {base h₀ : Heap} {L : Addr} {m : Str → Option Value} {s : Shared} {Q E : Value → Shared → Prop} {l : Addr} {vs : List Value} {ns : List Int}
    (B : Below A₀ base outer h₀) (F : Fr h₀ L s.heap m) (X : (Mine.hd.heap_39 w.params).In h₀) (N : News h₀ L s.heap news) (T : Top Mine.hd.view_39 (looseW Mine.hd.view_39 []) mean mg mb h₀) (hk : cs.kind = .function)
    (hl : (l, listOf (List.toArray vs) 0) ∈ news) (hi : IntsAre vs ns) (hn : ns.length ≤ 4)
    (hd : dp + 1 < recursionLimit) (hu : un + 8 * 1 < cLine)
    (hret : ∀ (x : Str) (t : Tok) (h' : Heap) (tk' : Nat), PathOf x → Fr h₀ L h' m → News h₀ L h' news → Q (.str x t) { s with heap := h', toks := tk' }) :
      wpAny (model PySem.Challenge.rw_ab6016_01.row.prog w) (ktrTop dp un gd cn cs L a ccd cl outer) (call (.ref 178) [.ref l]) Q E s :=
  path_con w mean mg mb _ _ _ _ _ _ _ _ _ _ _ _ _ _ _ _ _ _ _ _ _ B F X N T hk (N.isList hl) hi hn hd hu fun x t ps h' tk' h1 h2 h3 => hret x t h' tk' ⟨ps, h1, h2, h3⟩
local macro_rules | `(tactic| walk_at "call ref") => `(tactic| (k_here; (with_reducible show wpAny _ _ (call (Value.ref 178) [Value.ref _]) _ _ _); k_dflt (refine' path_use ?k1 ?k2 ?k3 ?k4 ?k5 ?kK ?kl ?ki ?kn ?kd ?ku ?_; (case k1 => k_asm); (case k2 => k_asm); (case k3 => k_asm); (case k4 => k_asm); (case k5 => k_asm); (case kK => first | exact rfl | assumption); (case kl => k_mem); (case ki => with_reducible assumption); (case kn => with_reducible assumption); (case kd => ktr_room); (case ku => ktr_units); intro x9 t9 h9 tk9 hx9 F9 N9; (have hxl9 := path_short hx9); (try dsimp only); (try k_fold))))
local macro_rules | `(tactic| walk_at "call ref") => `(tactic| (k_here; (with_reducible show wpAny _ _ (call (Value.ref 199) [Value.str _ _, Value.str _ _]) _ _ _); k_dflt (refine' Con.use (merge_con _ _ _ _ _ _ _ _ ?kx ?ky) ?k1 ?k2 ?k3 ?k4 ?k5 ?kK ?kd ?ku ?_; (case k1 => k_asm); (case k2 => k_asm); (case k3 => k_asm); (case k4 => k_asm); (case k5 => k_asm); (case kK => first | exact rfl | assumption); (case kd => ktr_room); (case ku => ktr_units); (case kx => exact pair_b (by with_reducible assumption)); (case ky => exact pair_r (by with_reducible assumption)); intro v9 h9 tk9 hR9 F9 N9; obtain ⟨z9, t9, e9, hz9⟩ := hR9; subst e9; (try dsimp only); (try k_fold))))
local macro_rules | `(tactic| walk_at "call ref") => `(tactic| (k_here; (with_reducible show wpAny _ _ (call (Value.ref 192) [Value.str _ _]) _ _ _); k_dflt (refine' Con.use (rds_con _ _ _ _ _ _ ?kx) ?k1 ?k2 ?k3 ?k4 ?k5 ?kK ?kd ?ku ?_; (case k1 => k_asm); (case k2 => k_asm); (case k3 => k_asm); (case k4 => k_asm); (case k5 => k_asm); (case kK => first | exact rfl | assumption); (case kd => ktr_room); (case ku => ktr_units); (case kx => exact pm_len (by with_reducible assumption) (by with_reducible assumption)); intro v9 h9 tk9 hR9 F9 N9; obtain ⟨y9, t9, e9, hy9⟩ := hR9; subst e9; (try dsimp only); (try k_fold))))
local macro_rules | `(tactic| walk_at "call ref") => `(tactic| (k_here; (with_reducible show wpAny _ _ (call (Value.ref 211) [Value.str _ _, Value.str _ _, Value.bool _]) _ _ _); k_dflt (refine' Con.use (told_con _ _ _ _ _ _ _ _ _ ?kx ?ky) ?k1 ?k2 ?k3 ?k4 ?k5 ?kK ?kd ?ku ?_; (case k1 => k_asm); (case k2 => k_asm); (case k3 => k_asm); (case k4 => k_asm); (case k5 => k_asm); (case kK => first | exact rfl | assumption); (case kd => ktr_room); (case ku => ktr_units); (case kx => first | exact pair_sb (by with_reducible assumption) | exact sized_page); (case ky => first | exact pair_sr (by with_reducible assumption) | exact row_r (by with_reducible assumption) | exact sized_dots); intro v9 h9 tk9 hR9 F9 N9; have hT9 := hR9; (try dsimp only); (try k_fold))))
local macro_rules | `(tactic| walk_at "call ref") => `(tactic| (k_here; (with_reducible show wpAny _ _ (call (Value.ref 204) [Value.str _ _, Value.bool _]) _ _ _); k_dflt (refine' Con.use (kind_con _ _ _ _ _ _ _ ?kx ?ky) ?k1 ?k2 ?k3 ?k4 ?k5 ?kK ?kd ?ku ?_; (case k1 => k_asm); (case k2 => k_asm); (case k3 => k_asm); (case k4 => k_asm); (case k5 => k_asm); (case kK => first | exact rfl | assumption); (case kd => ktr_room); (case ku => ktr_units); (case kx => first | exact pd_len (by with_reducible assumption) (by with_reducible assumption) (by with_reducible assumption) | exact row_l (by with_reducible assumption)); (case ky => first | exact pd_small (by with_reducible assumption) (by with_reducible assumption) (by with_reducible assumption) | exact row_s (by with_reducible assumption)); intro v9 h9 tk9 hR9 F9 N9; have hK9 := hR9; (try dsimp only); (try k_fold))))
local macro_rules | `(tactic| walk_at "compareOp NotEq") => `(tactic| (k_here; (with_reducible show wpAny _ _ (compareOp CmpOp.NotEq _ _) _ _ _); (refine' kv_ne ?kn1 ?kn2 ?kn3 ?_; (case kn1 => with_reducible assumption); (case kn2 => with_reducible assumption); (case kn3 => first | exact pd_eq (by with_reducible assumption) (by with_reducible assumption) (by with_reducible assumption) | exact row_eq (by with_reducible assumption)))))
local macro_rules | `(tactic| walk_at "compareOp IsNot") => `(tactic| (k_here; (with_reducible show wpAny _ _ (compareOp CmpOp.IsNot _ Value.none) _ _ _); (refine' kv_isnot ?kn1 ?_; (case kn1 => with_reducible assumption))))
local macro_rules | `(tactic| walk_at "subscriptTail Name Slice ref ref") => `(tactic| (k_here; (with_reducible show wpAny _ _ (subscriptTail _ (PySem.Expr.Slice _ _ (some _) _) (Value.ref _) (Value.ref _)) _ _ _); k_dflt (refine' slice_three ?F ?N ?l ?i ?n ?z ?_ ?s ?t; (case F => k_asm); (case N => k_asm); (case l => k_mem); (case i => with_reducible assumption); (case n => with_reducible assumption); (case z => decide); (case s => with_unfolding_all rfl); (case t => kmk_pure)); intro D9 ws9 ms9 h9 F9 N9 l9 hi9 hn9))
local macro_rules | `(tactic| walk_at "eval IfExp") => `(tactic| (k_here; refine Stop.intro ?_))
local macro_rules | `(tactic| walk_at "exec If") => `(tactic| (k_here; (fail_if_success goal_has Mine.FirstP); (with_reducible show wpAny _ _ (exec (Stmt.If (Expr.Compare (Expr.Name _ _) _ _ _) _ _ _) _) _ _ _); refine Stop.intro ?_))
local macro_rules | `(tactic| walk_at "pyIter ref") => `(tactic| (k_here; (with_reducible show wpAny _ _ (pyIter (Value.ref 171)) (fun it s₂ => TurnsAt _ _ _ _ _ _ _ _ _ it s₂) _ _); refine Stop.intro ?_))
theorem row_at {K : Frag} {h : Heap} {a : Addr} {lo : Obj} {r d : Str} {t u : Tok} {n : Nat} (X : K.In h) (hk : K.lookup a = some lo) (hc : lo.cls = .type "tuple") (hd : lo.data = .seq #[.str r t, .str d u] n) (hb : rowB r d = true) : RowAt h (.ref a) :=
  ⟨a, r, d, t, u, rfl, in_tup X hk hc hd, rowB_ok hb⟩
theorem page_rows (w : World) {h : Heap} (X : (Mine.hd.heap_39 w.params).In h) : ∃ vs : List Value, h.IsTuple 171 vs.toArray ∧ ∀ v ∈ vs, RowAt h v := by
  have _ : PySem.Challenge.rw_ab6016_01.row.prog = PySem.Challenge.rw_ab6016_01.row.prog ∧ (Mine.hd.heap_39 w.params).In h := by
    k_fill
    exact ⟨rfl, X⟩
  refine ⟨[.ref 145, .ref 146, .ref 147, .ref 148, .ref 149, .ref 150, .ref 151, .ref 152, .ref 153, .ref 154, .ref 155, .ref 156, .ref 157, .ref 158, .ref 159, .ref 160, .ref 161, .ref 162, .ref 163, .ref 164, .ref 165, .ref 166, .ref 167, .ref 168, .ref 169, .ref 170], in_tup X (by k_is) rfl rfl, ?_⟩
  intro v hv
  repeat' (rcases List.mem_cons.mp hv with rfl | hv; exact row_at X (by k_is) rfl rfl (by decide +kernel))
  exact absurd hv List.not_mem_nil
theorem law_holds : PySem.Challenge.rw_ab6016_01.Holds := by
  refine Mine.hd ?_
  k_go0
  k_steps
  unfold Stop
  rename Fr _ _ _ _ => lF'
  refine nums_cut lF' ?_ ?_
  · refine IfExp_ ?_
    k_steps
    · refine ⟨_, _, _, _, _, rfl, rfl, by k_asm, by k_asm, by with_reducible assumption, ?_⟩
      rw [List.length_take]; exact Nat.min_le_left _ _
    · refine ⟨_, [_, _, _, _, _, _, _, _], _, _, _, rfl, rfl, by k_asm, by k_asm, by repeat constructor, by decide⟩
  clear lF'
  intro D' vs' ns' h' tk' F' N' hi' hn'
  (try dsimp only)
  (try k_fold)
  k_steps
  unfold Stop
  refine slash_cut ?_ ?_
  · k_steps
    all_goals exact ⟨_, rfl⟩
  intro z8 u8 b8 k8 hz8
  have hzl8 := slash_len hz8
  (try dsimp only)
  k_steps
  unfold Stop
  (with_reducible rename PathOf _ => hS)
  revert hS
  (with_reducible rename PathOf _ => hF)
  revert hF
  (with_reducible rename PathOf _ => hB)
  intro hF hS
  have hPb := pair_second hB hS
  rename Fr _ _ _ _ => lF'
  refine first_cut (Str.ofString "first") lF' (by rfl) ?_ ?_
  · k_steps
    · (with_reducible rename Fr _ _ _ _ => lF9)
      exact ⟨rfl, _, _, _, _, rfl, lF9, first_t (by with_reducible assumption)⟩
    · (with_reducible rename Fr _ _ _ _ => lF9)
      exact ⟨rfl, _, _, _, _, rfl, fr_name lF9 rfl, first_f (by with_reducible assumption)⟩
  clear lF'
  intro x7 u7 h7 k7 hx7 F7 N7
  have hPa := pair_first hB hF hz8 hx7
  (try dsimp only)
  (try k_fold)
  k_steps
  unfold Stop
  rename Fr _ _ _ _ => lF'
  obtain ⟨vsP, hlP, hrP⟩ := page_rows _ (by k_asm)
  refine page_loop (Str.ofString "reference") (Str.ofString "due") (by rfl) lF' hlP ?_ ?_
  · clear lF'
    intro i8 v8 u8 h8 tk8 own8 hv8 F8 N8
    obtain ⟨a8, r8, d8, t8, t8', e8, ht8, hrow8⟩ := hrP _ (List.mem_of_getElem? hv8)
    subst e8
    have htp8 := fr_tup F8 ht8
    (try dsimp only)
    (try k_fold)
    k_steps
  · clear lF'
    intro u8 h8 tk8 F8 N8
    (try dsimp only)
    (try k_fold)
    k_steps
end Mine
end

theorem PySem.Challenge.cw_ab6016_01_holds : PySem.Challenge.rw_ab6016_01.Holds :=
  Mine.law_holds
