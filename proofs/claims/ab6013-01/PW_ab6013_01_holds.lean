import PyProof.Rows.All
import Wide.All
import OpenK.AllK
import Wide.FinOn
import Lean
import PySem.Challenge.RW_ab6013_01
set_option Elab.async false

section
open PySem PySem.W PyProof.Rows
namespace Mine
set_option maxRecDepth 100000 in
set_option maxHeartbeats 8000000 in
open_top hd for PySem.Challenge.rw_ab6013_01
end Mine
end

section
open PySem PySem.W PyProof.Rows PySem.Spec PySem.Calls
namespace Mine
abbrev Tp (mean : ExcName → Option Value) (mg mb : Str → Option Value) (h : Heap) : Prop := Top Mine.hd.view_39 (looseW Mine.hd.view_39 []) mean mg mb h

/-- a call of the text's def at f with vs: whoever calls, with room for `dep` frames, it gives back `R t` and leaves the caller's frame and ledger as they were -/
abbrev Says (w : World) (f : Addr) (dep : Nat) (vs : List Value) (R : Tok → Value) : Prop :=
  ∀ (mean : ExcName → Option Value) (mg mb : Str → Option Value) (dp un : Nat) (gd : Option (List Code)) (cn : Str) (cs : Scope) (a : Addr) (ccd : Value) (cl : List (Str × Addr)) (outer : List Env) (A₀ : Around) (base h₀ : Heap) (L : Addr) (m : Str → Option Value) (news : List (Addr × Obj)) (s : Shared) (Q E : Value → Shared → Prop),
    Below A₀ base outer h₀ → Fr h₀ L s.heap m → (Mine.hd.heap_39 w.params).In h₀ → News h₀ L s.heap news → Tp mean mg mb h₀ → cs.kind = .function → dp + dep < recursionLimit → un + 8 * dep < cLine →
    (∀ (t : Tok) (h' : Heap) (tk' : Nat), Fr h₀ L h' m → News h₀ L h' news → Q (R t) { s with heap := h', toks := tk' }) →
    wpAny (model PySem.Challenge.rw_ab6013_01.row.prog w) (ktrTop dp un gd cn cs L a ccd cl outer) (call (.ref f) vs) Q E s

theorem Says.use {w : World} {f : Addr} {dep : Nat} {vs : List Value} {R : Tok → Value} (C : Says w f dep vs R) {mean : ExcName → Option Value} {mg mb : Str → Option Value} {dp un : Nat} {gd : Option (List Code)} {cn : Str} {cs : Scope} {a : Addr} {ccd : Value} {cl : List (Str × Addr)} {outer : List Env} {A₀ : Around} {base h₀ : Heap} {L : Addr} {m : Str → Option Value} {news : List (Addr × Obj)} {s : Shared} {Q E : Value → Shared → Prop}
    (B : Below A₀ base outer h₀) (F : Fr h₀ L s.heap m) (X : (Mine.hd.heap_39 w.params).In h₀) (N : News h₀ L s.heap news) (T : Tp mean mg mb h₀) (hk : cs.kind = .function) (hd : dp + dep < recursionLimit) (hu : un + 8 * dep < cLine)
    (ret : ∀ (t : Tok) (h' : Heap) (tk' : Nat), Fr h₀ L h' m → News h₀ L h' news → Q (R t) { s with heap := h', toks := tk' }) :
    wpAny (model PySem.Challenge.rw_ab6013_01.row.prog w) (ktrTop dp un gd cn cs L a ccd cl outer) (call (.ref f) vs) Q E s :=
  C mean mg mb dp un gd cn cs a ccd cl outer A₀ base h₀ L m news s Q E B F X N T hk hd hu ret

end Mine
end

section
open PySem PySem.W PyProof.Rows PySem.Spec PySem.Calls
namespace Mine
set_option maxRecDepth 100000
section
variable {prog : Program} {w : World} {A : Around} {E : Value → Shared → Prop} {s : Shared}
theorem kind_isn : builtinKind "issubclass.nested" = none := by decide +kernel
theorem plain_isn : plainId "issubclass.nested" = true := by decide +kernel
theorem args_isn (a b c : Value) : argsOk "issubclass.nested" ⟨[a, b, c], []⟩ := by unfold argsOk; kernel_rfl

/-- a type asked against one type of the built-in ones -/
theorem isc_type {X Y : String} {v : Bool} {dep : Int} {tk : Tok} {Q : Fin → Shared → Prop} (hm : typeOf (.type Y) = pure (.type "type"))
    (hs : isSubtype (.type X) (.type Y) = pure v) (hq : Q (.done (.ret (.bool v))) s) :
    wpAny (model prog w) A (Builtin.«issubclass.nested» ⟨[.type X, .type Y, .int dep tk], []⟩) Q E s := by
  repeat (any_goals (first | assumption | (rw [if_pos hm]) | (rw [hs]) | wp_step))

def IscOne (X : String) (c : Value) (v : Bool) : Prop := ∀ (dep : Int) (tk : Tok), Meets (Builtin.«issubclass.nested» ⟨[.type X, c, .int dep tk], []⟩) (fun _ R s => R (.ok (.ret (.bool v))) s)
theorem IscOne.of {X Y : String} {v : Bool} (hm : typeOf (.type Y) = pure (.type "type")) (hs : isSubtype (.type X) (.type Y) = pure v) : IscOne X (.type Y) v :=
  fun _ _ _ _ _ _ _ h => isc_type hm hs h
def IscAll (X : String) : List Value → List Bool → Prop
  | [], [] => True
  | c :: cs, v :: vs => IscOne X c v ∧ IscAll X cs vs
  | _, _ => False

theorem isc_items {X : String} {dep : Int} : ∀ (cs : List Value) (vs : List Bool) (s : Shared) (Q : Option Fin × Unit → Shared → Prop),
    IscAll X cs vs → Q (if vs.any id then some (.done (.ret (.bool true))) else none, ()) s →
    wpAny (model prog w) A (forIn cs ((none : Option Fin), ()) fun c _ => do
      if ← truthy (← call (.builtin "issubclass.nested") [.type X, c, rawInt (dep + 1)]) then
        let r ← ret (.bool true)
        pure (ForInStep.done (some r, ()))
      else pure (ForInStep.yield (none, ()))) Q E s
  | [], [], s, Q, _, h => wpAny_pure h
  | c :: cs, v :: vs, s, Q, ha, h => by
    rw [List.forIn_cons]
    refine wpAny_bind (wpAny_bind (call_function_meets kind_isn plain_isn F.entry_issubclass_nested (args_isn _ _ _) (ha.1 _ _) ?_))
    show wpAny _ _ (truthy (.bool v) >>= _) _ _ _
    refine wpAny_bind (m := truthy (.bool v)) (wpAny_pure ?_)
    cases v with
    | true => exact wpAny_bind (wpAny_pure (wpAny_pure (wpAny_pure h)))
    | false => exact wpAny_pure (isc_items cs vs _ Q ha.2 h)

theorem isc_tuple {X : String} {tp : Addr} {cs : List Value} {vs : List Bool} {b : Bool} {Q : Value → Shared → Prop} (ha : IscAll X cs vs) (hb : vs.any id = b)
    (ht : s.heap.get? tp = some { cls := .type "tuple", data := .seq cs.toArray }) (h : Q (.bool b) s) :
    wpAny (model prog w) A (call (.builtin "issubclass") [.type X, .ref tp]) Q E s := by
  have m : Meets (Builtin.«issubclass» ⟨[.type X, .ref tp], []⟩) (fun _ R s => s.heap.get? tp = some { cls := .type "tuple", data := .seq cs.toArray } ∧ R (.ok (.ret (.bool b))) s) := by
    intro prog w A R s hs
    refine issubclass_outer ?_
    obtain ⟨htp, hq⟩ := hs
    obtain ⟨h, g, d, t, os⟩ := s
    have hT2 : (⟨h, g, d, t, os⟩ : Shared).TypeIs (.ref tp) "tuple" := ⟨_, htp, rfl⟩
    have f1 := F.isi_sub_tuple
    repeat (any_goals (first | assumption | wp_step))
    refine wpAny_arrayLoop ?_
    simp only [Option.getD_some, List.toList_toArray]
    refine isc_items (dep := 0) cs vs _ _ ha ?_
    subst hb
    cases hv : vs.any id with
    | true =>
      rw [hv] at hq
      simp only [if_true]
      repeat (any_goals (first | assumption | wp_step))
    | false =>
      rw [hv] at hq
      simp only [Bool.false_eq_true, if_false]
      repeat (any_goals (first | assumption | wp_step))
  exact call_issubclass m ⟨ht, h⟩

theorem meta_str : typeOf (.type "str") = pure (.type "type") := F.isi_meta_str
theorem meta_bytes : typeOf (.type "bytes") = pure (.type "type") := F.isi_meta_bytes
theorem isc_str : IscAll "str" [.type "str", .type "bytes"] [true, false] := ⟨.of meta_str F.sub_str_str, .of meta_bytes F.sub_str_bytes, trivial⟩
theorem isc_bytes : IscAll "bytes" [.type "str", .type "bytes"] [false, true] := ⟨.of meta_str F.sub_bytes_str, .of meta_bytes F.sub_bytes_bytes, trivial⟩
end
end Mine
end

section
open PySem PySem.W PyProof.Rows PySem.Spec PySem.Calls
namespace Mine
local macro_rules | `(tactic| walk_at "call builtin:issubclass") => `(tactic| (k_here; first
  | (refine isc_tuple isc_str rfl (News.get (by k_asm) (by k_mem)) ?_)
  | (refine isc_tuple isc_bytes rfl (News.get (by k_asm) (by k_mem)) ?_)))
local macro_rules | `(tactic| walk_at "call type:type") => `(tactic| (k_here; (with_reducible show wpAny _ _ (call _ [Value.bytes _ _]) _ _ _); refine call_type_of (Tx := "bytes") rfl (by decide +kernel) ?_))
set_option maxRecDepth 100000
set_option maxHeartbeats 8000000
theorem says_fspath_s (w : World) (x : PySem.Str) (t0 : Tok) : Says w 101 1 [.str x t0] (fun _ => .str x t0) := by
  unfold Says
  k_with_none
  w_top off
  k_fill
  intro mean mg mb dp un gd cn cs a ccd cl outer A₀ base h₀ L m news s Q E B F X N T hk hd hu hret
  refine wpAny_call ?_
  k_dflt cell_enter
  k_steps
  all_goals first
    | exact hret 0 _ _ (by k_asm) (by first | k_asm | (refine' cb_drop ?cbN ?cbS; (case cbN => assumption); (case cbS => kcj_all)))
theorem says_fspath_b (w : World) (x : Array UInt8) (t0 : Tok) : Says w 101 1 [.bytes x t0] (fun _ => .bytes x t0) := by
  unfold Says
  k_with_none
  w_top off
  k_fill
  intro mean mg mb dp un gd cn cs a ccd cl outer A₀ base h₀ L m news s Q E B F X N T hk hd hu hret
  refine wpAny_call ?_
  k_dflt cell_enter
  k_steps
  all_goals first
    | exact hret 0 _ _ (by k_asm) (by first | k_asm | (refine' cb_drop ?cbN ?cbS; (case cbN => assumption); (case cbS => kcj_all)))
theorem says_sep_s (w : World) (x : PySem.Str) (t0 : Tok) : Says w 115 1 [.str x t0] (fun t => .str (PySem.Str.ofString "/") t) := by
  unfold Says
  k_with_none
  w_top off
  k_fill
  intro mean mg mb dp un gd cn cs a ccd cl outer A₀ base h₀ L m news s Q E B F X N T hk hd hu hret
  refine wpAny_call ?_
  k_dflt cell_enter
  k_steps
  all_goals first
    | exact hret _ _ _ (by k_asm) (by first | k_asm | (refine' cb_drop ?cbN ?cbS; (case cbN => assumption); (case cbS => kcj_all)))
theorem says_sep_b (w : World) (x : Array UInt8) (t0 : Tok) : Says w 115 1 [.bytes x t0] (fun t => .bytes #[47] t) := by
  unfold Says
  k_with_none
  w_top off
  k_fill
  intro mean mg mb dp un gd cn cs a ccd cl outer A₀ base h₀ L m news s Q E B F X N T hk hd hu hret
  refine wpAny_call ?_
  k_dflt cell_enter
  k_steps
  all_goals first
    | exact hret _ _ _ (by k_asm) (by first | k_asm | (refine' cb_drop ?cbN ?cbS; (case cbN => assumption); (case cbS => kcj_all)))
end Mine
end

section
namespace Mine
/-! The plain law: paths as lists of codes (47 the slash, 46 the dot). -/
def sp : List Nat → List (List Nat)
  | [] => [[]]
  | c :: r => if c = 47 then [] :: sp r else match sp r with
    | [] => [[c]]
    | p :: ps => (c :: p) :: ps
def jn : List (List Nat) → List Nat
  | [] => []
  | [p] => p
  | p :: q :: r => p ++ 47 :: jn (q :: r)
def lastIx (c : Nat) : List Nat → Option Nat
  | [] => none
  | x :: r => match lastIx c r with
    | some i => some (i + 1)
    | none => if x = c then some 0 else none
def nm (l : List Nat) : List Nat := match lastIx 47 l with
  | none => l
  | some k => l.drop (k + 1)
def lead (c : Nat) : List Nat → Nat
  | [] => 0
  | x :: r => if x = c then lead c r + 1 else 0
def rt (l : List Nat) : List Nat := if lead 47 l = 0 then [] else if lead 47 l = 2 then [47, 47] else [47]
def extn (l : List Nat) : List Nat := match lastIx 46 l with
  | none => []
  | some k => if lead 46 l < k then l.drop k else []
def ext (l : List Nat) : List Nat := extn (nm l)
/-- a piece that stands: neither empty nor a dot nor two -/
def Std (c : List Nat) : Prop := c ≠ [] ∧ c ≠ [46] ∧ c ≠ [46, 46]
def bk : List (List Nat) → Nat × List (List Nat)
  | [] => (0, [])
  | c :: r => if c = [46, 46] then ((bk r).1 + 1, (bk r).2) else if c = [] ∨ c = [46] then bk r else if (bk r).1 = 0 then (0, c :: (bk r).2) else ((bk r).1 - 1, (bk r).2)
def nms (l : List Nat) : List (List Nat) := if rt l = [] then List.replicate (bk (sp l)).1 [46, 46] ++ (bk (sp l)).2 else (bk (sp l)).2
def whole (l : List Nat) : List Nat := rt l ++ jn (nms l)
def nrm (l : List Nat) : List Nat := if whole l = [] then [46] else whole l

/-! sp and jn -/
theorem sp_ne (l : List Nat) : sp l ≠ [] := by
  cases l with
  | nil => simp [sp]
  | cons c r =>
    unfold sp
    split
    · simp
    · split <;> simp
theorem sp_free : ∀ (l : List Nat), ∀ p ∈ sp l, 47 ∉ p
  | [], p, h => by simp [sp] at h; subst h; simp
  | c :: r, p, h => by
    have ih := sp_free r
    unfold sp at h
    split at h
    · rcases List.mem_cons.mp h with rfl | h
      · simp
      · exact ih p h
    · rename_i hc
      split at h
      · rename_i e; exact absurd e (sp_ne r)
      · rename_i q qs e
        rw [e] at ih
        rcases List.mem_cons.mp h with rfl | h
        · intro hm
          rcases List.mem_cons.mp hm with e | hm
          · exact hc e.symm
          · exact ih q (.head _) hm
        · exact ih p (.tail _ h)
theorem jn_cons (p : List Nat) {r : List (List Nat)} (h : r ≠ []) : jn (p :: r) = p ++ 47 :: jn r := by
  cases r with
  | nil => exact absurd rfl h
  | cons q r => rfl
theorem jn_sp : ∀ l : List Nat, jn (sp l) = l
  | [] => rfl
  | c :: r => by
    have ih := jn_sp r
    unfold sp
    split
    · rename_i e
      rw [jn_cons _ (sp_ne r), ih, e]; rfl
    · split
      · rename_i e; exact absurd e (sp_ne r)
      · rename_i q qs e
        rw [e] at ih
        cases qs with
        | nil => rw [← ih]; rfl
        | cons a b => rw [← ih]; rfl
theorem sp_of_free : ∀ {l : List Nat}, 47 ∉ l → sp l = [l]
  | [], _ => rfl
  | c :: r, h => by
    have h1 : c ≠ 47 := fun e => h (e ▸ .head _)
    unfold sp
    rw [if_neg h1, sp_of_free (fun m => h (.tail _ m))]
theorem sp_slash (r : List Nat) : sp (47 :: r) = [] :: sp r := rfl
theorem sp_cons {c : Nat} (h : c ≠ 47) {r p : List Nat} {ps : List (List Nat)} (e : sp r = p :: ps) : sp (c :: r) = (c :: p) :: ps := by
  have : sp (c :: r) = if c = 47 then [] :: sp r else match sp r with
    | [] => [[c]]
    | p :: ps => (c :: p) :: ps := rfl
  rw [this, if_neg h, e]
theorem sp_append : ∀ {p : List Nat} (q : List Nat), 47 ∉ p → sp (p ++ 47 :: q) = p :: sp q
  | [], q, _ => sp_slash q
  | c :: r, q, h => by
    have h1 : c ≠ 47 := fun e => h (e ▸ .head _)
    exact sp_cons h1 (sp_append q (fun m => h (.tail _ m)))
theorem sp_jn : ∀ {ps : List (List Nat)}, ps ≠ [] → (∀ p ∈ ps, 47 ∉ p) → sp (jn ps) = ps
  | [], h, _ => absurd rfl h
  | [p], _, h => sp_of_free (h p (.head _))
  | p :: q :: r, _, h => by
    rw [jn_cons p (by simp), sp_append _ (h p (.head _)), sp_jn (by simp) fun x hx => h x (.tail _ hx)]
theorem sp_uniq {l : List Nat} {ps : List (List Nat)} (h : ps ≠ []) (hf : ∀ p ∈ ps, 47 ∉ p) (e : jn ps = l) : ps = sp l := by
  rw [← e, sp_jn h hf]

/-! the last place -/
theorem lastIx_none {c : Nat} : ∀ {l : List Nat}, c ∉ l → lastIx c l = none
  | [], _ => rfl
  | x :: r, h => by
    have h1 : ¬ x = c := fun e => h (by rw [e]; exact .head _)
    unfold lastIx
    rw [lastIx_none fun m => h (.tail _ m)]
    exact if_neg h1
theorem lastIx_append {c : Nat} {b : List Nat} (h : c ∉ b) : ∀ a : List Nat, lastIx c (a ++ c :: b) = some a.length
  | [] => by show lastIx c (c :: b) = _; unfold lastIx; rw [lastIx_none h]; simp
  | x :: r => by
    show lastIx c (x :: (r ++ c :: b)) = _
    unfold lastIx
    rw [lastIx_append h r]
    rfl
theorem lastIx_cases (c : Nat) (l : List Nat) : (c ∉ l ∧ lastIx c l = none) ∨ ∃ a b, l = a ++ c :: b ∧ c ∉ b ∧ lastIx c l = some a.length := by
  induction l with
  | nil => exact .inl ⟨by simp, rfl⟩
  | cons x r ih =>
    rcases ih with ⟨h, e⟩ | ⟨a, b, h, hb, e⟩
    · by_cases hx : x = c
      · subst hx
        exact .inr ⟨[], r, rfl, h, by unfold lastIx; rw [e]; simp⟩
      · refine .inl ⟨?_, by unfold lastIx; rw [e]; simp [hx]⟩
        intro m
        rcases List.mem_cons.mp m with e | m
        · exact hx e.symm
        · exact h m
    · exact .inr ⟨x :: a, b, by rw [h]; rfl, hb, by unfold lastIx; rw [e]; rfl⟩
theorem lastIx_at {c k : Nat} {l : List Nat} (h : l[k]? = some c) (hb : c ∉ l.drop (k + 1)) : lastIx c l = some k := by
  have hk : k < l.length := by
    rcases Nat.lt_or_ge k l.length with h1 | h1
    · exact h1
    · rw [List.getElem?_eq_none h1] at h; cases h
  have e : l = l.take k ++ c :: l.drop (k + 1) := by
    have h2 : l[k] = c := by rw [List.getElem?_eq_getElem hk] at h; exact Option.some.inj h
    rw [← h2, List.getElem_cons_drop, List.take_append_drop]
  have h3 := lastIx_append hb (l.take k)
  rw [← e] at h3
  rw [h3, List.length_take, Nat.min_eq_left (Nat.le_of_lt hk)]

/-! the name -/
theorem nm_free (l : List Nat) : 47 ∉ nm l := by
  unfold nm
  rcases lastIx_cases 47 l with ⟨h, e⟩ | ⟨a, b, h, hb, e⟩
  · rw [e]; exact h
  · rw [e, h]
    show 47 ∉ List.drop (a.length + 1) (a ++ 47 :: b)
    have : List.drop (a.length + 1) (a ++ 47 :: b) = b := by
      rw [List.drop_append, Nat.add_sub_cancel_left]
      simp
    rw [this]; exact hb
theorem nm_of_free {l : List Nat} (h : 47 ∉ l) : nm l = l := by unfold nm; rw [lastIx_none h]
theorem nm_nm (l : List Nat) : nm (nm l) = nm l := nm_of_free (nm_free l)
theorem nm_drop {l : List Nat} {k : Nat} (hf : 47 ∉ l.drop k) (h : k = 0 ∨ l[k - 1]? = some 47) : l.drop k = nm l := by
  rcases h with rfl | h
  · exact (nm_of_free hf).symm
  · by_cases hk : k = 0
    · subst hk; exact (nm_of_free hf).symm
    · unfold nm
      have e : k = k - 1 + 1 := by omega
      rw [lastIx_at (k := k - 1) h (by rw [← e]; exact hf)]
      show _ = List.drop (k - 1 + 1) l
      rw [← e]
theorem nm_sub (l : List Nat) : ∀ c ∈ nm l, c ∈ l := by
  unfold nm
  intro c h
  split at h
  · exact h
  · exact List.mem_of_mem_drop h
theorem nm_len (l : List Nat) : (nm l).length ≤ l.length := by
  unfold nm
  split
  · exact Nat.le_refl _
  · rw [List.length_drop]; omega

/-! the ending -/
theorem ext_eq (l : List Nat) : ext (nm l) = ext l := by unfold ext; rw [nm_nm]
theorem ext_of_free {l : List Nat} (h : 47 ∉ l) : ext l = extn l := by unfold ext; rw [nm_of_free h]
theorem extn_cases (l : List Nat) : extn l = [] ∨ ∃ b, extn l = 46 :: b ∧ 46 ∉ b := by
  unfold extn
  rcases lastIx_cases 46 l with ⟨h, e⟩ | ⟨a, b, h, hb, e⟩
  · rw [e]; exact .inl rfl
  · rw [e]
    dsimp only
    split
    · refine .inr ⟨b, ?_, hb⟩
      rw [h, List.drop_append, Nat.sub_self]
      simp
    · exact .inl rfl
theorem extn_sub (l : List Nat) : ∀ c ∈ extn l, c ∈ l := by
  unfold extn
  intro c h
  split at h
  · cases h
  · split at h
    · exact List.mem_of_mem_drop h
    · cases h
theorem ext_sub (l : List Nat) : ∀ c ∈ ext l, c ∈ l := fun c h => nm_sub l c (extn_sub _ c h)
theorem ext_free (l : List Nat) : 47 ∉ ext l := fun h => nm_free l (extn_sub _ _ h)
theorem ext_len (l : List Nat) : (ext l).length ≤ l.length := by
  refine Nat.le_trans ?_ (nm_len l)
  unfold ext extn
  split
  · exact Nat.zero_le _
  · split
    · rw [List.length_drop]; omega
    · exact Nat.zero_le _
theorem extn_extn (l : List Nat) : extn (extn l) = [] := by
  rcases extn_cases l with h | ⟨b, h, hb⟩
  · rw [h]; rfl
  · rw [h]
    have e := lastIx_append hb []
    have e' : lastIx 46 (46 :: b) = some 0 := e
    unfold extn
    rw [e']
    dsimp only
    rw [if_neg (Nat.not_lt_zero _)]
theorem ext_ext (l : List Nat) : ext (ext l) = [] := by
  rw [ext_of_free (ext_free l)]
  exact extn_extn _

/-! the root -/
theorem rt_free {l : List Nat} (h : 47 ∉ l) : rt l = [] := by
  have e : lead 47 l = 0 := by
    cases l with
    | nil => rfl
    | cons c r =>
      have h1 : ¬ c = 47 := fun e => h (by rw [e]; exact .head _)
      unfold lead
      rw [if_neg h1]
  unfold rt
  rw [if_pos e]
theorem rt_cases (l : List Nat) : rt l = [] ∨ rt l = [47] ∨ rt l = [47, 47] := by
  unfold rt
  split
  · exact .inl rfl
  · split
    · exact .inr (.inr rfl)
    · exact .inr (.inl rfl)
theorem rt_append {l : List Nat} (h : lead 47 l = 0) : ∀ k : Nat, lead 47 (List.replicate k 47 ++ l) = k
  | 0 => h
  | k + 1 => by
    show lead 47 (47 :: (List.replicate k 47 ++ l)) = _
    unfold lead
    rw [if_pos rfl, rt_append h k]

/-! the pieces from behind -/
theorem bk_std : ∀ cs : List (List Nat), ∀ p ∈ (bk cs).2, Std p ∧ p ∈ cs
  | [], p, h => by cases h
  | c :: r, p, h => by
    have ih := bk_std r
    unfold bk at h
    split at h
    · exact ⟨(ih p h).1, .tail _ (ih p h).2⟩
    · rename_i h1
      split at h
      · exact ⟨(ih p h).1, .tail _ (ih p h).2⟩
      · rename_i h2
        split at h
        · rcases List.mem_cons.mp h with rfl | h
          · exact ⟨⟨fun e => h2 (.inl e), fun e => h2 (.inr e), h1⟩, .head _⟩
          · exact ⟨(ih p h).1, .tail _ (ih p h).2⟩
        · exact ⟨(ih p h).1, .tail _ (ih p h).2⟩
theorem bk_of_std : ∀ {cs : List (List Nat)}, (∀ p ∈ cs, Std p) → bk cs = (0, cs)
  | [], _ => rfl
  | c :: r, h => by
    have hc := h c (.head _)
    unfold bk
    rw [if_neg hc.2.2, if_neg (fun e => e.elim hc.1 hc.2.1), bk_of_std fun p hp => h p (.tail _ hp)]
    simp
theorem bk_dots {cs : List (List Nat)} (h : ∀ p ∈ cs, Std p) : ∀ d : Nat, bk (List.replicate d [46, 46] ++ cs) = (d, cs)
  | 0 => bk_of_std h
  | d + 1 => by
    show bk ([46, 46] :: (List.replicate d [46, 46] ++ cs)) = _
    unfold bk
    rw [if_pos rfl, bk_dots h d]
theorem bk_nil (cs : List (List Nat)) : bk ([] :: cs) = bk cs := by
  show (if ([] : List Nat) = [46, 46] then _ else if ([] : List Nat) = [] ∨ ([] : List Nat) = [46] then bk cs else _) = _
  rw [if_neg (by simp), if_pos (.inl rfl)]

theorem nms_free (l : List Nat) : ∀ p ∈ nms l, 47 ∉ p ∧ p ≠ [] := by
  have hb := bk_std (sp l)
  have hs := sp_free l
  intro p hp
  have key : p ∈ (bk (sp l)).2 → 47 ∉ p ∧ p ≠ [] := fun h => ⟨hs p (hb p h).2, (hb p h).1.1⟩
  unfold nms at hp
  split at hp
  · rcases List.mem_append.mp hp with h | h
    · have := List.eq_of_mem_replicate h; subst this; simp
    · exact key h
  · exact key hp
theorem jn_lead : ∀ {ps : List (List Nat)}, (∀ p ∈ ps, 47 ∉ p ∧ p ≠ []) → lead 47 (jn ps) = 0
  | [], _ => rfl
  | p :: r, h => by
    obtain ⟨h1, h2⟩ := h p (.head _)
    cases p with
    | nil => exact absurd rfl h2
    | cons c q =>
      have hc : c ≠ 47 := fun e => h1 (e ▸ .head _)
      have : ∃ t, jn ((c :: q) :: r) = c :: t := by
        cases r with
        | nil => exact ⟨q, rfl⟩
        | cons a b => exact ⟨q ++ 47 :: jn (a :: b), rfl⟩
      obtain ⟨t, e⟩ := this
      rw [e]
      unfold lead
      rw [if_neg hc]
theorem rt_whole (l : List Nat) : rt (whole l) = rt l := by
  have h := jn_lead (nms_free l)
  unfold whole
  rcases rt_cases l with e | e | e <;> rw [e]
  · show rt (jn (nms l)) = []
    unfold rt; rw [if_pos h]
  · have := rt_append h 1
    show rt (List.replicate 1 47 ++ jn (nms l)) = [47]
    unfold rt
    rw [this, if_neg (by decide), if_neg (by decide)]
  · have := rt_append h 2
    show rt (List.replicate 2 47 ++ jn (nms l)) = [47, 47]
    unfold rt
    rw [this, if_neg (by decide), if_pos rfl]
theorem rt_nrm (l : List Nat) : rt (nrm l) = rt l := by
  unfold nrm
  split
  · rename_i h
    have : rt l = [] := by
      unfold whole at h
      exact (List.append_eq_nil_iff.mp h).1
    rw [this]; rfl
  · exact rt_whole l
theorem bk_sp_whole (l : List Nat) : bk (sp (whole l)) = bk (nms l) := by
  have hn := nms_free l
  have base : bk (sp (jn (nms l))) = bk (nms l) := by
    by_cases h : nms l = []
    · rw [h]; rfl
    · rw [sp_jn h fun p hp => (hn p hp).1]
  unfold whole
  rcases rt_cases l with e | e | e <;> rw [e]
  · exact base
  · show bk (sp ([] ++ 47 :: jn (nms l))) = _
    rw [sp_append _ (by simp), bk_nil, base]
  · show bk (sp ([] ++ 47 :: ([] ++ 47 :: jn (nms l)))) = _
    rw [sp_append _ (by simp), sp_append _ (by simp), bk_nil, bk_nil, base]
theorem nms_whole (l : List Nat) : nms (whole l) = nms l := by
  have hb : ∀ p ∈ (bk (sp l)).2, Std p := fun p hp => (bk_std (sp l) p hp).1
  have e1 : nms (whole l) = if rt (whole l) = [] then List.replicate (bk (sp (whole l))).1 [46, 46] ++ (bk (sp (whole l))).2 else (bk (sp (whole l))).2 := rfl
  rw [e1, rt_whole, bk_sp_whole]
  unfold nms
  split
  · rw [bk_dots hb]
  · rw [bk_of_std hb]
theorem whole_whole (l : List Nat) : whole (whole l) = whole l := by
  have e : whole (whole l) = rt (whole l) ++ jn (nms (whole l)) := rfl
  rw [e, rt_whole, nms_whole]; rfl
theorem nrm_nrm (l : List Nat) : nrm (nrm l) = nrm l := by
  by_cases h : whole l = []
  · have : nrm l = [46] := by unfold nrm; rw [if_pos h]
    rw [this]; decide
  · have : nrm l = whole l := by unfold nrm; rw [if_neg h]
    rw [this]
    unfold nrm
    rw [whole_whole, if_neg h]
theorem nrm_free {l : List Nat} (h : 47 ∉ l) : nrm l = if l = [] then [46] else l := by
  have hr := rt_free h
  have hs := sp_of_free h
  have e : whole l = jn (List.replicate (bk [l]).1 [46, 46] ++ (bk [l]).2) := by
    unfold whole nms
    rw [hr, if_pos rfl, hs]; rfl
  by_cases h0 : l = []
  · subst h0; decide
  · rw [if_neg h0]
    by_cases h1 : l = [46, 46]
    · subst h1; decide
    · by_cases h2 : l = [46]
      · subst h2; decide
      · rw [bk_of_std (cs := [l]) (by intro p hp; rw [List.mem_singleton] at hp; subst hp; exact ⟨h0, h2, h1⟩)] at e
        have e' : whole l = l := e
        unfold nrm
        rw [e', if_neg h0]

/-! the fifteen words and the table -/
def twin (k : Nat) (l : List Nat) : List Nat := if k = 0 then nm l else if k = 1 then nrm l else if k = 2 then ext l else rt l
def words (p : List Nat) : List (List Nat) :=
  [p, nm p, nrm p, ext p, rt p, nrm (nm p), rt (nm p), nm (nrm p), ext (nrm p), nrm (ext p), nrm (rt p), nrm (rt (nm p)), nrm (nm (nrm p)), nrm (ext (nrm p)), nm (nrm (rt p))]
theorem rt_nm (p : List Nat) : rt (nm p) = [] := rt_free (nm_free p)
theorem rt_ext (p : List Nat) : rt (ext p) = [] := rt_free (ext_free p)
theorem nm_ext (p : List Nat) : nm (ext p) = ext p := nm_of_free (ext_free p)
theorem free_nrm {q : List Nat} (h : 47 ∉ q) : 47 ∉ nrm q := by
  rw [nrm_free h]
  split
  · simp
  · exact h
theorem ext_nrm_free {q : List Nat} (h : 47 ∉ q) : ext (nrm q) = ext q := by
  rw [nrm_free h]
  split
  · rename_i e; subst e; decide
  · rfl
theorem row0 (p : List Nat) (k : Nat) (hk : k < 4) : twin k p = (words p).getD (k + 1) [] := by
  have : k = 0 ∨ k = 1 ∨ k = 2 ∨ k = 3 := by omega
  rcases this with rfl | rfl | rfl | rfl <;> rfl
end Mine
end

section
namespace Mine
theorem row0c0 (p : List Nat) : nm p = (nm p) := rfl
theorem row0c1 (p : List Nat) : nrm p = (nrm p) := rfl
theorem row0c2 (p : List Nat) : ext p = (ext p) := rfl
theorem row0c3 (p : List Nat) : rt p = (rt p) := rfl
theorem row1c0 (p : List Nat) : nm (nm p) = (nm p) := nm_nm _
theorem row1c1 (p : List Nat) : nrm (nm p) = (nrm (nm p)) := rfl
theorem row1c2 (p : List Nat) : ext (nm p) = (ext p) := ext_eq _
theorem row1c3 (p : List Nat) : rt (nm p) = (rt (nm p)) := rfl
theorem row2c0 (p : List Nat) : nm (nrm p) = (nm (nrm p)) := rfl
theorem row2c1 (p : List Nat) : nrm (nrm p) = (nrm p) := nrm_nrm _
theorem row2c2 (p : List Nat) : ext (nrm p) = (ext (nrm p)) := rfl
theorem row2c3 (p : List Nat) : rt (nrm p) = (rt p) := rt_nrm _
theorem row3c0 (p : List Nat) : nm (ext p) = (ext p) := nm_ext _
theorem row3c1 (p : List Nat) : nrm (ext p) = (nrm (ext p)) := rfl
theorem row3c2 (p : List Nat) : ext (ext p) = (rt (nm p)) := by rw [ext_ext, rt_nm]
theorem row3c3 (p : List Nat) : rt (ext p) = (rt (nm p)) := by rw [rt_ext, rt_nm]
theorem row4c0 (p : List Nat) : nm (rt p) = (rt (nm p)) := by (rcases rt_cases p with h | h | h <;> (first | rw [h, rt_nm] | rw [h]) <;> decide)
theorem row4c1 (p : List Nat) : nrm (rt p) = (nrm (rt p)) := by (rcases rt_cases p with h | h | h <;> (first | rw [h, rt_nm] | rw [h]) <;> decide)
theorem row4c2 (p : List Nat) : ext (rt p) = (rt (nm p)) := by (rcases rt_cases p with h | h | h <;> (first | rw [h, rt_nm] | rw [h]) <;> decide)
theorem row4c3 (p : List Nat) : rt (rt p) = (rt p) := by (rcases rt_cases p with h | h | h <;> (first | rw [h, rt_nm] | rw [h]) <;> decide)
theorem row5c0 (p : List Nat) : nm (nrm (nm p)) = (nrm (nm p)) := nm_of_free (free_nrm (nm_free p))
theorem row5c1 (p : List Nat) : nrm (nrm (nm p)) = (nrm (nm p)) := nrm_nrm _
theorem row5c2 (p : List Nat) : ext (nrm (nm p)) = (ext p) := by rw [ext_nrm_free (nm_free p), ext_eq]
theorem row5c3 (p : List Nat) : rt (nrm (nm p)) = (rt (nm p)) := by rw [rt_free (free_nrm (nm_free p)), rt_nm]
theorem row6c0 (p : List Nat) : nm (rt (nm p)) = (rt (nm p)) := by first | (rw [rt_nm]; done) | (rw [rt_nm]; decide)
theorem row6c1 (p : List Nat) : nrm (rt (nm p)) = (nrm (rt (nm p))) := by first | (rw [rt_nm]; done) | (rw [rt_nm]; decide)
theorem row6c2 (p : List Nat) : ext (rt (nm p)) = (rt (nm p)) := by first | (rw [rt_nm]; done) | (rw [rt_nm]; decide)
theorem row6c3 (p : List Nat) : rt (rt (nm p)) = (rt (nm p)) := by first | (rw [rt_nm]; done) | (rw [rt_nm]; decide)
theorem row7c0 (p : List Nat) : nm (nm (nrm p)) = (nm (nrm p)) := nm_nm _
theorem row7c1 (p : List Nat) : nrm (nm (nrm p)) = (nrm (nm (nrm p))) := rfl
theorem row7c2 (p : List Nat) : ext (nm (nrm p)) = (ext (nrm p)) := ext_eq _
theorem row7c3 (p : List Nat) : rt (nm (nrm p)) = (rt (nm p)) := by rw [rt_nm, rt_nm]
theorem row8c0 (p : List Nat) : nm (ext (nrm p)) = (ext (nrm p)) := nm_ext _
theorem row8c1 (p : List Nat) : nrm (ext (nrm p)) = (nrm (ext (nrm p))) := rfl
theorem row8c2 (p : List Nat) : ext (ext (nrm p)) = (rt (nm p)) := by rw [ext_ext, rt_nm]
theorem row8c3 (p : List Nat) : rt (ext (nrm p)) = (rt (nm p)) := by rw [rt_ext, rt_nm]
theorem row9c0 (p : List Nat) : nm (nrm (ext p)) = (nrm (ext p)) := nm_of_free (free_nrm (ext_free p))
theorem row9c1 (p : List Nat) : nrm (nrm (ext p)) = (nrm (ext p)) := nrm_nrm _
theorem row9c2 (p : List Nat) : ext (nrm (ext p)) = (rt (nm p)) := by rw [ext_nrm_free (ext_free p), ext_ext, rt_nm]
theorem row9c3 (p : List Nat) : rt (nrm (ext p)) = (rt (nm p)) := by rw [rt_free (free_nrm (ext_free p)), rt_nm]
theorem row10c0 (p : List Nat) : nm (nrm (rt p)) = (nm (nrm (rt p))) := by (rcases rt_cases p with h | h | h <;> (first | rw [h, rt_nm] | rw [h]) <;> decide)
theorem row10c1 (p : List Nat) : nrm (nrm (rt p)) = (nrm (rt p)) := by (rcases rt_cases p with h | h | h <;> (first | rw [h, rt_nm] | rw [h]) <;> decide)
theorem row10c2 (p : List Nat) : ext (nrm (rt p)) = (rt (nm p)) := by (rcases rt_cases p with h | h | h <;> (first | rw [h, rt_nm] | rw [h]) <;> decide)
theorem row10c3 (p : List Nat) : rt (nrm (rt p)) = (rt p) := by (rcases rt_cases p with h | h | h <;> (first | rw [h, rt_nm] | rw [h]) <;> decide)
theorem row11c0 (p : List Nat) : nm (nrm (rt (nm p))) = (nrm (rt (nm p))) := by rw [rt_nm]; decide
theorem row11c1 (p : List Nat) : nrm (nrm (rt (nm p))) = (nrm (rt (nm p))) := by rw [rt_nm]; decide
theorem row11c2 (p : List Nat) : ext (nrm (rt (nm p))) = (rt (nm p)) := by rw [rt_nm]; decide
theorem row11c3 (p : List Nat) : rt (nrm (rt (nm p))) = (rt (nm p)) := by rw [rt_nm]; decide
theorem row12c0 (p : List Nat) : nm (nrm (nm (nrm p))) = (nrm (nm (nrm p))) := nm_of_free (free_nrm (nm_free _))
theorem row12c1 (p : List Nat) : nrm (nrm (nm (nrm p))) = (nrm (nm (nrm p))) := nrm_nrm _
theorem row12c2 (p : List Nat) : ext (nrm (nm (nrm p))) = (ext (nrm p)) := by rw [ext_nrm_free (nm_free _), ext_eq]
theorem row12c3 (p : List Nat) : rt (nrm (nm (nrm p))) = (rt (nm p)) := by rw [rt_free (free_nrm (nm_free _)), rt_nm]
theorem row13c0 (p : List Nat) : nm (nrm (ext (nrm p))) = (nrm (ext (nrm p))) := nm_of_free (free_nrm (ext_free _))
theorem row13c1 (p : List Nat) : nrm (nrm (ext (nrm p))) = (nrm (ext (nrm p))) := nrm_nrm _
theorem row13c2 (p : List Nat) : ext (nrm (ext (nrm p))) = (rt (nm p)) := by rw [ext_nrm_free (ext_free _), ext_ext, rt_nm]
theorem row13c3 (p : List Nat) : rt (nrm (ext (nrm p))) = (rt (nm p)) := by rw [rt_free (free_nrm (ext_free _)), rt_nm]
theorem row14c0 (p : List Nat) : nm (nm (nrm (rt p))) = (nm (nrm (rt p))) := by (rcases rt_cases p with h | h | h <;> (first | rw [h, rt_nm] | rw [h]) <;> decide)
theorem row14c1 (p : List Nat) : nrm (nm (nrm (rt p))) = (nrm (rt (nm p))) := by (rcases rt_cases p with h | h | h <;> (first | rw [h, rt_nm] | rw [h]) <;> decide)
theorem row14c2 (p : List Nat) : ext (nm (nrm (rt p))) = (rt (nm p)) := by (rcases rt_cases p with h | h | h <;> (first | rw [h, rt_nm] | rw [h]) <;> decide)
theorem row14c3 (p : List Nat) : rt (nm (nrm (rt p))) = (rt (nm p)) := by rw [rt_nm, rt_nm]
def nexts : List (List Nat) := [[1, 2, 3, 4], [1, 5, 3, 6], [7, 2, 8, 4], [3, 9, 6, 6], [6, 10, 6, 4], [5, 5, 3, 6], [6, 11, 6, 6], [7, 12, 8, 6], [8, 13, 6, 6], [9, 9, 6, 6], [14, 10, 6, 4], [11, 11, 6, 6], [12, 12, 8, 6], [13, 13, 6, 6], [14, 11, 6, 6]]
theorem tab0 (p : List Nat) (k : Nat) (hk : k < 4) : twin k p = (words p).getD (([1, 2, 3, 4] : List Nat).getD k 0) [] := by
  have hk' : k = 0 ∨ k = 1 ∨ k = 2 ∨ k = 3 := by omega
  rcases hk' with rfl | rfl | rfl | rfl
  · exact (show twin 0 p = nm p from rfl).trans ((row0c0 p).trans (show (nm p) = (words p).getD 1 [] from rfl))
  · exact (show twin 1 p = nrm p from rfl).trans ((row0c1 p).trans (show (nrm p) = (words p).getD 2 [] from rfl))
  · exact (show twin 2 p = ext p from rfl).trans ((row0c2 p).trans (show (ext p) = (words p).getD 3 [] from rfl))
  · exact (show twin 3 p = rt p from rfl).trans ((row0c3 p).trans (show (rt p) = (words p).getD 4 [] from rfl))
theorem tab1 (p : List Nat) (k : Nat) (hk : k < 4) : twin k (nm p) = (words p).getD (([1, 5, 3, 6] : List Nat).getD k 0) [] := by
  have hk' : k = 0 ∨ k = 1 ∨ k = 2 ∨ k = 3 := by omega
  rcases hk' with rfl | rfl | rfl | rfl
  · exact (show twin 0 (nm p) = nm (nm p) from rfl).trans ((row1c0 p).trans (show (nm p) = (words p).getD 1 [] from rfl))
  · exact (show twin 1 (nm p) = nrm (nm p) from rfl).trans ((row1c1 p).trans (show (nrm (nm p)) = (words p).getD 5 [] from rfl))
  · exact (show twin 2 (nm p) = ext (nm p) from rfl).trans ((row1c2 p).trans (show (ext p) = (words p).getD 3 [] from rfl))
  · exact (show twin 3 (nm p) = rt (nm p) from rfl).trans ((row1c3 p).trans (show (rt (nm p)) = (words p).getD 6 [] from rfl))
theorem tab2 (p : List Nat) (k : Nat) (hk : k < 4) : twin k (nrm p) = (words p).getD (([7, 2, 8, 4] : List Nat).getD k 0) [] := by
  have hk' : k = 0 ∨ k = 1 ∨ k = 2 ∨ k = 3 := by omega
  rcases hk' with rfl | rfl | rfl | rfl
  · exact (show twin 0 (nrm p) = nm (nrm p) from rfl).trans ((row2c0 p).trans (show (nm (nrm p)) = (words p).getD 7 [] from rfl))
  · exact (show twin 1 (nrm p) = nrm (nrm p) from rfl).trans ((row2c1 p).trans (show (nrm p) = (words p).getD 2 [] from rfl))
  · exact (show twin 2 (nrm p) = ext (nrm p) from rfl).trans ((row2c2 p).trans (show (ext (nrm p)) = (words p).getD 8 [] from rfl))
  · exact (show twin 3 (nrm p) = rt (nrm p) from rfl).trans ((row2c3 p).trans (show (rt p) = (words p).getD 4 [] from rfl))
theorem tab3 (p : List Nat) (k : Nat) (hk : k < 4) : twin k (ext p) = (words p).getD (([3, 9, 6, 6] : List Nat).getD k 0) [] := by
  have hk' : k = 0 ∨ k = 1 ∨ k = 2 ∨ k = 3 := by omega
  rcases hk' with rfl | rfl | rfl | rfl
  · exact (show twin 0 (ext p) = nm (ext p) from rfl).trans ((row3c0 p).trans (show (ext p) = (words p).getD 3 [] from rfl))
  · exact (show twin 1 (ext p) = nrm (ext p) from rfl).trans ((row3c1 p).trans (show (nrm (ext p)) = (words p).getD 9 [] from rfl))
  · exact (show twin 2 (ext p) = ext (ext p) from rfl).trans ((row3c2 p).trans (show (rt (nm p)) = (words p).getD 6 [] from rfl))
  · exact (show twin 3 (ext p) = rt (ext p) from rfl).trans ((row3c3 p).trans (show (rt (nm p)) = (words p).getD 6 [] from rfl))
theorem tab4 (p : List Nat) (k : Nat) (hk : k < 4) : twin k (rt p) = (words p).getD (([6, 10, 6, 4] : List Nat).getD k 0) [] := by
  have hk' : k = 0 ∨ k = 1 ∨ k = 2 ∨ k = 3 := by omega
  rcases hk' with rfl | rfl | rfl | rfl
  · exact (show twin 0 (rt p) = nm (rt p) from rfl).trans ((row4c0 p).trans (show (rt (nm p)) = (words p).getD 6 [] from rfl))
  · exact (show twin 1 (rt p) = nrm (rt p) from rfl).trans ((row4c1 p).trans (show (nrm (rt p)) = (words p).getD 10 [] from rfl))
  · exact (show twin 2 (rt p) = ext (rt p) from rfl).trans ((row4c2 p).trans (show (rt (nm p)) = (words p).getD 6 [] from rfl))
  · exact (show twin 3 (rt p) = rt (rt p) from rfl).trans ((row4c3 p).trans (show (rt p) = (words p).getD 4 [] from rfl))
theorem tab5 (p : List Nat) (k : Nat) (hk : k < 4) : twin k (nrm (nm p)) = (words p).getD (([5, 5, 3, 6] : List Nat).getD k 0) [] := by
  have hk' : k = 0 ∨ k = 1 ∨ k = 2 ∨ k = 3 := by omega
  rcases hk' with rfl | rfl | rfl | rfl
  · exact (show twin 0 (nrm (nm p)) = nm (nrm (nm p)) from rfl).trans ((row5c0 p).trans (show (nrm (nm p)) = (words p).getD 5 [] from rfl))
  · exact (show twin 1 (nrm (nm p)) = nrm (nrm (nm p)) from rfl).trans ((row5c1 p).trans (show (nrm (nm p)) = (words p).getD 5 [] from rfl))
  · exact (show twin 2 (nrm (nm p)) = ext (nrm (nm p)) from rfl).trans ((row5c2 p).trans (show (ext p) = (words p).getD 3 [] from rfl))
  · exact (show twin 3 (nrm (nm p)) = rt (nrm (nm p)) from rfl).trans ((row5c3 p).trans (show (rt (nm p)) = (words p).getD 6 [] from rfl))
theorem tab6 (p : List Nat) (k : Nat) (hk : k < 4) : twin k (rt (nm p)) = (words p).getD (([6, 11, 6, 6] : List Nat).getD k 0) [] := by
  have hk' : k = 0 ∨ k = 1 ∨ k = 2 ∨ k = 3 := by omega
  rcases hk' with rfl | rfl | rfl | rfl
  · exact (show twin 0 (rt (nm p)) = nm (rt (nm p)) from rfl).trans ((row6c0 p).trans (show (rt (nm p)) = (words p).getD 6 [] from rfl))
  · exact (show twin 1 (rt (nm p)) = nrm (rt (nm p)) from rfl).trans ((row6c1 p).trans (show (nrm (rt (nm p))) = (words p).getD 11 [] from rfl))
  · exact (show twin 2 (rt (nm p)) = ext (rt (nm p)) from rfl).trans ((row6c2 p).trans (show (rt (nm p)) = (words p).getD 6 [] from rfl))
  · exact (show twin 3 (rt (nm p)) = rt (rt (nm p)) from rfl).trans ((row6c3 p).trans (show (rt (nm p)) = (words p).getD 6 [] from rfl))
theorem tab7 (p : List Nat) (k : Nat) (hk : k < 4) : twin k (nm (nrm p)) = (words p).getD (([7, 12, 8, 6] : List Nat).getD k 0) [] := by
  have hk' : k = 0 ∨ k = 1 ∨ k = 2 ∨ k = 3 := by omega
  rcases hk' with rfl | rfl | rfl | rfl
  · exact (show twin 0 (nm (nrm p)) = nm (nm (nrm p)) from rfl).trans ((row7c0 p).trans (show (nm (nrm p)) = (words p).getD 7 [] from rfl))
  · exact (show twin 1 (nm (nrm p)) = nrm (nm (nrm p)) from rfl).trans ((row7c1 p).trans (show (nrm (nm (nrm p))) = (words p).getD 12 [] from rfl))
  · exact (show twin 2 (nm (nrm p)) = ext (nm (nrm p)) from rfl).trans ((row7c2 p).trans (show (ext (nrm p)) = (words p).getD 8 [] from rfl))
  · exact (show twin 3 (nm (nrm p)) = rt (nm (nrm p)) from rfl).trans ((row7c3 p).trans (show (rt (nm p)) = (words p).getD 6 [] from rfl))
theorem tab8 (p : List Nat) (k : Nat) (hk : k < 4) : twin k (ext (nrm p)) = (words p).getD (([8, 13, 6, 6] : List Nat).getD k 0) [] := by
  have hk' : k = 0 ∨ k = 1 ∨ k = 2 ∨ k = 3 := by omega
  rcases hk' with rfl | rfl | rfl | rfl
  · exact (show twin 0 (ext (nrm p)) = nm (ext (nrm p)) from rfl).trans ((row8c0 p).trans (show (ext (nrm p)) = (words p).getD 8 [] from rfl))
  · exact (show twin 1 (ext (nrm p)) = nrm (ext (nrm p)) from rfl).trans ((row8c1 p).trans (show (nrm (ext (nrm p))) = (words p).getD 13 [] from rfl))
  · exact (show twin 2 (ext (nrm p)) = ext (ext (nrm p)) from rfl).trans ((row8c2 p).trans (show (rt (nm p)) = (words p).getD 6 [] from rfl))
  · exact (show twin 3 (ext (nrm p)) = rt (ext (nrm p)) from rfl).trans ((row8c3 p).trans (show (rt (nm p)) = (words p).getD 6 [] from rfl))
theorem tab9 (p : List Nat) (k : Nat) (hk : k < 4) : twin k (nrm (ext p)) = (words p).getD (([9, 9, 6, 6] : List Nat).getD k 0) [] := by
  have hk' : k = 0 ∨ k = 1 ∨ k = 2 ∨ k = 3 := by omega
  rcases hk' with rfl | rfl | rfl | rfl
  · exact (show twin 0 (nrm (ext p)) = nm (nrm (ext p)) from rfl).trans ((row9c0 p).trans (show (nrm (ext p)) = (words p).getD 9 [] from rfl))
  · exact (show twin 1 (nrm (ext p)) = nrm (nrm (ext p)) from rfl).trans ((row9c1 p).trans (show (nrm (ext p)) = (words p).getD 9 [] from rfl))
  · exact (show twin 2 (nrm (ext p)) = ext (nrm (ext p)) from rfl).trans ((row9c2 p).trans (show (rt (nm p)) = (words p).getD 6 [] from rfl))
  · exact (show twin 3 (nrm (ext p)) = rt (nrm (ext p)) from rfl).trans ((row9c3 p).trans (show (rt (nm p)) = (words p).getD 6 [] from rfl))
theorem tab10 (p : List Nat) (k : Nat) (hk : k < 4) : twin k (nrm (rt p)) = (words p).getD (([14, 10, 6, 4] : List Nat).getD k 0) [] := by
  have hk' : k = 0 ∨ k = 1 ∨ k = 2 ∨ k = 3 := by omega
  rcases hk' with rfl | rfl | rfl | rfl
  · exact (show twin 0 (nrm (rt p)) = nm (nrm (rt p)) from rfl).trans ((row10c0 p).trans (show (nm (nrm (rt p))) = (words p).getD 14 [] from rfl))
  · exact (show twin 1 (nrm (rt p)) = nrm (nrm (rt p)) from rfl).trans ((row10c1 p).trans (show (nrm (rt p)) = (words p).getD 10 [] from rfl))
  · exact (show twin 2 (nrm (rt p)) = ext (nrm (rt p)) from rfl).trans ((row10c2 p).trans (show (rt (nm p)) = (words p).getD 6 [] from rfl))
  · exact (show twin 3 (nrm (rt p)) = rt (nrm (rt p)) from rfl).trans ((row10c3 p).trans (show (rt p) = (words p).getD 4 [] from rfl))
theorem tab11 (p : List Nat) (k : Nat) (hk : k < 4) : twin k (nrm (rt (nm p))) = (words p).getD (([11, 11, 6, 6] : List Nat).getD k 0) [] := by
  have hk' : k = 0 ∨ k = 1 ∨ k = 2 ∨ k = 3 := by omega
  rcases hk' with rfl | rfl | rfl | rfl
  · exact (show twin 0 (nrm (rt (nm p))) = nm (nrm (rt (nm p))) from rfl).trans ((row11c0 p).trans (show (nrm (rt (nm p))) = (words p).getD 11 [] from rfl))
  · exact (show twin 1 (nrm (rt (nm p))) = nrm (nrm (rt (nm p))) from rfl).trans ((row11c1 p).trans (show (nrm (rt (nm p))) = (words p).getD 11 [] from rfl))
  · exact (show twin 2 (nrm (rt (nm p))) = ext (nrm (rt (nm p))) from rfl).trans ((row11c2 p).trans (show (rt (nm p)) = (words p).getD 6 [] from rfl))
  · exact (show twin 3 (nrm (rt (nm p))) = rt (nrm (rt (nm p))) from rfl).trans ((row11c3 p).trans (show (rt (nm p)) = (words p).getD 6 [] from rfl))
theorem tab12 (p : List Nat) (k : Nat) (hk : k < 4) : twin k (nrm (nm (nrm p))) = (words p).getD (([12, 12, 8, 6] : List Nat).getD k 0) [] := by
  have hk' : k = 0 ∨ k = 1 ∨ k = 2 ∨ k = 3 := by omega
  rcases hk' with rfl | rfl | rfl | rfl
  · exact (show twin 0 (nrm (nm (nrm p))) = nm (nrm (nm (nrm p))) from rfl).trans ((row12c0 p).trans (show (nrm (nm (nrm p))) = (words p).getD 12 [] from rfl))
  · exact (show twin 1 (nrm (nm (nrm p))) = nrm (nrm (nm (nrm p))) from rfl).trans ((row12c1 p).trans (show (nrm (nm (nrm p))) = (words p).getD 12 [] from rfl))
  · exact (show twin 2 (nrm (nm (nrm p))) = ext (nrm (nm (nrm p))) from rfl).trans ((row12c2 p).trans (show (ext (nrm p)) = (words p).getD 8 [] from rfl))
  · exact (show twin 3 (nrm (nm (nrm p))) = rt (nrm (nm (nrm p))) from rfl).trans ((row12c3 p).trans (show (rt (nm p)) = (words p).getD 6 [] from rfl))
theorem tab13 (p : List Nat) (k : Nat) (hk : k < 4) : twin k (nrm (ext (nrm p))) = (words p).getD (([13, 13, 6, 6] : List Nat).getD k 0) [] := by
  have hk' : k = 0 ∨ k = 1 ∨ k = 2 ∨ k = 3 := by omega
  rcases hk' with rfl | rfl | rfl | rfl
  · exact (show twin 0 (nrm (ext (nrm p))) = nm (nrm (ext (nrm p))) from rfl).trans ((row13c0 p).trans (show (nrm (ext (nrm p))) = (words p).getD 13 [] from rfl))
  · exact (show twin 1 (nrm (ext (nrm p))) = nrm (nrm (ext (nrm p))) from rfl).trans ((row13c1 p).trans (show (nrm (ext (nrm p))) = (words p).getD 13 [] from rfl))
  · exact (show twin 2 (nrm (ext (nrm p))) = ext (nrm (ext (nrm p))) from rfl).trans ((row13c2 p).trans (show (rt (nm p)) = (words p).getD 6 [] from rfl))
  · exact (show twin 3 (nrm (ext (nrm p))) = rt (nrm (ext (nrm p))) from rfl).trans ((row13c3 p).trans (show (rt (nm p)) = (words p).getD 6 [] from rfl))
theorem tab14 (p : List Nat) (k : Nat) (hk : k < 4) : twin k (nm (nrm (rt p))) = (words p).getD (([14, 11, 6, 6] : List Nat).getD k 0) [] := by
  have hk' : k = 0 ∨ k = 1 ∨ k = 2 ∨ k = 3 := by omega
  rcases hk' with rfl | rfl | rfl | rfl
  · exact (show twin 0 (nm (nrm (rt p))) = nm (nm (nrm (rt p))) from rfl).trans ((row14c0 p).trans (show (nm (nrm (rt p))) = (words p).getD 14 [] from rfl))
  · exact (show twin 1 (nm (nrm (rt p))) = nrm (nm (nrm (rt p))) from rfl).trans ((row14c1 p).trans (show (nrm (rt (nm p))) = (words p).getD 11 [] from rfl))
  · exact (show twin 2 (nm (nrm (rt p))) = ext (nm (nrm (rt p))) from rfl).trans ((row14c2 p).trans (show (rt (nm p)) = (words p).getD 6 [] from rfl))
  · exact (show twin 3 (nm (nrm (rt p))) = rt (nm (nrm (rt p))) from rfl).trans ((row14c3 p).trans (show (rt (nm p)) = (words p).getD 6 [] from rfl))
theorem word_table (p : List Nat) : ∀ w, w < 15 → ∀ k, k < 4 → twin k ((words p).getD w []) = (words p).getD ((nexts.getD w []).getD k 0) []
  | 0, _, k, hk => tab0 p k hk
  | 1, _, k, hk => tab1 p k hk
  | 2, _, k, hk => tab2 p k hk
  | 3, _, k, hk => tab3 p k hk
  | 4, _, k, hk => tab4 p k hk
  | 5, _, k, hk => tab5 p k hk
  | 6, _, k, hk => tab6 p k hk
  | 7, _, k, hk => tab7 p k hk
  | 8, _, k, hk => tab8 p k hk
  | 9, _, k, hk => tab9 p k hk
  | 10, _, k, hk => tab10 p k hk
  | 11, _, k, hk => tab11 p k hk
  | 12, _, k, hk => tab12 p k hk
  | 13, _, k, hk => tab13 p k hk
  | 14, _, k, hk => tab14 p k hk
  | w + 15, hw, _, _ => absurd hw (by omega)
end Mine
end

section
open PySem PySem.W PyProof.Rows PySem.Spec PySem.Calls PySem.Builtin
namespace Mine
set_option maxRecDepth 100000
theorem slot_b_rfind : Slot "bytes" "rfind" "bytes.rfind" :=
  .of (owner := "bytes") (n := "rfind") (by rw [typeLookup_type, builtinLookup_eq_fast]; kernel_rfl) (by decide +kernel) (by decide +kernel) (by decide +kernel)
    (by first | exact .inl (by decide +kernel) | exact .inr (by decide +kernel)) (by rw [isSubtype_type]; kernel_rfl)
theorem type_b_rfind : typeOf (.builtin "bytes.rfind") = pure (.type "method_descriptor") := by show builtinType _ = _; rw [builtinType_eq_fast]; kernel_rfl
theorem entry_b_rfind : entryFor table "bytes.rfind" = some Builtin.«bytes.rfind» := entryFor_of_tree (by kernel_rfl)
theorem args_b_rfind (a b : Value) : argsOk "bytes.rfind" ⟨[a, b], []⟩ := by
  unfold argsOk; rw [signature?_of (id := "bytes.rfind") (n := ['d', 'n', 'i', 'f', 'r']) (o := ['s', 'e', 't', 'y', 'b']) (by kernel_rfl) PySem.W.FB.owner_bytes]; kernel_rfl
theorem slot_b_split : Slot "bytes" "split" "bytes.split" :=
  .of (owner := "bytes") (n := "split") (by rw [typeLookup_type, builtinLookup_eq_fast]; kernel_rfl) (by decide +kernel) (by decide +kernel) (by decide +kernel)
    (by first | exact .inl (by decide +kernel) | exact .inr (by decide +kernel)) (by rw [isSubtype_type]; kernel_rfl)
theorem type_b_split : typeOf (.builtin "bytes.split") = pure (.type "method_descriptor") := by show builtinType _ = _; rw [builtinType_eq_fast]; kernel_rfl
theorem entry_b_split : entryFor table "bytes.split" = some Builtin.«bytes.split» := entryFor_of_tree (by kernel_rfl)
theorem args_b_split (a b : Value) : argsOk "bytes.split" ⟨[a, b], []⟩ := by
  unfold argsOk; rw [signature?_of (id := "bytes.split") (n := ['t', 'i', 'l', 'p', 's']) (o := ['s', 'e', 't', 'y', 'b']) (by kernel_rfl) PySem.W.FB.owner_bytes]; kernel_rfl
theorem slot_b_join : Slot "bytes" "join" "bytes.join" :=
  .of (owner := "bytes") (n := "join") (by rw [typeLookup_type, builtinLookup_eq_fast]; kernel_rfl) (by decide +kernel) (by decide +kernel) (by decide +kernel)
    (by first | exact .inl (by decide +kernel) | exact .inr (by decide +kernel)) (by rw [isSubtype_type]; kernel_rfl)
theorem type_b_join : typeOf (.builtin "bytes.join") = pure (.type "method_descriptor") := by show builtinType _ = _; rw [builtinType_eq_fast]; kernel_rfl
theorem entry_b_join : entryFor table "bytes.join" = some Builtin.«bytes.join» := entryFor_of_tree (by kernel_rfl)
theorem args_b_join (a b : Value) : argsOk "bytes.join" ⟨[a, b], []⟩ := by
  unfold argsOk; rw [signature?_of (id := "bytes.join") (n := ['n', 'i', 'o', 'j']) (o := ['s', 'e', 't', 'y', 'b']) (by kernel_rfl) PySem.W.FB.owner_bytes]; kernel_rfl
section
variable {M : Model} {A : Around} {E : Value → Shared → Prop} {s : Shared} {b : Array UInt8} {t : Tok} {pl : Sem Bool} {Q : Value × List Value → Shared → Prop}
theorem meth_rfind (h : Q (.builtin "bytes.rfind", [.bytes b t]) s) : wpAny M A (getMethod (.bytes b t) "rfind" pl) Q E s := by
  with_reducible exact KBd.method_of (.bytes b t) (typeIs_bytes _ _ _) slot_b_rfind type_b_rfind KBd.noRef h
theorem meth_split (h : Q (.builtin "bytes.split", [.bytes b t]) s) : wpAny M A (getMethod (.bytes b t) "split" pl) Q E s := by
  with_reducible exact KBd.method_of (.bytes b t) (typeIs_bytes _ _ _) slot_b_split type_b_split KBd.noRef h
theorem meth_join (h : Q (.builtin "bytes.join", [.bytes b t]) s) : wpAny M A (getMethod (.bytes b t) "join" pl) Q E s := by
  with_reducible exact KBd.method_of (.bytes b t) (typeIs_bytes _ _ _) slot_b_join type_b_join KBd.noRef h
end

/-- the last place of the byte c, or -1 -/
def brfo (b : Array UInt8) (c : UInt8) : Option Nat := (if (b.size : Int) < 1 then none else some (0, b.size)).bind fun x => Bytes.rfind? b #[c] x.1 x.2
def brf (b : Array UInt8) (c : UInt8) : Int := match brfo b c with
  | some i => (i : Int)
  | none => -1

section
variable {b : Array UInt8} {c : UInt8} {t u : Tok}
theorem args_of_rfind : Bytes.searchArgs .bytes "rfind" ⟨[.bytes b t, .bytes #[c] u], []⟩ = pure (b, #[c], if (b.size : Int) < 1 then none else some (0, b.size)) := by
  unfold Bytes.searchArgs
  have e : selfAndSome (s!"{Bytes.Kind.bytes.name}.{"rfind"}") "rfind" 1 3 ⟨[.bytes b t, .bytes #[c] u], []⟩ = pure (.bytes b t, [.bytes #[c] u]) := by rfl
  simp only [e, pure_bind]
  have e1 : Bytes.bound? ([Value.bytes #[c] u])[1]? = pure none := rfl
  have e2 : Bytes.bound? ([Value.bytes #[c] u])[2]? = pure none := rfl
  simp only [e1, e2, pure_bind, List.headD, KBy.buffer_eq]
  have e3 : Bytes.payload (.bytes b t) = pure b := rfl
  simp only [e3, pure_bind]
  unfold Bytes.window
  have e4 : ¬ ((b.size : Int) < 0) := by omega
  simp [e4]
theorem gives_rfind : Gives («bytes.rfind» ⟨[.bytes b t, .bytes #[c] u], []⟩) (.int (brf b c)) := by
  refine .of_wp fun M A E s Q hq => ?_
  show wpAny M A (Bytes.searchM .bytes "rfind" true false ⟨[.bytes b t, .bytes #[c] u], []⟩) _ E s
  unfold Bytes.searchM
  rw [args_of_rfind]
  refine wpAny_bind (wpAny_pure ?_)
  dsimp only
  simp only [if_true]
  have e : ((if (b.size : Int) < 1 then none else some (0, b.size)).bind fun x => Bytes.rfind? b #[c] x.1 x.2) = brfo b c := rfl
  rw [e]
  have hb : brf b c = match brfo b c with | some i => (i : Int) | none => -1 := rfl
  cases h : brfo b c with
  | some i =>
    rw [h] at hb
    rw [hb] at hq
    exact wpAny_bind (wpAny_mkInt (wpAny_pure ⟨_, rfl, hq⟩))
  | none =>
    rw [h] at hb
    rw [hb] at hq
    refine wpAny_bind (wpAny_rule ?_)
    exact wpAny_bind (wpAny_mkInt (wpAny_pure ⟨_, rfl, hq⟩))
end
section
variable {prog : Program} {w : World} {A : Around} {E : Value → Shared → Prop} {s : Shared} {b : Array UInt8} {c : UInt8} {t u : Tok} {Q : Value → Shared → Prop}
theorem call_rfind (h : ∀ t' k, Q (.int (brf b c) t') { s with toks := k }) : wpAny (model prog w) A (call (.builtin "bytes.rfind") [.bytes b t, .bytes #[c] u]) Q E s :=
  call_gives slot_b_rfind (typeIs_bytes _ _ _) entry_b_rfind (args_b_rfind _ _) gives_rfind (h _ _)
end
end Mine
end

section
open PySem PySem.W PyProof.Rows PySem.Spec PySem.Calls PySem.Builtin
namespace Mine
set_option maxRecDepth 100000
def bytValues (l : List (Array UInt8 × Tok)) : List Value := l.map fun p => .bytes p.1 p.2
/-- what bytes.split gives by one byte -/
def bspl (b : Array UInt8) (c : UInt8) : List (Array UInt8) :=
  if ((Bytes.occurrences b #[c] 0 b.size).take (b.size + 1)).isEmpty then [b] else Bytes.between b 1 ((Bytes.occurrences b #[c] 0 b.size).take (b.size + 1))
section
variable {M : Model} {A : Around} {E : Value → Shared → Prop}
theorem mk_all : ∀ (ps : List (Array UInt8)) (s : Shared) (Q : List Value → Shared → Prop), (∀ p ∈ ps, p.size ≤ sizeLine) →
    (∀ (l : List (Array UInt8 × Tok)) (k : Nat), l.map (·.1) = ps → Q (bytValues l) { s with toks := k }) → wpAny M A (ps.mapM Bytes.Kind.bytes.new) Q E s
  | [], s, Q, _, h => by
    rw [List.mapM_nil]
    exact wpAny_pure (h [] s.toks rfl)
  | p :: ps, s, Q, hs, h => by
    rw [List.mapM_cons]
    refine wpAny_bind ?_
    show wpAny M A (mkBytes p) _ E s
    refine wpAny_mkBytes ?_ (hs p (.head _))
    refine wpAny_bind (mk_all ps _ _ (fun q hq => hs q (.tail _ hq)) fun l k e => wpAny_pure ?_)
    exact h ((p, s.toks) :: l) k (by rw [List.map_cons, e])
end
section
variable {b : Array UInt8} {c : UInt8} {t u : Tok}
theorem meets_split (b : Array UInt8) (c : UInt8) (t u : Tok) :
    Meets («bytes.split» ⟨[.bytes b t, .bytes #[c] u], []⟩) (fun _ R s => ((bspl b c).length ≤ sizeLine ∧ ∀ p ∈ bspl b c, p.size ≤ sizeLine) ∧
      ∀ (l : List (Array UInt8 × Tok)) (k : Nat), l.map (·.1) = bspl b c → R (.ok (.ret (.ref s.heap.objs.size))) { s with toks := k, heap := s.heap.push { cls := .type "list", data := .seq (bytValues l).toArray } }) := by
  refine .of_wp fun prog w A R s hS => ?_
  obtain ⟨⟨hn, hp⟩, h⟩ := hS
  show wpAny _ _ (Bytes.splitM .bytes "split" false ⟨[.bytes b t, .bytes #[c] u], []⟩) _ _ s
  have e1 : ∀ id, Bytes.bindOptional id "split" ["sep", "maxsplit"] [.bytes #[c] u] [] = pure [some (.bytes #[c] u), none] := by intro id; rfl
  have e3 : Bytes.payload (.bytes b t) = pure b := rfl
  have e4 : (#[c] : Array UInt8).isEmpty = false := rfl
  have e5 : Bytes.Kind.bytes.same (.bytes b t) = pure (.bytes b t) := rfl
  unfold Bytes.splitM
  simp only [e1, pure_bind, e3, KBd.like_eq, e4, e5, Bool.false_eq_true, if_false, show ((-1 : Int) < 0) = True from by simp, if_true]
  have hb : bspl b c = if ((Bytes.occurrences b #[c] 0 b.size).take (b.size + 1)).isEmpty then [b] else Bytes.between b 1 ((Bytes.occurrences b #[c] 0 b.size).take (b.size + 1)) := rfl
  by_cases hc : ((Bytes.occurrences b #[c] 0 b.size).take (b.size + 1)).isEmpty = true
  · rw [if_pos hc] at hb ⊢
    refine wpAny_bind (wpAny_rule (wpAny_bind (wpAny_newList (wpAny_pure ⟨_, rfl, ?_⟩) (by rw [hb] at hn; exact hn))))
    exact h [(b, t)] s.toks (by rw [hb]; rfl)
  · rw [if_neg hc] at hb ⊢
    show wpAny _ _ ((Bytes.between b 1 ((Bytes.occurrences b #[c] 0 b.size).take (b.size + 1))).mapM Bytes.Kind.bytes.new >>= _) _ _ s
    rw [← hb]
    refine wpAny_bind (mk_all _ _ _ hp fun l k e => ?_)
    refine wpAny_bind (wpAny_newList (wpAny_pure ⟨_, rfl, ?_⟩) (by show (List.map _ l).length ≤ _; rw [List.length_map, ← List.length_map (f := (·.1)), e]; exact hn))
    exact h l k e
end
section
variable {prog : Program} {w : World} {A : Around} {E : Value → Shared → Prop} {s : Shared} {h₀ : Heap} {L : Addr} {m : PySem.Str → Option Value} {news : List (Addr × Obj)} {b : Array UInt8} {c : UInt8} {t u : Tok} {Q : Value → Shared → Prop}
theorem call_split (F : Fr h₀ L s.heap m) (N : News h₀ L s.heap news) (hn : (bspl b c).length ≤ sizeLine) (hp : ∀ p ∈ bspl b c, p.size ≤ sizeLine)
    (h : ∀ D l h' k, l.map (·.1) = bspl b c → Fr h₀ L h' m → News h₀ L h' ((D, listOf (bytValues l).toArray 0) :: news) → (∀ p ∈ news, p.1 < D) → Q (.ref D) { s with heap := h', toks := k }) :
    wpAny (model prog w) A (call (.builtin "bytes.split") [.bytes b t, .bytes #[c] u]) Q E s :=
  call_meets slot_b_split (typeIs_bytes _ _ _) entry_b_split (args_b_split _ _) (meets_split b c t u) ⟨⟨hn, hp⟩, fun l k e => h _ l _ k e (F.push _) (N.push F _) fun p hp => Heap.lt_size (N p hp).1⟩
end
end Mine
end

section
open PySem PySem.W PyProof.Rows PySem.Spec PySem.Calls PySem.Builtin
namespace Mine
set_option maxRecDepth 100000
section
variable {M : Model} {A : Around} {E : Value → Shared → Prop} {s : Shared}
theorem loop_list {β : Type} {F : Nat → β → Sem (ForInStep β)} {st : Nat → β} {n : Nat} (step : ∀ i, i < n → ∀ Q : ForInStep β → Shared → Prop, Q (.yield (st (i + 1))) s → wpAny M A (F i (st i)) Q E s) :
    ∀ (k i : Nat), i + k = n → ∀ Q : β → Shared → Prop, Q (st n) s → wpAny M A (forIn (List.range' i k 1) (st i) F) Q E s
  | 0, i, e, Q, h => by
    have : i = n := by omega
    subst this
    exact wpAny_pure h
  | k + 1, i, e, Q, h => by
    rw [List.range'_succ, List.forIn_cons]
    exact wpAny_bind (step i (by omega) _ (loop_list step k (i + 1) (by omega) Q h))
theorem loop_range {β : Type} {F : Nat → β → Sem (ForInStep β)} {b₀ : β} {n : Nat} {Q : β → Shared → Prop} (st : Nat → β) (h0 : st 0 = b₀) (step : ∀ i, i < n → ∀ Q : ForInStep β → Shared → Prop, Q (.yield (st (i + 1))) s → wpAny M A (F i (st i)) Q E s)
    (h : Q (st n) s) : wpAny M A (forIn [:n] b₀ F) Q E s := by
  rw [Std.Legacy.Range.forIn_eq_forIn_range']
  subst h0
  have e : (Std.Legacy.Range.size [:n]) = n := by simp [Std.Legacy.Range.size]
  rw [e]
  exact loop_list step n 0 (by omega) Q h
end
theorem letgo_all {M : Model} {A : Around} {E : Value → Shared → Prop} {s : Shared} : ∀ (l : List (Array UInt8 × Tok)) (keep : List Value) {Q : Unit → Shared → Prop}, Q () s → wpAny M A (Bytes.joinLetGo (l.map fun p => ((Value.bytes p.1 p.2 : Value), (none : Option Value))) keep) Q E s
  | [], _, _, h => wpAny_pure h
  | p :: r, keep, _, h => by
    rw [List.map_cons]
    show wpAny M A (letGo [Value.bytes p.1 p.2] _ >>= fun _ => Bytes.joinLetGo (r.map fun p => ((Value.bytes p.1 p.2 : Value), (none : Option Value))) keep) _ E s
    exact wpAny_bind (wpAny_letGo (letgo_all r keep h))
theorem joined_one (b p : Array UInt8) : Bytes.joined b [p] = p := by
  simp [Bytes.joined]
theorem buf_bytes {id : String} {b : Array UInt8} {t : Tok} : Bytes.takeBufferQuiet? id (.bytes b t) 0 = pure (some (b, none)) := by
  unfold Bytes.takeBufferQuiet? Bytes.takeBuffer?
  rw [KBy.special_eq KBy.look_buffer, KBy.own_buffer]
  have e : ∀ f, Bytes.buffer? id (.bytes b t) f = pure (some b) := by
    intro f
    unfold Bytes.buffer?
    rw [KBy.special_eq KBy.look_buffer, KBy.own_buffer, KBy.own_release]
    kernel_rfl
  simp only [e]
  kernel_rfl
section
variable {b : Array UInt8} {c : UInt8} {t u : Tok}
theorem meets_join (b : Array UInt8) (t : Tok) (D : Addr) (l : List (Array UInt8 × Tok)) :
    Meets («bytes.join» ⟨[.bytes b t, .ref D], []⟩) (fun _ R s => s.heap.IsList D (bytValues l).toArray ∧ ((Bytes.joined b (l.map (·.1))).size ≤ sizeLine ∧ (l.map (·.1)).foldl (fun a x => a + x.size) (b.size * (l.length - 1)) ≤ sizeLine) ∧
      ∀ (t' : Tok) (k : Nat), R (.ok (.ret (.bytes (Bytes.joined b (l.map (·.1))) t'))) { s with toks := k }) := by
  refine .of_wp fun prog w A R s hS => ?_
  obtain ⟨hl, ⟨hz, hf⟩, h⟩ := hS
  show wpAny _ _ (Bytes.joinM .bytes ⟨[.bytes b t, .ref D], []⟩) _ _ s
  unfold Bytes.joinM
  have e1 : ∀ id, selfAndOne id ⟨[.bytes b t, .ref D], []⟩ = pure (.bytes b t, .ref D) := fun _ => rfl
  obtain ⟨ol, hol, hoc, n, hod⟩ := hl
  refine wpAny_bind (wpAny_of_eq (e1 _) ?_)
  dsimp only
  have hT : s.TypeIs (.ref D) "list" := ⟨ol, hol, hoc⟩
  refine wpAny_bind ?_
  show wpAny _ _ (Bytes.joinItems (.ref D)) _ _ s
  unfold Bytes.joinItems
  refine wpAny_bind (wpAny_typeOf hT ?_)
  rw [if_pos (by decide)]
  refine wpAny_pure ?_
  refine wpAny_bind (wpAny_seqItems hol hod ?_)
  dsimp only
  rw [if_pos (by decide)]
  by_cases h1 : ∃ p, l = [p]
  · obtain ⟨⟨p, tp⟩, rfl⟩ := h1
    wp_delta
    refine wpAny_bind (wpAny_typeOf (typeIs_bytes _ _ _) ?_)
    rw [if_pos (by decide)]
    refine wpAny_bind (wpAny_rule (wpAny_pure ⟨_, rfl, ?_⟩))
    have := h tp s.toks
    simp only [List.map_cons, List.map_nil, joined_one] at this
    exact this
  · rcases l with _ | ⟨p, _ | ⟨q, r⟩⟩
    · wp_delta
      generalize hlg : ([] : List (Array UInt8 × Tok)) = l at h hz hf hod ⊢
      refine wpAny_bind (loop_range (fun i => (((l.take i).map (·.1)).toArray, (l.take i).map fun p => ((Value.bytes p.1 p.2 : Value), (none : Option Value)))) rfl ?_ ?_)
      · intro i hi Q hQ
        have hi' : i < l.length := by simpa [bytValues] using hi
        refine wpAny_bind (wpAny_seqItems hol hod ?_)
        dsimp only
        have hany : (((l.take i).map fun p => ((Value.bytes p.1 p.2 : Value), (none : Option Value))).any fun x => x.1.onHeap) = false := by
          rw [List.any_map, List.any_eq_false]
          intro x _
          exact Bool.false_ne_true
        rw [if_neg (by rw [hany]; decide)]
        have hx : (bytValues l).toArray.getD i .none = .bytes (l[i]).1 (l[i]).2 := by simp [bytValues, hi']
        rw [hx]
        refine wpAny_bind (wpAny_holding (wpAny_of_eq buf_bytes ?_))
        dsimp only
        refine wpAny_bind (wpAny_seqItems hol hod ?_)
        dsimp only
        rw [if_neg (by simp)]
        refine wpAny_pure ?_
        have ht : l.take (i + 1) = l.take i ++ [l[i]] := by rw [List.take_succ_eq_append_getElem hi']
        simp only [ht, List.map_append, List.map_cons, List.map_nil] at hQ
        rw [List.push_toArray]
        exact hQ
      · have hn : (bytValues l).toArray.size = l.length := by simp [bytValues]
        simp only [hn, List.take_length]
        have e3 : Bytes.payload (.bytes b t) = pure b := rfl
        refine wpAny_bind (wpAny_of_eq e3 ?_)
        rw [if_neg (by
          unfold Bytes.tooLong
          simp only [List.foldl_toArray', List.size_toArray, List.length_map, decide_eq_true_eq]
          simp only [List.foldl_map] at hf ⊢
          omega)]
        refine wpAny_bind (wpAny_mkBytes ?_ hz)
        refine wpAny_bind (wpAny_holding (wpAny_point ?_))
        refine wpAny_bind (letgo_all _ _ ?_)
        exact wpAny_pure ⟨_, rfl, h _ _⟩
    · exact absurd ⟨p, rfl⟩ h1
    · wp_delta
      generalize hlg : (p :: q :: r : List (Array UInt8 × Tok)) = l at h hz hf hod ⊢
      refine wpAny_bind (loop_range (fun i => (((l.take i).map (·.1)).toArray, (l.take i).map fun p => ((Value.bytes p.1 p.2 : Value), (none : Option Value)))) rfl ?_ ?_)
      · intro i hi Q hQ
        have hi' : i < l.length := by simpa [bytValues] using hi
        refine wpAny_bind (wpAny_seqItems hol hod ?_)
        dsimp only
        have hany : (((l.take i).map fun p => ((Value.bytes p.1 p.2 : Value), (none : Option Value))).any fun x => x.1.onHeap) = false := by
          rw [List.any_map, List.any_eq_false]
          intro x _
          exact Bool.false_ne_true
        rw [if_neg (by rw [hany]; decide)]
        have hx : (bytValues l).toArray.getD i .none = .bytes (l[i]).1 (l[i]).2 := by simp [bytValues, hi']
        rw [hx]
        refine wpAny_bind (wpAny_holding (wpAny_of_eq buf_bytes ?_))
        dsimp only
        refine wpAny_bind (wpAny_seqItems hol hod ?_)
        dsimp only
        rw [if_neg (by simp)]
        refine wpAny_pure ?_
        have ht : l.take (i + 1) = l.take i ++ [l[i]] := by rw [List.take_succ_eq_append_getElem hi']
        simp only [ht, List.map_append, List.map_cons, List.map_nil] at hQ
        rw [List.push_toArray]
        exact hQ
      · have hn : (bytValues l).toArray.size = l.length := by simp [bytValues]
        simp only [hn, List.take_length]
        have e3 : Bytes.payload (.bytes b t) = pure b := rfl
        refine wpAny_bind (wpAny_of_eq e3 ?_)
        rw [if_neg (by
          unfold Bytes.tooLong
          simp only [List.foldl_toArray', List.size_toArray, List.length_map, decide_eq_true_eq]
          simp only [List.foldl_map] at hf ⊢
          omega)]
        refine wpAny_bind (wpAny_mkBytes ?_ hz)
        refine wpAny_bind (wpAny_holding (wpAny_point ?_))
        refine wpAny_bind (letgo_all _ _ ?_)
        exact wpAny_pure ⟨_, rfl, h _ _⟩
end
section
variable {prog : Program} {w : World} {A : Around} {E : Value → Shared → Prop} {s : Shared} {b : Array UInt8} {t : Tok} {D : Addr} {l : List (Array UInt8 × Tok)} {Q : Value → Shared → Prop}
theorem call_join (hl : s.heap.IsList D (bytValues l).toArray) (hz : (Bytes.joined b (l.map (·.1))).size ≤ sizeLine) (hf : (l.map (·.1)).foldl (fun a x => a + x.size) (b.size * (l.length - 1)) ≤ sizeLine)
    (h : ∀ t' k, Q (.bytes (Bytes.joined b (l.map (·.1))) t') { s with toks := k }) :
    wpAny (model prog w) A (call (.builtin "bytes.join") [.bytes b t, .ref D]) Q E s :=
  call_meets slot_b_join (typeIs_bytes _ _ _) entry_b_join (args_b_join _ _) (meets_join b t D l) ⟨hl, ⟨hz, hf⟩, h⟩
end
end Mine
end

section
open PySem PySem.W PyProof.Rows PySem.Spec PySem.Calls PySem.Builtin PySem.Builtin.Str
namespace Mine
set_option maxRecDepth 100000
/-! a path's two bearers: a text, bytes -/
def stx (l : List Nat) : PySem.Str := ⟨l.toArray⟩
def byt (l : List Nat) : Array UInt8 := (l.map Nat.toUInt8).toArray
def Oct (l : List Nat) : Prop := ∀ c ∈ l, c < 256
theorem stx_len (l : List Nat) : (stx l).length = l.length := by simp [stx, PySem.Str.length]
theorem byt_len (l : List Nat) : (byt l).size = l.length := by simp [byt]
theorem stx_list (l : List Nat) : (stx l).cps.toList = l := rfl
theorem stx_of (x : PySem.Str) : stx x.cps.toList = x := by cases x; simp [stx]
theorem stx_inj {a b : List Nat} (h : stx a = stx b) : a = b := by
  have := congrArg (fun x : PySem.Str => x.cps.toList) h
  simpa [stx] using this
theorem u8_inj {a b : Nat} (ha : a < 256) (hb : b < 256) (h : a.toUInt8 = b.toUInt8) : a = b := by
  have := congrArg UInt8.toNat h
  simp only [Nat.toUInt8_eq, UInt8.toNat_ofNat'] at this
  omega
theorem byt_inj {a b : List Nat} (ha : Oct a) (hb : Oct b) (h : byt a = byt b) : a = b := by
  have h' : a.map Nat.toUInt8 = b.map Nat.toUInt8 := by simpa [byt] using h
  clear h
  induction a generalizing b with
  | nil => cases b with
    | nil => rfl
    | cons y r => simp at h'
  | cons x q ih => cases b with
    | nil => simp at h'
    | cons y r =>
      simp only [List.map_cons, List.cons.injEq] at h'
      have e1 := u8_inj (ha x (.head _)) (hb y (.head _)) h'.1
      have e2 := ih (fun c hc => ha c (.tail _ hc)) (fun c hc => hb c (.tail _ hc)) h'.2
      rw [e1, e2]

/-! a cut -/
def sl (lo hi : Option Int) (l : List Nat) : List Nat := (l.drop (lo.elim 0 (clipAt l.length))).take (hi.elim l.length (clipAt l.length) - lo.elim 0 (clipAt l.length))
theorem idx_plain (lo hi : Option Int) (n : Nat) : strSliceIndices lo hi 1 n = (List.range (hi.elim n (clipAt n) - lo.elim 0 (clipAt n))).map (lo.elim 0 (clipAt n) + ·) := by
  have h := sliceRange_one (lo.elim 0 (clipAt n)) (hi.elim n (clipAt n))
  rw [← h]
  unfold strSliceIndices
  cases lo <;> cases hi <;> simp [clipAt_cast]
theorem slice_stx (lo hi : Option Int) (l : List Nat) : Txt.slice (stx l) lo hi = stx (sl lo hi l) := by
  unfold Txt.slice
  rw [stx_len, idx_plain]
  have key : ((List.range (hi.elim l.length (clipAt l.length) - lo.elim 0 (clipAt l.length))).map (lo.elim 0 (clipAt l.length) + ·)).filterMap ((stx l).cps[·]?) = sl lo hi l := by
    rw [pick_run]; rfl
  split
  · rename_i h
    simp only [List.length_map, List.length_range, Bool.and_eq_true, beq_iff_eq] at h
    have hh : hi.elim l.length (clipAt l.length) ≤ l.length := by
      cases hi with
      | none => exact Nat.le_refl _
      | some i => show clipAt l.length i ≤ _; have := clipAt_cast l.length i; omega
    have e1 : lo.elim 0 (clipAt l.length) = 0 ∨ l.length = 0 := by omega
    unfold sl
    rw [h.2]
    rcases e1 with e1 | e1
    · rw [e1, List.drop_zero, List.take_of_length_le (Nat.le_refl _)]
    · have : l = [] := List.eq_nil_of_length_eq_zero e1
      subst this
      simp
  · rw [key]; rfl
theorem picked_byt (lo hi : Option Int) (l : List Nat) : KBy.picked (byt l) lo hi = byt (sl lo hi l) := by
  rw [KBc.picked_eq, byt_len]
  unfold sl byt
  simp [List.map_take, List.map_drop]
theorem sl_from (l : List Nat) (k : Nat) : sl (some (k : Int)) none l = l.drop k := by
  unfold sl
  simp only [Option.elim, clipAt_nat]
  rcases Nat.le_total k l.length with h | h
  · rw [Nat.min_eq_left h, List.take_of_length_le (by simp)]
  · rw [Nat.min_eq_right h, List.drop_of_length_le (Nat.le_refl _), List.drop_of_length_le h]; simp
theorem sl_to (l : List Nat) (k : Nat) : sl none (some (k : Int)) l = l.take k := by
  unfold sl
  simp only [Option.elim, clipAt_nat, List.drop_zero, Nat.sub_zero]
  rcases Nat.le_total k l.length with h | h
  · rw [Nat.min_eq_left h]
  · rw [Nat.min_eq_right h, List.take_of_length_le (Nat.le_refl _), List.take_of_length_le h]
theorem sl_mid (l : List Nat) (j k : Nat) (hjk : j ≤ k) : sl (some (j : Int)) (some (k : Int)) l = (l.take k).drop j := by
  unfold sl
  simp only [Option.elim, clipAt_nat]
  rw [List.drop_take]
  rcases Nat.le_total k l.length with h | h
  · rw [Nat.min_eq_left h, Nat.min_eq_left (Nat.le_trans hjk h)]
  · rw [Nat.min_eq_right h]
    rcases Nat.le_total j l.length with h2 | h2
    · rw [Nat.min_eq_left h2, List.take_of_length_le (by rw [List.length_drop]; omega), List.take_of_length_le (by rw [List.length_drop]; omega)]
    · rw [Nat.min_eq_right h2, List.drop_of_length_le (Nat.le_refl _), List.drop_of_length_le h2]; simp

/-! the last place -/
def lastI (c : Nat) (l : List Nat) : Int := match lastIx c l with
  | some i => (i : Int)
  | none => -1
theorem rfind_stx (c : Nat) (l : List Nat) : Txt.rfind (stx l) (stx [c]) = lastI c l := by
  unfold Txt.rfind lastI
  have hat : ∀ i, StrLaws.At (stx l) (stx [c]) (stx l).length i ↔ l[i]? = some c := fun i => StrLaws.subAt_one (stx l) c i
  rcases StrLaws.last_spec (stx l) (stx [c]) with ⟨e, h⟩ | ⟨i, e, h1, h2⟩
  · rw [e]
    have : c ∉ l := by
      intro hm
      obtain ⟨i, hi, he⟩ := List.getElem_of_mem hm
      exact h i ((hat i).mpr (by rw [List.getElem?_eq_getElem hi, he]))
    rw [lastIx_none this]
  · rw [e]
    have hb : c ∉ l.drop (i + 1) := by
      intro hm
      obtain ⟨j, hj, he⟩ := List.getElem_of_mem hm
      refine h2 (i + 1 + j) (by omega) ((hat _).mpr ?_)
      rw [List.getElem_drop] at he
      have hlt : i + 1 + j < l.length := by rw [List.length_drop] at hj; omega
      rw [List.getElem?_eq_getElem hlt, he]
    rw [lastIx_at ((hat i).mp h1) hb]
theorem ext_one (l : List Nat) (hl : Oct l) (c : Nat) (hc : c < 256) (i : Nat) : ((byt l).extract i (i + (#[c.toUInt8] : Array UInt8).size) == #[c.toUInt8]) = decide (l[i]? = some c) := by
  have e : ((byt l).extract i (i + (#[c.toUInt8] : Array UInt8).size)).toList = ((l.map Nat.toUInt8).drop i).take 1 := by
    unfold byt
    simp [List.extract_eq_take_drop]
  have e2 : ((byt l).extract i (i + (#[c.toUInt8] : Array UInt8).size) == #[c.toUInt8]) = (((l.map Nat.toUInt8).drop i).take 1 == [c.toUInt8]) := by
    rw [← e]
    generalize (byt l).extract i (i + (#[c.toUInt8] : Array UInt8).size) = y
    cases y
    simp
  rw [e2]
  have h3 : ∀ (q : List UInt8) (d : UInt8), ((q.drop i).take 1 == [d]) = decide (q[i]? = some d) := by
    intro q d
    by_cases hi : i < q.length
    · rw [List.drop_eq_getElem_cons hi, List.getElem?_eq_getElem hi, List.take_succ_cons, List.take_zero]
      by_cases he : q[i] = d
      · rw [he]; simp
      · have h1 : ([q[i]] == [d]) = false := by simpa using he
        rw [h1]; simp [he]
    · rw [List.drop_of_length_le (by omega), List.getElem?_eq_none (by omega)]
      simp
  rw [h3, List.getElem?_map]
  by_cases hi : i < l.length
  · rw [List.getElem?_eq_getElem hi]
    simp only [Option.map_some, Option.some.injEq]
    have hlt := hl l[i] (List.getElem_mem hi)
    by_cases he : l[i] = c
    · rw [he]; simp
    · have : ¬ l[i].toUInt8 = c.toUInt8 := fun e => he (u8_inj hlt hc e)
      simp [he, this]
  · rw [List.getElem?_eq_none (by omega)]
    simp
theorem find_rev {p : Nat → Bool} : ∀ (n : Nat), ((List.range n).reverse.find? p = none ∧ ∀ i, i < n → p i = false) ∨ ∃ i, i < n ∧ (List.range n).reverse.find? p = some i ∧ p i = true ∧ ∀ k, i < k → k < n → p k = false
  | 0 => .inl ⟨rfl, fun _ h => absurd h (Nat.not_lt_zero _)⟩
  | n + 1 => by
    rw [List.range_succ, List.reverse_append, List.reverse_singleton, List.singleton_append, List.find?_cons]
    cases hp : p n with
    | true =>
      refine .inr ⟨n, Nat.lt_succ_self n, ?_, hp, fun k h1 h2 => absurd h1 (by omega)⟩
      simp
    | false =>
      simp only [Bool.false_eq_true]
      rcases find_rev (p := p) n with ⟨e, h⟩ | ⟨i, hi, e, h1, h2⟩
      · refine .inl ⟨e, fun i hi => ?_⟩
        by_cases hn : i = n
        · rw [hn]; exact hp
        · exact h i (by omega)
      · refine .inr ⟨i, by omega, e, h1, fun k hk hk2 => ?_⟩
        by_cases hn : k = n
        · rw [hn]; exact hp
        · exact h2 k hk (by omega)
theorem brf_byt (c : Nat) (hc : c < 256) (l : List Nat) (hl : Oct l) : brf (byt l) c.toUInt8 = lastI c l := by
  have hat := ext_one l hl c hc
  by_cases h0 : l = []
  · subst h0
    rfl
  have hn : ¬ (((byt l).size : Int) < 1) := by
    rw [byt_len]
    have : l.length ≠ 0 := fun e => h0 (List.eq_nil_of_length_eq_zero e)
    omega
  have e : brfo (byt l) c.toUInt8 = (List.range l.length).reverse.find? fun i => decide (l[i]? = some c) := by
    unfold brfo
    rw [if_neg hn]
    show Bytes.rfind? (byt l) #[c.toUInt8] 0 (byt l).size = _
    unfold Bytes.rfind?
    have e1 : (byt l).size + 1 - (0 + (#[c.toUInt8] : Array UInt8).size) = l.length := by rw [byt_len]; simp
    rw [e1]
    have e2 : (List.range l.length).map (· + 0) = List.range l.length := by simp
    rw [e2]
    exact congrArg (fun p => (List.range l.length).reverse.find? p) (funext hat)
  unfold brf lastI
  rw [e]
  rcases find_rev (p := fun i => decide (l[i]? = some c)) l.length with ⟨e, h⟩ | ⟨i, hi, e, h1, h2⟩
  · rw [e]
    have : c ∉ l := by
      intro hm
      obtain ⟨i, hi, he⟩ := List.getElem_of_mem hm
      have := h i hi
      rw [List.getElem?_eq_getElem hi, he] at this
      simp at this
    rw [lastIx_none this]
  · rw [e]
    have hb : c ∉ l.drop (i + 1) := by
      intro hm
      obtain ⟨j, hj, he⟩ := List.getElem_of_mem hm
      rw [List.getElem_drop] at he
      have hlt : i + 1 + j < l.length := by rw [List.length_drop] at hj; omega
      have := h2 (i + 1 + j) (by omega) hlt
      rw [List.getElem?_eq_getElem hlt, he] at this
      simp at this
    rw [lastIx_at (by simpa using h1) hb]

/-! the pieces -/
theorem jn_stx : ∀ ps : List (List Nat), PySem.Str.join (stx [47]) (ps.map stx) = stx (jn ps)
  | [] => rfl
  | [p] => rfl
  | p :: q :: r => by
    show stx p ++ stx [47] ++ PySem.Str.join (stx [47]) ((q :: r).map stx) = _
    rw [jn_stx (q :: r)]
    refine PySem.Str.ext' ?_
    rw [PySem.Str.cps_append, PySem.Str.cps_append, jn_cons p (by simp)]
    simp [stx]
theorem stx_map_inj : ∀ {a b : List (List Nat)}, a.map stx = b.map stx → a = b
  | [], [], _ => rfl
  | [], _ :: _, h => by simp at h
  | _ :: _, [], h => by simp at h
  | x :: a, y :: b, h => by
    simp only [List.map_cons, List.cons.injEq] at h
    rw [stx_inj h.1, stx_map_inj h.2]
theorem split_stx (l : List Nat) : Txt.split (stx l) (stx [47]) = (sp l).map stx := by
  have hj := StrLaws.join_split (stx l) (stx [47])
  have hf := StrLaws.split_free (stx l) 47
  have hne : Txt.split (stx l) (stx [47]) ≠ [] := by
    intro e
    rw [e] at hj
    have h0 : l = [] := stx_inj (hj.symm.trans rfl : stx l = stx [])
    subst h0
    have : Txt.split (stx []) (stx [47]) = [stx []] := by decide +kernel
    rw [this] at e
    cases e
  have e : Txt.split (stx l) (stx [47]) = ((Txt.split (stx l) (stx [47])).map fun x => x.cps.toList).map stx := by
    rw [List.map_map]
    conv => lhs; rw [← List.map_id (Txt.split (stx l) (stx [47]))]
    exact List.map_congr_left fun x _ => (stx_of x).symm
  rw [e, jn_stx] at hj
  have := sp_uniq (ps := (Txt.split (stx l) (stx [47])).map fun x => x.cps.toList) (by simpa using hne)
    (fun p hp => by
      obtain ⟨x, hx, rfl⟩ := List.mem_map.mp hp
      exact hf x hx) (stx_inj hj)
  rw [e, this]
end Mine
end

section
open PySem PySem.W PyProof.Rows PySem.Spec PySem.Calls PySem.Builtin PySem.Builtin.Str
namespace Mine
set_option maxRecDepth 100000
def plc : Nat → List Nat → List Nat
  | _, [] => []
  | k, x :: r => if x = 47 then k :: plc (k + 1) r else plc (k + 1) r
theorem plc_len : ∀ (k : Nat) (l : List Nat), (plc k l).length ≤ l.length
  | _, [] => Nat.le_refl _
  | k, x :: r => by
    have ih := plc_len (k + 1) r
    unfold plc
    split <;> simp only [List.length_cons] <;> omega
theorem occ_fold {P : Nat → Bool} : ∀ (l : List Nat) (k : Nat) (acc : List Nat) (f : Nat), f ≤ k → (∀ j, j < l.length → P (k + j) = decide (l[j]? = some 47)) →
    ((List.range' k l.length 1).foldl (fun (a : List Nat × Nat) i => if (decide (i ≥ a.2) && P i) = true then (i :: a.1, i + 1) else a) (acc, f)).1 = (plc k l).reverse ++ acc
  | [], _, _, _, _, _ => rfl
  | x :: r, k, acc, f, hf, hP => by
    rw [List.length_cons, List.range'_succ, List.foldl_cons]
    have h0 := hP 0 (by simp)
    have hx : P k = decide (x = 47) := by simpa using h0
    have hP' : ∀ j, j < r.length → P (k + 1 + j) = decide (r[j]? = some 47) := fun j hj => by
      have := hP (j + 1) (by simpa using hj)
      rw [show k + 1 + j = k + (j + 1) from by omega]
      simpa using this
    have hd : decide (k ≥ f) = true := by simpa using hf
    unfold plc
    by_cases he : x = 47
    · rw [if_pos he]
      have hc : (decide (k ≥ ((acc, f) : List Nat × Nat).2) && P k) = true := by
        show (decide (k ≥ f) && P k) = true
        rw [hd, hx]; simp [he]
      rw [if_pos hc, occ_fold r (k + 1) (k :: acc) (k + 1) (Nat.le_refl _) hP']
      simp
    · rw [if_neg he]
      have hc : ¬ (decide (k ≥ ((acc, f) : List Nat × Nat).2) && P k) = true := by
        show ¬ (decide (k ≥ f) && P k) = true
        rw [hx]; simp [he]
      rw [if_neg hc, occ_fold r (k + 1) acc f (by omega) hP']
theorem occ_byt (l : List Nat) (hl : Oct l) : Bytes.occurrences (byt l) #[47] 0 (byt l).size = plc 0 l := by
  have hat := ext_one l hl 47 (by decide)
  unfold Bytes.occurrences
  have e1 : (byt l).size + 1 - (0 + (#[47] : Array UInt8).size) = l.length := by rw [byt_len]; simp
  have e2 : (List.range l.length).map (· + 0) = List.range' 0 l.length 1 := by rw [List.range_eq_range']; simp
  simp only [e1, e2]
  have := occ_fold (P := fun i => (byt l).extract i (i + (#[47] : Array UInt8).size) == #[47]) l 0 [] 0 (Nat.le_refl 0) (fun j _ => by
    show ((byt l).extract (0 + j) (0 + j + (#[47] : Array UInt8).size) == #[47]) = _
    rw [Nat.zero_add]
    exact hat j)
  have e3 : (#[47] : Array UInt8).size = 1 := rfl
  rw [e3] at this ⊢
  rw [this]
  simp
theorem byt_cut (a b c : List Nat) : (byt (a ++ b ++ c)).extract a.length (a.length + b.length) = byt b := by
  unfold byt
  apply Array.ext'
  simp [List.extract_eq_take_drop, List.map_append]
theorem btw (w : List Nat) : ∀ (suf pre cur : List Nat) (parts : Array (Array UInt8)), w = pre ++ cur ++ suf →
    (let r := (plc (pre.length + cur.length) suf).foldl (fun (a : Array (Array UInt8) × Nat) p => (a.1.push ((byt w).extract a.2 p), p + 1)) (parts, pre.length)
     (r.1.push ((byt w).extract r.2 (byt w).size)).toList) = parts.toList ++ (match sp suf with | p :: ps => (cur ++ p) :: ps | [] => []).map byt
  | [], pre, cur, parts, h => by
    show (parts.push ((byt w).extract pre.length (byt w).size)).toList = parts.toList ++ [byt (cur ++ [])]
    have e : (byt w).extract pre.length (byt w).size = byt cur := by
      have := byt_cut pre cur []
      rw [← h] at this
      have hz : (byt w).size = pre.length + cur.length := by rw [byt_len, h]; simp
      rw [hz]; exact this
    rw [e, Array.toList_push, List.append_nil]
  | x :: r, pre, cur, parts, h => by
    unfold plc
    by_cases he : x = 47
    · subst he
      rw [if_pos rfl]
      have h' : w = (pre ++ cur ++ [47]) ++ [] ++ r := by rw [h]; simp
      have ih := btw w r (pre ++ cur ++ [47]) [] (parts.push (byt cur)) h'
      have ec : (byt w).extract pre.length (pre.length + cur.length) = byt cur := by
        rw [h]; exact byt_cut pre cur (47 :: r)
      have el : (pre ++ cur ++ [47]).length = pre.length + cur.length + 1 := by simp; omega
      have el2 : (pre ++ cur ++ [47]).length + ([] : List Nat).length = pre.length + cur.length + 1 := by simp; omega
      rw [el2, el] at ih
      simp only [List.foldl_cons, ec]
      refine ih.trans ?_
      rw [sp_slash, Array.toList_push]
      rcases hs : sp r with _ | ⟨p, ps⟩
      · exact absurd hs (sp_ne r)
      · simp
    · rw [if_neg he]
      have h' : w = pre ++ (cur ++ [x]) ++ r := by rw [h]; simp
      have ih := btw w r pre (cur ++ [x]) parts h'
      have el : pre.length + (cur ++ [x]).length = pre.length + cur.length + 1 := by simp; omega
      rw [el] at ih
      refine ih.trans ?_
      rcases hs : sp r with _ | ⟨p, ps⟩
      · exact absurd hs (sp_ne r)
      · rw [sp_cons he hs]
        simp
theorem bspl_byt (l : List Nat) (hl : Oct l) : bspl (byt l) 47 = (sp l).map byt := by
  have ht : (plc 0 l).take ((byt l).size + 1) = plc 0 l := List.take_of_length_le (by have := plc_len 0 l; rw [byt_len]; omega)
  have hb : Bytes.between (byt l) 1 (plc 0 l) = (sp l).map byt := by
    have := btw l l [] [] #[] (by simp)
    unfold Bytes.between
    refine Eq.trans ?_ (this.trans ?_)
    · rfl
    · rcases hs : sp l with _ | ⟨p, ps⟩
      · exact absurd hs (sp_ne l)
      · simp
  unfold bspl
  have e47 : ((47 : UInt8)) = 47 := rfl
  rw [occ_byt l hl, ht, hb]
  split
  · rename_i h
    have h0 : plc 0 l = [] := by simpa using h
    rw [h0] at hb
    rw [← hb]
    unfold Bytes.between
    simp
  · rfl
theorem joined_step (sep : Array UInt8) : ∀ (ps : List (Array UInt8)) (k : Nat) (acc : Array UInt8), 0 < k →
    (ps.zipIdx k).foldl (fun (out : Array UInt8) (p : Array UInt8 × Nat) => (if p.2 > 0 then out ++ sep else out) ++ p.1) acc = ps.foldl (fun out p => out ++ sep ++ p) acc
  | [], _, _, _ => rfl
  | p :: ps, k, acc, h => by
    rw [List.zipIdx_cons, List.foldl_cons, List.foldl_cons, joined_step sep ps (k + 1) _ (Nat.succ_pos k)]
    simp only [gt_iff_lt, h, if_true]
theorem joined_cons (sep p : Array UInt8) (ps : List (Array UInt8)) : Bytes.joined sep (p :: ps) = ps.foldl (fun out p => out ++ sep ++ p) p := by
  unfold Bytes.joined
  rw [List.zipIdx_cons, List.foldl_cons]
  have := joined_step sep ps 1 p (by decide)
  simpa using this
theorem joined_fold : ∀ (ps : List (List Nat)) (a : List Nat), (ps.map byt).foldl (fun out p => out ++ #[47] ++ p) (byt a) = byt (jn (a :: ps))
  | [], a => rfl
  | q :: r, a => by
    rw [List.map_cons, List.foldl_cons]
    have e : byt a ++ #[47] ++ byt q = byt (a ++ 47 :: q) := by
      unfold byt
      apply Array.ext'
      simp
    rw [e, joined_fold r (a ++ 47 :: q), jn_cons a (by simp)]
    cases r with
    | nil => rfl
    | cons x y => rw [jn_cons _ (by simp), jn_cons q (by simp)]; simp
theorem joined_byt (ps : List (List Nat)) : Bytes.joined #[47] (ps.map byt) = byt (jn ps) := by
  cases ps with
  | nil => rfl
  | cons p r => rw [List.map_cons, joined_cons, joined_fold]
end Mine
end

section
open PySem PySem.W PyProof.Rows PySem.Spec PySem.Calls PySem.Builtin PySem.Builtin.Str
namespace Mine
set_option maxRecDepth 100000
theorem lit_slash : PySem.Str.ofString "/" = stx [47] := by decide +kernel
theorem lit_dot : PySem.Str.ofString "." = stx [46] := by decide +kernel
theorem lit_dots : PySem.Str.ofString ".." = stx [46, 46] := by decide +kernel
theorem lit_empty : PySem.Str.ofString "" = stx [] := by decide +kernel
theorem lit_slashes : PySem.Str.ofString "//" = stx [47, 47] := by decide +kernel
theorem beq_stx (a b : List Nat) : (stx a == stx b) = decide (a = b) := by
  by_cases h : a = b
  · subst h; simp
  · have : ¬ stx a = stx b := fun e => h (stx_inj e)
    simp [h, this]
theorem beq_byt {a b : List Nat} (ha : Oct a) (hb : Oct b) : (byt a == byt b) = decide (a = b) := by
  by_cases h : a = b
  · subst h; simp
  · have : ¬ byt a = byt b := fun e => h (byt_inj ha hb e)
    simp [h, this]
theorem item_stx {l : List Nat} {j : Int} (h0 : 0 ≤ j) (h : j < l.length) : Txt.item (stx l) j = stx [l.getD j.toNat 0] := by
  unfold Txt.item Txt.charAt
  have e : seqIndex? j (stx l).length = some j.toNat := StrLaws.seqIndex_nonneg h0 (by rw [stx_len]; exact h)
  rw [e]
  show (⟨#[(((stx l).cps)[j.toNat]?).getD 0]⟩ : PySem.Str) = _
  unfold stx
  simp
theorem item_is {l : List Nat} {j : Int} {c : Nat} (h0 : 0 ≤ j) (h : j < l.length) : (Txt.item (stx l) j == stx [c]) = decide (l[j.toNat]? = some c) := by
  rw [item_stx h0 h, beq_stx]
  have hj : j.toNat < l.length := by omega
  rw [List.getElem?_eq_getElem hj, List.getD_eq_getElem?_getD, List.getElem?_eq_getElem hj]
  simp

/-! _law_name: the walk's end -/
theorem name_fin {l : List Nat} {x : PySem.Str} (hx : stx l = x) {k : Int} (h1 : k ≤ (x.length : Int)) (h2 : min (x.length : Int) 0 ≤ k)
    (h3 : ∀ j : Int, k < j → j ≤ (x.length : Int) → (if 0 < j then if (Txt.item x (j - 1) != PySem.Str.ofString "/") = true then true else false else false) = true)
    (h4 : (if 0 < k then if (Txt.item x (k - 1) != PySem.Str.ofString "/") = true then true else false else false) = false) :
    Txt.slice x (some k) none = stx (nm l) := by
  subst hx
  rw [stx_len] at h1 h2 h3
  have h0 : 0 ≤ k := by omega
  have ek : ((k.toNat : Nat) : Int) = k := by omega
  rw [← ek, slice_stx, sl_from]
  refine congrArg stx (nm_drop ?_ ?_)
  · intro hm
    obtain ⟨j, hj, he⟩ := List.getElem_of_mem hm
    rw [List.length_drop] at hj
    rw [List.getElem_drop] at he
    have h := h3 (((k.toNat + j : Nat) : Int) + 1) (by omega) (by omega)
    rw [if_pos (by omega)] at h
    have e2 : ((((k.toNat + j : Nat) : Int) + 1) - 1) = ((k.toNat + j : Nat) : Int) := by omega
    rw [e2, lit_slash, bne, item_is (by omega) (by omega)] at h
    have e3 : l[(((k.toNat + j : Nat) : Int)).toNat]? = some 47 := by
      rw [Int.toNat_natCast, List.getElem?_eq_getElem (by omega), he]
    rw [e3] at h
    simp at h
  · by_cases hk : k = 0
    · exact .inl (by omega)
    · refine .inr ?_
      rw [if_pos (by omega), lit_slash, bne, item_is (by omega) (by omega)] at h4
      have e : (k - 1).toNat = k.toNat - 1 := by omega
      rw [e] at h4
      simpa using h4

/-! _law_root -/
theorem lead_at {c : Nat} : ∀ {l : List Nat} {k : Nat}, k ≤ l.length → (∀ j, j < k → l[j]? = some c) → l[k]? ≠ some c → lead c l = k
  | [], k, h, _, _ => by
    have : k = 0 := by simpa using h
    subst this; rfl
  | x :: r, 0, _, _, h3 => by
    have : ¬ x = c := by simpa using h3
    unfold lead; rw [if_neg this]
  | x :: r, k + 1, h1, h2, h3 => by
    have hx : x = c := by simpa using h2 0 (by omega)
    unfold lead
    rw [if_pos hx, lead_at (k := k) (by simpa using h1) (fun j hj => by simpa using h2 (j + 1) (by omega)) (by simpa using h3)]
theorem lead_le (c : Nat) : ∀ l : List Nat, lead c l ≤ l.length
  | [] => Nat.le_refl _
  | x :: r => by
    have := lead_le c r
    unfold lead
    split <;> simp only [List.length_cons] <;> omega
theorem root_fin {l : List Nat} {x : PySem.Str} (hx : stx l = x) {k : Int} (h0 : 0 ≤ k) (h1 : k ≤ (x.length : Int))
    (h2 : ∀ j : Int, 0 ≤ j → j < k → (decide (j < (x.length : Int)) && (Txt.item x j == PySem.Str.ofString "/")) = true)
    (h3 : (decide (k < (x.length : Int)) && (Txt.item x k == PySem.Str.ofString "/")) = false) : ((lead 47 l : Nat) : Int) = k := by
  subst hx
  rw [stx_len] at h1 h2 h3
  have := lead_at (c := 47) (l := l) (k := k.toNat) (by omega) (fun j hj => by
    have h := h2 j (by omega) (by omega)
    rw [Bool.and_eq_true, decide_eq_true_eq] at h
    rw [lit_slash, item_is (by omega) h.1] at h
    simpa using h.2) (by
    intro he
    have hlt : k.toNat < l.length := by
      rcases Nat.lt_or_ge k.toNat l.length with h | h
      · exact h
      · rw [List.getElem?_eq_none h] at he; cases he
    rw [lit_slash, item_is h0 (by omega), he] at h3
    have : decide (k < (l.length : Int)) = true := by simp; omega
    rw [this] at h3
    simp at h3)
  omega
theorem rt_0 {l : List Nat} (h : ((lead 47 l : Nat) : Int) = 0) : PySem.Str.ofString "" = stx (rt l) := by
  unfold rt; rw [if_pos (by omega), lit_empty]
theorem rt_2 {l : List Nat} (h : ((lead 47 l : Nat) : Int) = 2) : PySem.Str.ofString "//" = stx (rt l) := by
  unfold rt; rw [if_neg (by omega), if_pos (by omega), lit_slashes]
theorem rt_1 {l : List Nat} (h0 : ((lead 47 l : Nat) : Int) ≠ 0) (h : ((lead 47 l : Nat) : Int) ≠ 2) : PySem.Str.ofString "/" = stx (rt l) := by
  unfold rt; rw [if_neg (by omega), if_neg (by omega), lit_slash]
/-! basename -/
theorem base_fin {l : List Nat} {x : PySem.Str} (hx : stx l = x) : Txt.slice x (some (Txt.rfind x (PySem.Str.ofString "/") + 1)) none = stx (nm l) := by
  subst hx
  rw [lit_slash, rfind_stx]
  unfold lastI nm
  cases lastIx 47 l with
  | none =>
    have : ((-1 : Int) + 1) = ((0 : Nat) : Int) := rfl
    rw [this, slice_stx, sl_from]; rfl
  | some k =>
    have : ((k : Int) + 1) = ((k + 1 : Nat) : Int) := by omega
    rw [this, slice_stx, sl_from]
end Mine
end

section
open PySem PySem.W PyProof.Rows PySem.Spec PySem.Calls
namespace Mine
set_option maxRecDepth 100000
set_option maxHeartbeats 8000000
theorem up_root (x : PySem.Str) : StopUp (fun k : Int => decide (k < (x.length : Int)) && (Txt.item x k == PySem.Str.ofString "/")) 0 x.length := ⟨by omega, by simp⟩
theorem says_name (w : World) (l : List Nat) (t0 : Tok) (hl : l.length ≤ 1000) : Says w 193 1 [.str (stx l) t0] (fun t => .str (stx (nm l)) t) := by
  have hx' : (stx l).length ≤ 1000 := by rw [stx_len]; exact hl
  generalize hx : stx l = x at hx'
  unfold Says
  k_with_none
  w_top off
  k_fill
  intro mean mg mb dp un gd cn cs a ccd cl outer A₀ base h₀ L m news s Q E B F X N T hk hd hu hret
  refine wpAny_call ?_
  k_dflt cell_enter
  k_steps
  all_goals exact cb_retS (Q := Q) hret (name_fin hx (by assumption) (by assumption) (by assumption) (by assumption)) (by k_asm) (by k_asm)
theorem says_root (w : World) (l : List Nat) (t0 : Tok) (hl : l.length ≤ 1000) : Says w 200 1 [.str (stx l) t0] (fun t => .str (stx (rt l)) t) := by
  have hx' : (stx l).length ≤ 1000 := by rw [stx_len]; exact hl
  generalize hx : stx l = x at hx'
  unfold Says
  k_with_none
  w_top off
  k_fill
  intro mean mg mb dp un gd cn cs a ccd cl outer A₀ base h₀ L m news s Q E B F X N T hk hd hu hret
  refine wpAny_call ?_
  k_dflt cell_enter
  k_with "exec While BoolOp cons nil" => ((rename Fr _ _ _ _ => F'); (rename News _ _ _ _ => N'); refine While_up (i := PySem.Str.ofString "k") (c := fun k => decide (k < (x.length : Int)) && (Txt.item x k == PySem.Str.ofString "/")) (K := x.length) F' N' (by rfl) ?_ ?_ (up_root x) ?_ (by passes_own))
  k_steps
  all_goals first
    | (simp_all; done)
    | (rename ¬ _ => hq9; rw [decide_eq_false hq9]; rfl)
    | (with_unfolding_all exact ⟨_, _, rfl, fun _ _ e => e⟩)
    | (have hq := root_fin hx (by assumption) (by assumption) (by assumption) (by assumption); first
        | exact cb_retS (Q := Q) hret (rt_0 (by omega)) (by k_asm) (by k_asm)
        | exact cb_retS (Q := Q) hret (rt_2 (by omega)) (by k_asm) (by k_asm)
        | exact cb_retS (Q := Q) hret (rt_1 (by omega) (by omega)) (by k_asm) (by k_asm))
theorem says_base_s (w : World) (l : List Nat) (t0 : Tok) (hl : l.length ≤ 1000) : Says w 139 2 [.str (stx l) t0] (fun t => .str (stx (nm l)) t) := by
  have hx' : (stx l).length ≤ 1000 := by rw [stx_len]; exact hl
  generalize hx : stx l = x at hx'
  unfold Says
  k_with_none
  w_top off
  k_fill
  intro mean mg mb dp un gd cn cs a ccd cl outer A₀ base h₀ L m news s Q E B F X N T hk hd hu hret
  refine wpAny_call ?_
  k_dflt cell_enter
  k_with "call ref" => (
    refine' Says.use ?kC ?k1 ?k2 ?k3 ?k4 ?k5 ?kK ?kd ?ku ?_
    (case kC => first | exact says_fspath_s _ _ _ | exact says_sep_s _ _ _)
    (case k1 => k_asm); (case k2 => k_asm); (case k3 => k_asm); (case k4 => k_asm); (case k5 => k_asm); (case kK => first | exact rfl | assumption); (case kd => ktr_room); (case ku => ktr_units)
    k_whole
    intro t9 h9 tk9 F9 N9
    (try dsimp only)
    (try k_fold))
  k_steps
  all_goals first
    | exact cb_retS (Q := Q) hret (base_fin hx) (by k_asm) (by k_asm)
end Mine
end

section
open PySem PySem.W PyProof.Rows PySem.Spec PySem.Calls PySem.Builtin PySem.Builtin.Str
namespace Mine
set_option maxRecDepth 100000
/-! _law_ending -/
theorem down_end (x : PySem.Str) : StopDown (fun k : Int => if 0 ≤ k then if (Txt.item x k != PySem.Str.ofString ".") = true then true else false else false) ((x.length : Int) - 1) (-1) := ⟨by omega, by simp⟩
theorem lead_ge {c : Nat} : ∀ {l : List Nat} {k : Nat}, (∀ j, j < k → l[j]? = some c) → k ≤ lead c l
  | _, 0, _ => Nat.zero_le _
  | [], k + 1, h => by have := h 0 (by omega); simp at this
  | x :: r, k + 1, h => by
    have hx : x = c := by simpa using h 0 (by omega)
    have := lead_ge (l := r) (k := k) fun j hj => by simpa using h (j + 1) (by omega)
    unfold lead
    rw [if_pos hx]
    omega
section
variable {n : List Nat} {x : PySem.Str} {k j : Int}
theorem end_last (hx : stx n = x) (h1 : k ≤ (x.length : Int) - 1) (h2 : -1 ≤ k)
    (h3 : ∀ j : Int, k < j → j ≤ (x.length : Int) - 1 → (if 0 ≤ j then if (Txt.item x j != PySem.Str.ofString ".") = true then true else false else false) = true)
    (h4 : (if 0 ≤ k then if (Txt.item x k != PySem.Str.ofString ".") = true then true else false else false) = false) :
    (k = -1 ∧ lastIx 46 n = none) ∨ (0 ≤ k ∧ n[k.toNat]? = some 46 ∧ lastIx 46 n = some k.toNat) := by
  subst hx
  rw [stx_len] at h1 h3
  have hno : ∀ i : Nat, k < i → i < n.length → n[i]? ≠ some 46 := by
    intro i hi hl he
    have h := h3 i hi (by omega)
    rw [if_pos (by omega), lit_dot, bne, item_is (by omega) (by omega), Int.toNat_natCast, he] at h
    simp at h
  have hfree : 46 ∉ n.drop (k + 1).toNat := by
    intro hm
    obtain ⟨i, hi, he⟩ := List.getElem_of_mem hm
    rw [List.length_drop] at hi
    rw [List.getElem_drop] at he
    exact hno ((k + 1).toNat + i) (by omega) (by omega) (by rw [List.getElem?_eq_getElem (by omega), he])
  by_cases hk : k = -1
  · refine .inl ⟨hk, lastIx_none ?_⟩
    subst hk
    simpa using hfree
  · refine .inr ⟨by omega, ?_⟩
    rw [if_pos (by omega), lit_dot, bne, item_is (by omega) (by omega)] at h4
    have hat : n[k.toNat]? = some 46 := by simpa using h4
    refine ⟨hat, lastIx_at hat ?_⟩
    have e : (k + 1).toNat = k.toNat + 1 := by omega
    rw [e] at hfree
    exact hfree
theorem end_lead (hx : stx n = x) (h1 : k ≤ (x.length : Int) - 1) (j0 : 0 ≤ j) (j1 : j ≤ max 0 k)
    (j2 : ∀ i : Int, 0 ≤ i → i < j → (if i < k then if (Txt.item x i == PySem.Str.ofString ".") = true then true else false else false) = true) : ∀ i : Nat, (i : Int) < j → n[i]? = some 46 := by
  subst hx
  rw [stx_len] at h1
  intro i hi
  have h := j2 i (by omega) hi
  by_cases hk : (i : Int) < k
  · rw [if_pos hk, lit_dot, item_is (by omega) (by omega), Int.toNat_natCast] at h
    simpa using h
  · rw [if_neg hk] at h
    cases h
theorem end_yes (hx : stx n = x) (h1 : k ≤ (x.length : Int) - 1) (h2 : -1 ≤ k)
    (h3 : ∀ j : Int, k < j → j ≤ (x.length : Int) - 1 → (if 0 ≤ j then if (Txt.item x j != PySem.Str.ofString ".") = true then true else false else false) = true)
    (h4 : (if 0 ≤ k then if (Txt.item x k != PySem.Str.ofString ".") = true then true else false else false) = false)
    (j0 : 0 ≤ j) (j1 : j ≤ max 0 k)
    (j2 : ∀ i : Int, 0 ≤ i → i < j → (if i < k then if (Txt.item x i == PySem.Str.ofString ".") = true then true else false else false) = true)
    (j3 : (if j < k then if (Txt.item x j == PySem.Str.ofString ".") = true then true else false else false) = false) (hj : j < k) :
    Txt.slice x (some k) none = stx (extn n) := by
  have hl := end_lead hx h1 j0 j1 j2
  rcases end_last hx h1 h2 h3 h4 with ⟨e, _⟩ | ⟨hk, hat, e⟩
  · omega
  · subst hx
    rw [stx_len] at h1
    rw [if_pos hj, lit_dot, item_is j0 (by omega)] at j3
    have hne : n[j.toNat]? ≠ some 46 := by simpa using j3
    have hle := lead_at (c := 46) (l := n) (k := j.toNat) (by omega) (fun i hi => hl i (by omega)) hne
    have ek : ((k.toNat : Nat) : Int) = k := by omega
    rw [← ek, slice_stx, sl_from]
    unfold extn
    rw [e]
    dsimp only
    rw [if_pos (by omega)]
theorem end_no (hx : stx n = x) (h1 : k ≤ (x.length : Int) - 1) (h2 : -1 ≤ k)
    (h3 : ∀ j : Int, k < j → j ≤ (x.length : Int) - 1 → (if 0 ≤ j then if (Txt.item x j != PySem.Str.ofString ".") = true then true else false else false) = true)
    (h4 : (if 0 ≤ k then if (Txt.item x k != PySem.Str.ofString ".") = true then true else false else false) = false)
    (j0 : 0 ≤ j) (j1 : j ≤ max 0 k)
    (j2 : ∀ i : Int, 0 ≤ i → i < j → (if i < k then if (Txt.item x i == PySem.Str.ofString ".") = true then true else false else false) = true) (hj : ¬ j < k) :
    PySem.Str.ofString "" = stx (extn n) := by
  have hl := end_lead hx h1 j0 j1 j2
  rw [lit_empty]
  refine congrArg stx ?_
  rcases end_last hx h1 h2 h3 h4 with ⟨_, e⟩ | ⟨hk, hat, e⟩
  · unfold extn; rw [e]
  · have : k.toNat ≤ lead 46 n := lead_ge fun i hi => hl i (by omega)
    unfold extn
    rw [e]
    dsimp only
    rw [if_neg (by omega)]
end
end Mine
end

section
open PySem PySem.W PyProof.Rows PySem.Spec PySem.Calls
namespace Mine
set_option maxRecDepth 100000
set_option maxHeartbeats 8000000
theorem says_ending (w : World) (l : List Nat) (t0 : Tok) (hl : l.length ≤ 1000) : Says w 214 2 [.str (stx l) t0] (fun t => .str (stx (ext l)) t) := by
  unfold Says
  k_with_none
  w_top off
  k_fill
  intro mean mg mb dp un gd cn cs a ccd cl outer A₀ base h₀ L m news s Q E B F X N T hk hd hu hret
  refine wpAny_call ?_
  k_dflt cell_enter
  k_with "call ref" => (
    refine' Says.use ?kC ?k1 ?k2 ?k3 ?k4 ?k5 ?kK ?kd ?ku ?_
    (case kC => exact says_name _ _ _ hl)
    (case k1 => k_asm); (case k2 => k_asm); (case k3 => k_asm); (case k4 => k_asm); (case k5 => k_asm); (case kK => first | exact rfl | assumption); (case kd => ktr_room); (case ku => ktr_units)
    k_whole
    intro t9 h9 tk9 F9 N9
    (try dsimp only)
    (have hn9 : (stx (nm l)).length ≤ 1000 := by (rw [stx_len]; exact Nat.le_trans (nm_len l) hl))
    generalize hx : stx (nm l) = x at hn9 ⊢
    (try k_fold))
  k_with "StopDown" => exact down_end x
  k_steps
  all_goals first
    | exact cb_retS (Q := Q) hret (end_yes hx (by assumption) (by assumption) (by assumption) (by assumption) (by assumption) (by assumption) (by assumption) (by assumption) (by assumption)) (by k_asm) (by k_asm)
    | exact cb_retS (Q := Q) hret (end_no hx (by assumption) (by assumption) (by assumption) (by assumption) (by assumption) (by assumption) (by assumption) (by assumption)) (by k_asm) (by k_asm)
end Mine
end

section
open PySem PySem.W PyProof.Rows PySem.Spec PySem.Calls PySem.Builtin
namespace Mine
set_option maxRecDepth 100000
section
variable {prog : Program} {w : World} {A : Around} {E : Value → Shared → Prop} {s : Shared} {env : Env} {h₀ : Heap} {x : PySem.Str} {body : List Stmt} {Q : Flow → Shared → Prop}
/-- a loop by an invariant over its frame and its ledger, which may grow by new objects; lp: what the walk itself stands on -/
theorem loop_J {I : Addr} {fp : List Addr} {n : Nat} {P : Nat → Value → Prop} {St : Nat → Heap → Prop} {m₀ : PySem.Str → Option Value} {news₀ : List (Addr × Obj)} (c : Value) (lp : List (Addr × Obj))
    (J : Nat → (PySem.Str → Option Value) → List (Addr × Obj) → Prop) (W : Walks prog w A I fp [I] n P St) (hL : env.locals ∉ fp) (hI : I ∈ fp) (hnew : h₀.get? I = none)
    (hfp : ∀ b ∈ fp, b = I ∨ (∃ o, h₀.get? b = some o) ∨ ∃ o, (b, o) ∈ lp) (hSt : ∀ i h, St i h → ∃ o, h.get? I = some o ∧ o.cls = c) (hst : St 0 s.heap)
    (F : Fr h₀ env.locals s.heap m₀) (N : News h₀ env.locals s.heap news₀) (hIn : ∀ p ∈ news₀, p.1 ≠ I) (hlp : ∀ p ∈ lp, p ∈ news₀) (hj : J 0 m₀ news₀)
    (turn : ∀ i v it m₁ news₁ h tk, i < n → P i v → J i m₁ news₁ → it.cls = c → (∀ p ∈ news₁, p.1 ≠ I) → Fr h₀ env.locals h (fun y => if y = x then some v else m₁ y) → News h₀ env.locals h ((I, it) :: news₁) →
      wpAny (model prog w) A (execs body env) (UnrPost h₀ env.locals { s with heap := h, toks := tk } I it (fun m' n' => (∀ p ∈ lp, p ∈ n') ∧ J (i + 1) m' n') Q) E { s with heap := h, toks := tk })
    (done : ∀ m₁ news₁ h tk, J n m₁ news₁ → Fr h₀ env.locals h m₁ → News h₀ env.locals h news₁ → Q .next { s with heap := h, toks := tk }) : LoopAtV prog w A h₀ env x body Q E (.ref I) s := by
  refine ⟨I, fp, [I], n, P, St, m₀, news₀, fun i m nx => (∀ p ∈ lp, p ∈ nx) ∧ J i m nx, rfl, W, hL, ?_, ?_, hst, F, N, ⟨hlp, hj⟩, ?_, ?_⟩
  · intro b hb
    rw [List.mem_singleton.mp hb]; exact hnew
  · intro p hp hq
    exact hIn p hp (List.mem_singleton.mp hq)
  · rintro i v m₁ news₁ s₁ own ⟨hh, tk, rfl⟩ hi hP ⟨hlp₁, hJ⟩ hoff hown hget hall hst₁ F₁ N₁
    obtain ⟨it, hit, hc⟩ := hSt _ _ hst₁
    have hmem := hall I hI hnew it hit
    have N₂ : News h₀ env.locals hh ((I, it) :: news₁) := fun p hp => by
      rcases List.mem_cons.mp hp with rfl | hp
      · exact N₁ _ (List.mem_append_left _ hmem)
      · exact N₁ _ (List.mem_append_right _ hp)
    refine wpAny_mono (turn i v it m₁ news₁ hh tk hi hP hJ hc (fun p hp e => hoff p hp (List.mem_singleton.mpr e)) F₁ N₂) (fun f s₂ p => ?_) fun _ _ e => e
    have fin : UnrEnd h₀ env.locals { s with heap := hh, toks := tk } I it (fun m' n' => (∀ p ∈ lp, p ∈ n') ∧ J (i + 1) m' n') s₂ →
        LoopStepU h₀ env.locals [I] own (fun m nx => (∀ p ∈ lp, p ∈ nx) ∧ J (i + 1) m nx) { s with heap := hh, toks := tk } .next s₂ := by
      rintro ⟨h', tk', m', news', e, F', N', ho, hl', hj'⟩
      refine ⟨rfl, h', tk', m', news', e, F', fun p hp => ?_, fun p hp hq => ho p hp (List.mem_singleton.mp hq), hl', hj'⟩
      rcases List.mem_append.mp hp with hp | hp
      · rcases hfp p.1 (hown p hp) with h1 | ⟨o, h1⟩ | ⟨o, h1⟩
        · have h2 := hget p hp
          have h3 : p = (I, it) := by
            rw [h1] at h2
            have : hh.get? I = some p.2 := h2
            rw [hit] at this
            exact Prod.ext h1 (Option.some.inj this).symm
          rw [h3]; exact N' _ (List.mem_cons_self ..)
        · have := (N₁ p (List.mem_append_left _ hp)).2.2
          rw [h1] at this; cases this
        · have h2 : hh.get? p.1 = some p.2 := hget p hp
          have h3 : hh.get? p.1 = some o := (N₁ (p.1, o) (List.mem_append_right _ (hlp₁ _ h1))).1
          rw [h2] at h3
          have h4 : p = (p.1, o) := Prod.ext rfl (Option.some.inj h3)
          rw [h4]
          exact N' _ (List.mem_cons_of_mem _ (hl' _ h1))
      · exact N' _ (List.mem_cons_of_mem _ hp)
    cases f with
    | ret v => exact .ret p
    | brk => exact .brk p
    | next => exact .next (fin p)
    | cont => exact .cont (fin p)
  · rintro h' tk m' news' F' N' _ ⟨_, hJ⟩
    exact done m' news' h' tk hJ F' N'
section
variable {m₀ : PySem.Str → Option Value} {news₀ : List (Addr × Obj)}
theorem iter_down {r : Addr} {a₀ b₀ : Int} {t₀ u₀ v₀ : Tok} {n : Nat} (J : Nat → (PySem.Str → Option Value) → List (Addr × Obj) → Prop)
    (hh : A.handled = none) (hr : IsRange s.heap r a₀ b₀ (-1) t₀ u₀ v₀) (hsmall : Builtin.Range.small a₀ b₀ (-1) = true) (hn : Builtin.Range.rangeSize a₀ b₀ (-1) = (n : Int)) (F : Fr h₀ env.locals s.heap m₀) (N : News h₀ env.locals s.heap news₀) (hj : J 0 m₀ news₀)
    (turn : ∀ i I it m₁ news₁ t h tk, i < n → J i m₁ news₁ → it.cls = .type "range_iterator" → (∀ p ∈ news₁, p.1 ≠ I) → Fr h₀ env.locals h (fun y => if y = x then some (.int (a₀ - (i : Int)) t) else m₁ y) → News h₀ env.locals h ((I, it) :: news₁) →
      wpAny (model prog w) A (execs body env) (UnrPost h₀ env.locals { s with heap := h, toks := tk } I it (fun m' n' => (∀ p ∈ ([] : List (Addr × Obj)), p ∈ n') ∧ J (i + 1) m' n') Q) E { s with heap := h, toks := tk })
    (done : ∀ m₁ news₁ h tk, J n m₁ news₁ → Fr h₀ env.locals h m₁ → News h₀ env.locals h news₁ → Q .next { s with heap := h, toks := tk }) :
    wpAny (model prog w) A (pyIter (.ref r)) (fun it s₂ => LoopAtV prog w A h₀ env x body Q E it s₂) E s := by
  refine wpAny_pyIter_range hr hsmall ?_
  have W : Walks prog w A s.heap.objs.size [s.heap.objs.size] [s.heap.objs.size] n (fun i v => i < n ∧ ∃ t, v = .int (a₀ + i * (-1)) t)
      (fun i h => IsRangeIter h s.heap.objs.size (a₀ + (i : Nat) * (-1)) ((n : Int) - (i : Nat)) (-1)) := (Walks.range hh _ a₀ (-1) n).bound
  refine loop_J (.type "range_iterator") [] J W ?_ (List.mem_singleton.mpr rfl) (next_is_new F) (fun b hb => .inl (List.mem_singleton.mp hb)) (fun i h hs => ⟨_, hs, rfl⟩) (by show IsRangeIter _ _ _ _ _; rw [hn]; simpa using Heap.get?_push_size _ rfl) (F.push _)
    (fun p hp => ⟨Heap.get?_push_of_some _ (N p hp).1, (N p hp).2⟩) (fun p hp e => absurd (Heap.lt_size (N p hp).1) (by rw [e]; exact Nat.lt_irrefl _)) (fun _ h => nomatch h) hj ?_ (fun m₁ n₁ h tk j F N => done m₁ n₁ h tk j F N)
  · intro hm
    exact absurd F.ns.lt ((List.mem_singleton.mp hm) ▸ Nat.lt_irrefl _)
  · rintro i v it m₁ news₁ h tk hi ⟨_, t, rfl⟩ hJ hc hne F₁ N₁
    have e1 : a₀ + (i : Int) * (-1) = a₀ - (i : Int) := by omega
    rw [e1] at F₁
    exact turn i _ it m₁ news₁ t h tk hi hJ hc hne F₁ N₁
theorem iter_up {r : Addr} {a₀ b₀ : Int} {t₀ u₀ v₀ : Tok} {n : Nat} (J : Nat → (PySem.Str → Option Value) → List (Addr × Obj) → Prop)
    (hh : A.handled = none) (hr : IsRange s.heap r a₀ b₀ 1 t₀ u₀ v₀) (hsmall : Builtin.Range.small a₀ b₀ 1 = true) (hn : Builtin.Range.rangeSize a₀ b₀ 1 = (n : Int)) (F : Fr h₀ env.locals s.heap m₀) (N : News h₀ env.locals s.heap news₀) (hj : J 0 m₀ news₀)
    (turn : ∀ i I it m₁ news₁ t h tk, i < n → J i m₁ news₁ → it.cls = .type "range_iterator" → (∀ p ∈ news₁, p.1 ≠ I) → Fr h₀ env.locals h (fun y => if y = x then some (.int (a₀ + (i : Int)) t) else m₁ y) → News h₀ env.locals h ((I, it) :: news₁) →
      wpAny (model prog w) A (execs body env) (UnrPost h₀ env.locals { s with heap := h, toks := tk } I it (fun m' n' => (∀ p ∈ ([] : List (Addr × Obj)), p ∈ n') ∧ J (i + 1) m' n') Q) E { s with heap := h, toks := tk })
    (done : ∀ m₁ news₁ h tk, J n m₁ news₁ → Fr h₀ env.locals h m₁ → News h₀ env.locals h news₁ → Q .next { s with heap := h, toks := tk }) :
    wpAny (model prog w) A (pyIter (.ref r)) (fun it s₂ => LoopAtV prog w A h₀ env x body Q E it s₂) E s := by
  refine wpAny_pyIter_range hr hsmall ?_
  have W : Walks prog w A s.heap.objs.size [s.heap.objs.size] [s.heap.objs.size] n (fun i v => i < n ∧ ∃ t, v = .int (a₀ + i * 1) t)
      (fun i h => IsRangeIter h s.heap.objs.size (a₀ + (i : Nat) * 1) ((n : Int) - (i : Nat)) 1) := (Walks.range hh _ a₀ 1 n).bound
  refine loop_J (.type "range_iterator") [] J W ?_ (List.mem_singleton.mpr rfl) (next_is_new F) (fun b hb => .inl (List.mem_singleton.mp hb)) (fun i h hs => ⟨_, hs, rfl⟩) (by show IsRangeIter _ _ _ _ _; rw [hn]; simpa using Heap.get?_push_size _ rfl) (F.push _)
    (fun p hp => ⟨Heap.get?_push_of_some _ (N p hp).1, (N p hp).2⟩) (fun p hp e => absurd (Heap.lt_size (N p hp).1) (by rw [e]; exact Nat.lt_irrefl _)) (fun _ h => nomatch h) hj ?_ (fun m₁ n₁ h tk j F N => done m₁ n₁ h tk j F N)
  · intro hm
    exact absurd F.ns.lt ((List.mem_singleton.mp hm) ▸ Nat.lt_irrefl _)
  · rintro i v it m₁ news₁ h tk hi ⟨_, t, rfl⟩ hJ hc hne F₁ N₁
    have e1 : a₀ + (i : Int) * 1 = a₀ + (i : Int) := by omega
    rw [e1] at F₁
    exact turn i _ it m₁ news₁ t h tk hi hJ hc hne F₁ N₁
/-- an own list that stands in the ledger -/
theorem iter_own {l : Addr} {lo : Obj} {vs : List Value} {k : Nat} (J : Nat → (PySem.Str → Option Value) → List (Addr × Obj) → Prop)
    (hh : A.handled = none) (F : Fr h₀ env.locals s.heap m₀) (N : News h₀ env.locals s.heap news₀) (hm : (l, lo) ∈ news₀) (hc : lo.cls = .type "list") (hd : lo.data = .seq vs.toArray k) (hj : J 0 m₀ news₀)
    (turn : ∀ i v I it m₁ news₁ h tk, vs[i]? = some v → J i m₁ news₁ → it.cls = .type "list_iterator" → (∀ p ∈ news₁, p.1 ≠ I) → Fr h₀ env.locals h (fun y => if y = x then some v else m₁ y) → News h₀ env.locals h ((I, it) :: news₁) →
      wpAny (model prog w) A (execs body env) (UnrPost h₀ env.locals { s with heap := h, toks := tk } I it (fun m' n' => (∀ p ∈ [(l, lo)], p ∈ n') ∧ J (i + 1) m' n') Q) E { s with heap := h, toks := tk })
    (done : ∀ m₁ news₁ h tk, J vs.length m₁ news₁ → Fr h₀ env.locals h m₁ → News h₀ env.locals h news₁ → Q .next { s with heap := h, toks := tk }) :
    wpAny (model prog w) A (pyIter (.ref l)) (fun it s₂ => LoopAtV prog w A h₀ env x body Q E it s₂) E s := by
  have hl₀ := N _ hm
  have hl : s.heap.IsList l vs.toArray := ⟨lo, hl₀.1, hc, k, hd⟩
  have hlt : l < s.heap.objs.size := Heap.lt_size hl₀.1
  have hne : l ≠ s.heap.objs.size := Nat.ne_of_lt hlt
  refine wpAny_pyIter_list hl ?_
  have W := Walks.list (prog := prog) (w := w) hh s.heap.objs.size l hne vs.toArray
  have hlen : vs.toArray.size = vs.length := by simp
  rw [hlen] at W
  refine loop_J (.type "list_iterator") [(l, lo)] J W ?_ (List.mem_cons_self ..) (next_is_new F) (fun b hb => ?_) (fun i h hs => ?_) ⟨⟨_, Heap.get?_push_size _ rfl, rfl, rfl⟩, hl.at fun o e => Heap.get?_push_of_some _ e⟩ (F.push _)
    (fun p hp => ⟨Heap.get?_push_of_some _ (N p hp).1, (N p hp).2⟩) (fun p hp e => absurd (Heap.lt_size (N p hp).1) (by rw [e]; exact Nat.lt_irrefl _)) (fun p hp => by rw [List.mem_singleton.mp hp]; exact hm) hj ?_ (fun m₁ n₁ h tk j F N => done m₁ n₁ h tk j F N)
  · intro hmm
    rcases List.mem_cons.mp hmm with e | hmm
    · exact absurd F.ns.lt (e ▸ Nat.lt_irrefl _)
    · exact hl₀.2.1 (List.mem_singleton.mp hmm).symm
  · rcases List.mem_cons.mp hb with e | hb
    · exact .inl e
    · exact .inr (.inr ⟨lo, by rw [List.mem_singleton.mp hb]; exact List.mem_singleton.mpr rfl⟩)
  · obtain ⟨o, ho, hc', _⟩ := hs.1
    exact ⟨o, ho, hc'⟩
  · rintro i v it m₁ news₁ h tk hi hP hJ hc' hne' F₁ N₁
    exact turn i v _ it m₁ news₁ h tk (by simpa using hP) hJ hc' hne' F₁ N₁
/-- a tuple of the written part -/
theorem iter_tup {l : Addr} {lo : Obj} {vs : List Value} {k : Nat} (J : Nat → (PySem.Str → Option Value) → List (Addr × Obj) → Prop)
    (hh : A.handled = none) (F : Fr h₀ env.locals s.heap m₀) (N : News h₀ env.locals s.heap news₀) (hm : h₀.get? l = some lo) (hc : lo.cls = .type "tuple") (hd : lo.data = .seq vs.toArray k) (hj : J 0 m₀ news₀)
    (turn : ∀ i v I it m₁ news₁ h tk, vs[i]? = some v → J i m₁ news₁ → it.cls = .type "tuple_iterator" → (∀ p ∈ news₁, p.1 ≠ I) → Fr h₀ env.locals h (fun y => if y = x then some v else m₁ y) → News h₀ env.locals h ((I, it) :: news₁) →
      wpAny (model prog w) A (execs body env) (UnrPost h₀ env.locals { s with heap := h, toks := tk } I it (fun m' n' => (∀ p ∈ ([] : List (Addr × Obj)), p ∈ n') ∧ J (i + 1) m' n') Q) E { s with heap := h, toks := tk })
    (done : ∀ m₁ news₁ h tk, J vs.length m₁ news₁ → Fr h₀ env.locals h m₁ → News h₀ env.locals h news₁ → Q .next { s with heap := h, toks := tk }) :
    wpAny (model prog w) A (pyIter (.ref l)) (fun it s₂ => LoopAtV prog w A h₀ env x body Q E it s₂) E s := by
  have hl₀ := F.keep _ _ hm
  have hl : s.heap.IsTuple l vs.toArray := ⟨lo, hl₀, hc, k, hd⟩
  have hlt : l < h₀.objs.size := Heap.lt_size hm
  have hne : l ≠ s.heap.objs.size := Nat.ne_of_lt (Nat.lt_trans (Nat.lt_of_lt_of_le hlt F.above) F.ns.lt)
  refine wpAny_pyIter_tuple hl ?_
  have W := Walks.tuple (prog := prog) (w := w) hh s.heap.objs.size l hne vs.toArray
  have hlen : vs.toArray.size = vs.length := by simp
  rw [hlen] at W
  refine loop_J (.type "tuple_iterator") [] J W ?_ (List.mem_cons_self ..) (next_is_new F) (fun b hb => ?_) (fun i h hs => ?_) ⟨⟨_, Heap.get?_push_size _ rfl, rfl, rfl⟩, hl.at fun o e => Heap.get?_push_of_some _ e⟩ (F.push _)
    (fun p hp => ⟨Heap.get?_push_of_some _ (N p hp).1, (N p hp).2⟩) (fun p hp e => absurd (Heap.lt_size (N p hp).1) (by rw [e]; exact Nat.lt_irrefl _)) (fun p hp => nomatch hp) hj ?_ (fun m₁ n₁ h tk j F N => done m₁ n₁ h tk j F N)
  · intro hmm
    rcases List.mem_cons.mp hmm with e | hmm
    · exact absurd F.ns.lt (e ▸ Nat.lt_irrefl _)
    · exact absurd (Nat.lt_of_lt_of_le hlt F.above) ((List.mem_singleton.mp hmm) ▸ Nat.lt_irrefl _)
  · rcases List.mem_cons.mp hb with e | hb
    · exact .inl e
    · exact .inr (.inl ⟨lo, by rw [List.mem_singleton.mp hb]; exact hm⟩)
  · obtain ⟨o, ho, hc', _⟩ := hs.1
    exact ⟨o, ho, hc'⟩
  · rintro i v it m₁ news₁ h tk hi hP hJ hc' hne' F₁ N₁
    exact turn i v _ it m₁ news₁ h tk (by simpa using hP) hJ hc' hne' F₁ N₁
end
end
end Mine
end

section
open PySem PySem.W PyProof.Rows PySem.Spec PySem.Calls PySem.Builtin
namespace Mine
set_option maxRecDepth 100000
theorem map2 {m : PySem.Str → Option Value} {a b : PySem.Str} {va vb : Option Value} (ha : m a = va) (hb : m b = vb) :
    ∃ u : PySem.Str → Option Value, m = fun y => if y = a then va else if y = b then vb else u y := by
  refine ⟨m, ?_⟩
  funext y
  split
  · rename_i e; rw [e, ha]
  · split
    · rename_i e; rw [e, hb]
    · rfl
theorem map3 {m : PySem.Str → Option Value} {a b c : PySem.Str} {va vb vc : Option Value} (ha : m a = va) (hb : m b = vb) (hc : m c = vc) :
    ∃ u : PySem.Str → Option Value, m = fun y => if y = a then va else if y = b then vb else if y = c then vc else u y := by
  obtain ⟨u, e⟩ := map2 hb hc
  refine ⟨u, ?_⟩
  funext y
  split
  · rename_i e; rw [e, ha]
  · exact congrFun e y
theorem map4 {m : PySem.Str → Option Value} {a b c d : PySem.Str} {va vb vc vd : Option Value} (ha : m a = va) (hb : m b = vb) (hc : m c = vc) (hd : m d = vd) :
    ∃ u : PySem.Str → Option Value, m = fun y => if y = a then va else if y = b then vb else if y = c then vc else if y = d then vd else u y := by
  obtain ⟨u, e⟩ := map3 hb hc hd
  refine ⟨u, ?_⟩
  funext y
  split
  · rename_i e; rw [e, ha]
  · exact congrFun e y
theorem frame1 {g h : Heap} {L : Addr} {B : List (PySem.Str × Value)} {a : PySem.Str} {v : Value} (F : Fr g L h (fun y => List.lookup y B)) (e : B = [(a, v)]) : Fr g L h (fun y => if y = a then some v else none) := by
  have : (fun y => List.lookup y B) = fun y => if y = a then some v else none := by
    funext y
    subst e
    rw [List.lookup_cons]
    by_cases h : y = a
    · rw [if_pos h, h]; simp
    · rw [if_neg h]
      have : (y == a) = false := by simpa using h
      rw [this]; rfl
  rw [← this]; exact F
theorem frame2 {g h : Heap} {L : Addr} {B : List (PySem.Str × Value)} {a b : PySem.Str} {v u : Value} (F : Fr g L h (fun y => List.lookup y B)) (e : B = [(a, v), (b, u)]) : Fr g L h (fun y => if y = a then some v else if y = b then some u else none) := by
  have : (fun y => List.lookup y B) = fun y => if y = a then some v else if y = b then some u else none := by
    funext y
    subst e
    rw [List.lookup_cons, List.lookup_cons]
    by_cases h : y = a
    · rw [if_pos h, h]; simp
    · rw [if_neg h]
      have : (y == a) = false := by simpa using h
      rw [this]
      by_cases h2 : y = b
      · rw [if_pos h2, h2]; simp
      · rw [if_neg h2]
        have : (y == b) = false := by simpa using h2
        rw [this]; rfl
  rw [← this]; exact F
section
variable {prog : Program} {w : World} {A : Around} {E : Value → Shared → Prop} {s : Shared}
/-- an item of a list whose item is known -/
theorem item_known {value slice : PySem.Expr} {D : Addr} {o : Obj} {vs : List Value} {n : Nat} {k : Int} {u : Tok} {v : Value} {h₀ : Heap} {L : Addr} {news : List (Addr × Obj)} {Q : Value → Shared → Prop}
    (N : News h₀ L s.heap news) (hm : (D, o) ∈ news) (hc : o.cls = .type "list") (hd : o.data = .seq vs.toArray n) (h0 : 0 ≤ k) (hhi : k < 2 ^ 63) (hx : vs[k.toNat]? = some v) (h : Q v s)
    (hs : subscripted slice false (.ref D) (.int k u) = operate [.ref D, .int k u] (getItem (.ref D) (.int k u)) := by with_unfolding_all rfl) :
    wpAny (model prog w) A (subscriptTail value slice (.ref D) (.int k u)) Q E s :=
  have hl : s.heap.IsList D vs.toArray := ⟨o, (N _ hm).1, hc, n, hd⟩
  tail_any hl.typeIs slot_list_getitem.lookup (wpAny_getItem_list hl h0 hhi (by simpa using hx) h) hs
end
/-- the pieces, borne by texts with some tokens -/
theorem borne {lv : List (PySem.Str × Tok)} {cs : List (List Nat)} (h : lv.map (·.1) = cs.map stx) {k : Nat} (hk : k < cs.length) : ∃ t, (strValues lv)[k]? = some (.str (stx cs[k]) t) := by
  have hl : lv.length = cs.length := by
    have := congrArg List.length h
    simpa using this
  have hk' : k < lv.length := by omega
  refine ⟨lv[k].2, ?_⟩
  have e : lv[k].1 = stx cs[k] := by
    have h1 : (lv.map (·.1))[k]? = (cs.map stx)[k]? := by rw [h]
    simpa [hk, hk'] using h1
  unfold strValues
  rw [List.getElem?_map, List.getElem?_eq_getElem hk']
  show some (Value.str lv[k].1 lv[k].2) = _
  rw [e]
theorem drop_next {α : Type} (cs : List α) {i : Nat} (h : i < cs.length) : cs.drop (cs.length - (i + 1)) = cs[cs.length - 1 - i] :: cs.drop (cs.length - i) := by
  have h1 : cs.length - (i + 1) < cs.length := by omega
  rw [List.drop_eq_getElem_cons h1]
  have e1 : cs.length - (i + 1) = cs.length - 1 - i := by omega
  have e2 : cs.length - (i + 1) + 1 = cs.length - i := by omega
  simp only [e1]
  rw [show cs.length - 1 - i + 1 = cs.length - i from by omega]
end Mine
end

section
open PySem PySem.W PyProof.Rows PySem.Spec PySem.Calls PySem.Builtin
namespace Mine
set_option maxRecDepth 100000
abbrev seqO (vs : List Value) : Obj := { cls := .type "list", data := .seq vs.toArray }
/-- what stands between the turns of _law_straight's loop: the pieces behind are reckoned -/
def SJ (cs : List (List Nat)) (x : PySem.Str) (tx : Tok) (D : Addr) (lv : List (PySem.Str × Tok)) (news : List (Addr × Obj)) (r : List (List Nat)) (m : PySem.Str → Option Value) (nx : List (Addr × Obj)) : Prop :=
  ∃ (nA : Addr) (nn : Nat) (ys : List (PySem.Str × Tok)) (d : Int) (td : Tok), nx = (nA, W.listOf (strValues ys).toArray nn) :: (D, seqO (strValues lv)) :: news ∧
    m (PySem.Str.ofString "text") = some (.str x tx) ∧ m (PySem.Str.ofString "pieces") = some (.ref D) ∧ m (PySem.Str.ofString "names") = some (.ref nA) ∧ m (PySem.Str.ofString "debt") = some (.int d td) ∧ d = (((bk r).1 : Nat) : Int) ∧
    ys.map (·.1) = (bk r).2.map stx
section
variable {prog : Program} {w : World} {A : Around} {E : Value → Shared → Prop} {s : Shared} {env : Env} {h₀ : Heap} {xk : PySem.Str} {body : List Stmt} {Q : Flow → Shared → Prop}
theorem SJ.iter {r nA D : Addr} {t₀ u₀ v₀ tx td₀ : Tok} {lv : List (PySem.Str × Tok)} {news : List (Addr × Obj)} {m₀ : PySem.Str → Option Value} {cs : List (List Nat)} {x : PySem.Str}
    (hN : News h₀ env.locals s.heap ((nA, W.listOf #[] 0) :: (D, seqO (strValues lv)) :: news)) (hF : Fr h₀ env.locals s.heap m₀) (hR : IsRange s.heap r ((lv.length : Int) - 1) (-1) (-1) t₀ u₀ v₀)
    (hh : A.handled = none) (hcs : lv.map (·.1) = cs.map stx) (hz : lv.length ≤ 100000)
    (e1 : m₀ (PySem.Str.ofString "text") = some (.str x tx)) (e2 : m₀ (PySem.Str.ofString "pieces") = some (.ref D)) (e3 : m₀ (PySem.Str.ofString "names") = some (.ref nA)) (e4 : m₀ (PySem.Str.ofString "debt") = some (.int 0 td₀))
    (turn : ∀ (i : Nat) (k : Int) (I : Addr) (it : Obj) (nA : Addr) (nn : Nat) (ys : List (PySem.Str × Tok)) (d : Int) (td : Tok) (u : PySem.Str → Option Value) (t : Tok) (h : Heap) (tk : Nat) (c : List Nat) (y : PySem.Str) (tp : Tok) (rest : List (List Nat)),
      0 ≤ k → k < 2 ^ 62 → (strValues lv)[k.toNat]? = some (.str y tp) → stx c = y → d = (((bk rest).1 : Nat) : Int) → ys.map (·.1) = (bk rest).2.map stx → (∃ q, cs = q ++ c :: rest) →
      (∀ p ∈ (nA, W.listOf (strValues ys).toArray nn) :: (D, seqO (strValues lv)) :: news, p.1 ≠ I) →
      Fr h₀ env.locals h (fun z => if z = xk then some (.int k t) else if z = PySem.Str.ofString "text" then some (.str x tx) else if z = PySem.Str.ofString "pieces" then some (.ref D) else if z = PySem.Str.ofString "names" then some (.ref nA) else if z = PySem.Str.ofString "debt" then some (.int d td) else u z) →
      News h₀ env.locals h ((I, it) :: (nA, W.listOf (strValues ys).toArray nn) :: (D, seqO (strValues lv)) :: news) →
      wpAny (model prog w) A (execs body env) (UnrPost h₀ env.locals { s with heap := h, toks := tk } I it (SJ cs x tx D lv news (c :: rest)) Q) E { s with heap := h, toks := tk })
    (done : ∀ (nA : Addr) (nn : Nat) (ys : List (PySem.Str × Tok)) (d : Int) (td : Tok) (u : PySem.Str → Option Value) (h : Heap) (tk : Nat), d = (((bk cs).1 : Nat) : Int) → ys.map (·.1) = (bk cs).2.map stx →
      Fr h₀ env.locals h (fun z => if z = PySem.Str.ofString "text" then some (.str x tx) else if z = PySem.Str.ofString "pieces" then some (.ref D) else if z = PySem.Str.ofString "names" then some (.ref nA) else if z = PySem.Str.ofString "debt" then some (.int d td) else u z) →
      News h₀ env.locals h ((nA, W.listOf (strValues ys).toArray nn) :: (D, seqO (strValues lv)) :: news) → Q .next { s with heap := h, toks := tk }) :
    wpAny (model prog w) A (pyIter (.ref r)) (fun it s₂ => LoopAtV prog w A h₀ env xk body Q E it s₂) E s := by
  have hlen : lv.length = cs.length := by
    have := congrArg List.length hcs
    simpa using this
  refine iter_down (fun i m nx => SJ cs x tx D lv news (cs.drop (cs.length - i)) m nx) (n := cs.length) hh hR (small_down (by omega) (by omega) (by omega) (by omega)) (by rw [rangeSize_downNat]; omega) hF hN ?_ ?_ ?_
  · exact ⟨nA, 0, [], 0, td₀, rfl, e1, e2, e3, e4, by simp [bk], by simp [bk]⟩
  · rintro i I it m₁ news₁ t h tk hi ⟨nA, nn, ys, d, td, rfl, e1, e2, e3, e4, hd, hys⟩ hc hne F₁ N₁
    obtain ⟨u, rfl⟩ := map4 e1 e2 e3 e4
    obtain ⟨tp, hp⟩ := borne hcs (k := cs.length - 1 - i) (by omega)
    have hb := drop_next cs hi
    have ek : ((lv.length : Int) - 1 - (i : Int)).toNat = cs.length - 1 - i := by omega
    have := turn i ((lv.length : Int) - 1 - (i : Int)) I it nA nn ys d td u t h tk cs[cs.length - 1 - i] _ tp (cs.drop (cs.length - i)) (by omega) (by omega) (by rw [ek]; exact hp) rfl hd hys ⟨cs.take (cs.length - (i + 1)), by rw [← hb, List.take_append_drop]⟩ hne F₁ N₁
    refine wpAny_mono this (fun f s₂ p => ?_) fun _ _ e => e
    have conv : UnrEnd h₀ env.locals { s with heap := h, toks := tk } I it (SJ cs x tx D lv news (cs[cs.length - 1 - i] :: cs.drop (cs.length - i))) s₂ →
        UnrEnd h₀ env.locals { s with heap := h, toks := tk } I it (fun m' n' => (∀ p ∈ ([] : List (Addr × Obj)), p ∈ n') ∧ SJ cs x tx D lv news (cs.drop (cs.length - (i + 1))) m' n') s₂ := by
      rintro ⟨h', tk', m', n', e, F', N', o, j⟩
      exact ⟨h', tk', m', n', e, F', N', o, ⟨fun _ h => (nomatch h), by rw [hb]; exact j⟩⟩
    cases f with
    | ret v => exact p
    | brk => exact p
    | next => exact conv p
    | cont => exact conv p
  · rintro m₁ news₁ h tk ⟨nA, nn, ys, d, td, rfl, e1, e2, e3, e4, hd, hys⟩ F₁ N₁
    obtain ⟨u, rfl⟩ := map4 e1 e2 e3 e4
    rw [Nat.sub_self, List.drop_zero] at hd hys
    exact done nA nn ys d td u h tk hd hys F₁ N₁
end
end Mine
end

section
open PySem PySem.W PyProof.Rows PySem.Spec PySem.Calls PySem.Builtin
namespace Mine
set_option maxRecDepth 100000
theorem bk_len : ∀ cs : List (List Nat), (bk cs).1 ≤ cs.length ∧ (bk cs).2.length ≤ cs.length
  | [] => ⟨Nat.le_refl _, Nat.le_refl _⟩
  | c :: r => by
    have ih := bk_len r
    unfold bk
    split
    · simp only [List.length_cons]; omega
    · split
      · simp only [List.length_cons]; omega
      · split <;> simp only [List.length_cons] <;> omega
theorem sp_mem_len : ∀ (l : List Nat), ∀ p ∈ sp l, p.length ≤ l.length
  | [], p, h => by simp [sp] at h; subst h; simp
  | c :: r, p, h => by
    have ih := sp_mem_len r
    unfold sp at h
    split at h
    · rcases List.mem_cons.mp h with rfl | h
      · simp
      · have := ih p h; simp only [List.length_cons]; omega
    · split at h
      · rename_i e; exact absurd e (sp_ne r)
      · rename_i q qs e
        rw [e] at ih
        rcases List.mem_cons.mp h with rfl | h
        · have := ih q (.head _); simp only [List.length_cons]; omega
        · have := ih p (.tail _ h); simp only [List.length_cons]; omega
theorem sp_len (l : List Nat) : (sp l).length ≤ l.length + 1 := by
  induction l with
  | nil => simp [sp]
  | cons c r ih =>
    unfold sp
    split
    · simp only [List.length_cons]; omega
    · split
      · simp
      · rename_i p ps e
        rw [e] at ih
        simp only [List.length_cons] at ih ⊢
        omega
theorem nms_len (l : List Nat) : (nms l).length ≤ 2 * l.length + 2 := by
  have h1 := bk_len (sp l)
  have h2 := sp_len l
  unfold nms
  split
  · rw [List.length_append, List.length_replicate]; omega
  · omega
theorem nms_mem_len (l : List Nat) : ∀ p ∈ nms l, p.length ≤ l.length + 2 := by
  have hb := bk_std (sp l)
  have hs := sp_mem_len l
  intro p hp
  unfold nms at hp
  split at hp
  · rcases List.mem_append.mp hp with h | h
    · have := List.eq_of_mem_replicate h; subst this; simp
    · have := hs p (hb p h).2; omega
  · have := hs p (hb p hp).2; omega
section
variable {prog : Program} {w : World} {A : Around} {E : Value → Shared → Prop} {s : Shared} {h₀ : Heap} {L : Addr} {m : PySem.Str → Option Value} {news : List (Addr × Obj)} {Q : Value → Shared → Prop}
theorem add_texts {a b : Addr} {oa ob : Obj} {na nb : Nat} {l1 l2 : List (PySem.Str × Tok)} (F : Fr h₀ L s.heap m) (N : News h₀ L s.heap news) (ha : (a, oa) ∈ news) (hb : (b, ob) ∈ news) (ca : oa.cls = .type "list") (cb : ob.cls = .type "list")
    (da : oa.data = .seq (strValues l1).toArray na) (db : ob.data = .seq (strValues l2).toArray nb) (hz : l1.length + l2.length ≤ 100000)
    (h : ∀ D h', Fr h₀ L h' m → News h₀ L h' ((D, W.listOf (strValues (l1 ++ l2)).toArray 0) :: news) → (∀ p ∈ news, p.1 < D) → Q (.ref D) { s with heap := h' }) :
    wpAny (model prog w) A (binaryOp .Add (.ref a) (.ref b)) Q E s :=
  kmk_add_lit F N ⟨oa, (N _ ha).1, ca, na, da⟩ ⟨ob, (N _ hb).1, cb, nb, db⟩ (zs := strValues (l1 ++ l2)) (by simp [strValues]) h (by rw [sizeLine_eq]; simp [strValues]; omega)
theorem flat_one {α : Type} (p : α) : ∀ k : Nat, (List.replicate k [p]).flatten = List.replicate k p
  | 0 => rfl
  | k + 1 => by rw [List.replicate_succ, List.flatten_cons, flat_one p k, List.replicate_succ]; rfl
theorem mul_text {a : Addr} {oa : Obj} {na : Nat} {p : PySem.Str × Tok} {d : Int} {u : Tok} (F : Fr h₀ L s.heap m) (N : News h₀ L s.heap news) (ha : (a, oa) ∈ news) (ca : oa.cls = .type "list") (da : oa.data = .seq (strValues [p]).toArray na)
    (hd0 : 0 ≤ d) (hd1 : d ≤ 256)
    (h : ∀ D h', Fr h₀ L h' m → News h₀ L h' ((D, W.listOf (strValues (List.replicate d.toNat p)).toArray 0) :: news) → (∀ p ∈ news, p.1 < D) → Q (.ref D) { s with heap := h' }) :
    wpAny (model prog w) A (binaryOp .Mult (.ref a) (.int d u)) Q E s :=
  KMa.mul F N ⟨oa, (N _ ha).1, ca, na, da⟩ (by omega) (by omega) (by simp only [strValues, List.map_cons, List.map_nil, List.length_cons, List.length_nil]; omega) (by unfold strValues; rw [List.map_cons, List.map_nil, flat_one, List.map_replicate]) h
theorem join_s {D : Addr} {o : Obj} {n : Nat} {l : List (PySem.Str × Tok)} {ns : List (List Nat)} {t : Tok} (N : News h₀ L s.heap news) (hm : (D, o) ∈ news) (hc : o.cls = .type "list") (hd : o.data = .seq (strValues l).toArray n)
    (hl : l.map (·.1) = ns.map stx) (hp : ∀ p ∈ ns, p.length ≤ 1000) (hn : ns.length ≤ 1000)
    (h : ∀ y t' k, stx (jn ns) = y → Q (.str y t') { s with toks := k }) :
    wpAny (model prog w) A (call (.builtin "str.join") [.str (PySem.Str.ofString "/") t, .ref D]) Q E s := by
  have hz : JoinOk (PySem.Str.ofString "/") (ns.map stx) = true := by
    refine joinOk_of ?_
    have h1 := StrLaws.sumLen_le (B := 1000) (ns.map stx) (fun y hy => by
      obtain ⟨p, hp', rfl⟩ := List.mem_map.mp hy
      rw [stx_len]; exact hp p hp')
    have h2 : (PySem.Str.ofString "/").length = 1 := by rw [lit_slash, stx_len]; rfl
    rw [h2]
    simp only [List.length_map] at h1 ⊢
    omega
  refine SC.join ⟨o, (N _ hm).1, hc, n, hd⟩ hl hz fun t' k => h _ t' k ?_
  have e : Txt.join (PySem.Str.ofString "/") (ns.map stx) = PySem.Str.join (PySem.Str.ofString "/") (ns.map stx) := StrLaws.glued_eq_join _ _
  rw [e, lit_slash, jn_stx]
end
theorem nms_yes {l : List Nat} {xr : PySem.Str} (hr : stx (rt l) = xr) (h : (xr == PySem.Str.ofString "") = true) {ys : List (PySem.Str × Tok)} (hy : ys.map (·.1) = (bk (sp l)).2.map stx) {d : Int} (hd : d = (((bk (sp l)).1 : Nat) : Int)) (t : Tok) :
    (List.replicate d.toNat (PySem.Str.ofString "..", t) ++ ys).map (·.1) = (nms l).map stx := by
  subst hr hd
  have h0 : rt l = [] := by
    rw [lit_empty, beq_stx] at h
    simpa using h
  rw [List.map_append, List.map_replicate, hy, Int.toNat_natCast, lit_dots]
  unfold nms
  rw [if_pos h0, List.map_append, List.map_replicate]
theorem nms_no {l : List Nat} {xr : PySem.Str} (hr : stx (rt l) = xr) (h : (xr == PySem.Str.ofString "") = false) {ys : List (PySem.Str × Tok)} (hy : ys.map (·.1) = (bk (sp l)).2.map stx) : ys.map (·.1) = (nms l).map stx := by
  subst hr
  have h0 : ¬ rt l = [] := by
    rw [lit_empty, beq_stx] at h
    simpa using h
  rw [hy]
  unfold nms
  rw [if_neg h0]
theorem jn_len : ∀ (ps : List (List Nat)), (∀ p ∈ ps, p.length ≤ 1000) → (jn ps).length ≤ ps.length * 1001
  | [], _ => Nat.zero_le _
  | [p], h => by
    have := h p (.head _)
    show p.length ≤ 1 * 1001
    omega
  | p :: q :: r, h => by
    have h1 := h p (.head _)
    have ih := jn_len (q :: r) fun x hx => h x (.tail _ hx)
    rw [jn_cons p (by simp), List.length_append, List.length_cons]
    simp only [List.length_cons] at ih ⊢
    omega
theorem app_stx (a b : List Nat) : stx a ++ stx b = stx (a ++ b) := by
  refine PySem.Str.ext' ?_
  rw [PySem.Str.cps_append]
  simp [stx]
theorem whole_yes {l : List Nat} {xr y : PySem.Str} (hr : stx (rt l) = xr) (hy : stx (jn (nms l)) = y) (h : (xr ++ y != PySem.Str.ofString "") = true) : xr ++ y = stx (nrm l) := by
  subst hr hy
  rw [app_stx] at h ⊢
  rw [lit_empty, bne, beq_stx] at h
  have hw : ¬ whole l = [] := by
    have : rt l ++ jn (nms l) = whole l := rfl
    rw [this] at h
    simpa using h
  unfold nrm
  rw [if_neg hw]
  rfl
theorem whole_no {l : List Nat} {xr y : PySem.Str} (hr : stx (rt l) = xr) (hy : stx (jn (nms l)) = y) (h : (xr ++ y != PySem.Str.ofString "") = false) : PySem.Str.ofString "." = stx (nrm l) := by
  subst hr hy
  rw [app_stx] at h
  rw [lit_empty, bne, beq_stx] at h
  have hw : whole l = [] := by
    have : rt l ++ jn (nms l) = whole l := rfl
    rw [this] at h
    simpa using h
  unfold nrm
  rw [if_pos hw, lit_dot]
theorem nrm_of_empty {l : List Nat} {x : PySem.Str} (hx : stx l = x) (h : (x == PySem.Str.ofString "") = true) : PySem.Str.ofString "." = stx (nrm l) := by
  subst hx
  rw [lit_empty, beq_stx] at h
  have : l = [] := by simpa using h
  subst this
  rw [lit_dot]
  exact congrArg stx (by decide)
end Mine
end

section
open PySem PySem.W PyProof.Rows PySem.Spec PySem.Calls PySem.Builtin
namespace Mine
set_option maxRecDepth 100000
section
variable {g : Heap} {L : Addr} {s : Shared} {h : Heap} {tk : Nat} {m : PySem.Str → Option Value} {I nA D nB l' : Addr} {it o' oA : Obj} {nn nb : Nat} {ys zs lv : List (PySem.Str × Tok)} {news : List (Addr × Obj)} {cs r : List (List Nat)} {x : PySem.Str} {tx td : Tok} {d : Int}
theorem SJ.keep (F : Fr g L h m) (N : News g L h ((I, it) :: (nA, W.listOf (strValues ys).toArray nn) :: (D, seqO (strValues lv)) :: news)) (hne : ∀ p ∈ (nA, W.listOf (strValues ys).toArray nn) :: (D, seqO (strValues lv)) :: news, p.1 ≠ I)
    (e1 : m (PySem.Str.ofString "text") = some (.str x tx)) (e2 : m (PySem.Str.ofString "pieces") = some (.ref D)) (e3 : m (PySem.Str.ofString "names") = some (.ref nA)) (e4 : m (PySem.Str.ofString "debt") = some (.int d td))
    (hd : d = (((bk r).1 : Nat) : Int)) (hy : ys.map (·.1) = (bk r).2.map stx) : UnrEnd g L s I it (SJ cs x tx D lv news r) { s with heap := h, toks := tk } :=
  UnrEnd.intro F N _ (fun _ hp => hp) hne ⟨nA, nn, ys, d, td, rfl, e1, e2, e3, e4, hd, hy⟩
theorem SJ.fresh (F : Fr g L h m) (N : News g L h ((nB, W.listOf (strValues zs).toArray nb) :: (l', o') :: (I, it) :: (nA, oA) :: (D, seqO (strValues lv)) :: news)) (hB : I < nB) (hne : ∀ p ∈ (nA, oA) :: (D, seqO (strValues lv)) :: news, p.1 ≠ I)
    (e1 : m (PySem.Str.ofString "text") = some (.str x tx)) (e2 : m (PySem.Str.ofString "pieces") = some (.ref D)) (e3 : m (PySem.Str.ofString "names") = some (.ref nB)) (e4 : m (PySem.Str.ofString "debt") = some (.int d td))
    (hd : d = (((bk r).1 : Nat) : Int)) (hy : zs.map (·.1) = (bk r).2.map stx) : UnrEnd g L s I it (SJ cs x tx D lv news r) { s with heap := h, toks := tk } := by
  refine UnrEnd.intro F N ((nB, W.listOf (strValues zs).toArray nb) :: (D, seqO (strValues lv)) :: news) (fun p hp => ?_) (fun p hp => ?_) ⟨nB, nb, zs, d, td, rfl, e1, e2, e3, e4, hd, hy⟩
  · simp only [List.mem_cons] at hp ⊢
    rcases hp with h | h | h | h
    · exact .inr (.inr (.inl h))
    · exact .inl h
    · exact .inr (.inr (.inr (.inr (.inl h))))
    · exact .inr (.inr (.inr (.inr (.inr h))))
  · rcases List.mem_cons.mp hp with rfl | hp
    · exact Nat.ne_of_gt hB
    · exact hne p (.tail _ hp)
end
section
variable {c : List Nat} {y : PySem.Str} {rest : List (List Nat)} {d : Int} {ys : List (PySem.Str × Tok)}
theorem bkA (hy : stx c = y) (h : (y == PySem.Str.ofString "..") = true) : bk (c :: rest) = ((bk rest).1 + 1, (bk rest).2) := by
  subst hy
  rw [lit_dots, beq_stx] at h
  have hc : c = [46, 46] := by simpa using h
  show (if c = [46, 46] then _ else _) = _
  rw [if_pos hc]
theorem bkB (hy : stx c = y) (h : (y == PySem.Str.ofString "..") = false) (h2 : (y != PySem.Str.ofString "") = false ∨ (y != PySem.Str.ofString ".") = false) : bk (c :: rest) = bk rest := by
  subst hy
  rw [lit_dots, beq_stx] at h
  rw [lit_empty, lit_dot, bne, bne, beq_stx, beq_stx] at h2
  have hc : ¬ c = [46, 46] := by simpa using h
  have h3 : c = [] ∨ c = [46] := by
    rcases h2 with h2 | h2
    · exact .inl (by simpa using h2)
    · exact .inr (by simpa using h2)
  show (if c = [46, 46] then _ else if c = [] ∨ c = [46] then _ else _) = _
  rw [if_neg hc, if_pos h3]
theorem bkC (hy : stx c = y) (h : (y == PySem.Str.ofString "..") = false) (h2 : (y != PySem.Str.ofString "") = true) (h3 : (y != PySem.Str.ofString ".") = true) :
    bk (c :: rest) = if (bk rest).1 = 0 then (0, c :: (bk rest).2) else ((bk rest).1 - 1, (bk rest).2) := by
  subst hy
  rw [lit_dots, beq_stx] at h
  rw [lit_empty, bne, beq_stx] at h2
  rw [lit_dot, bne, beq_stx] at h3
  have hc : ¬ c = [46, 46] := by simpa using h
  have h4 : ¬ (c = [] ∨ c = [46]) := by
    rintro (e | e)
    · simp [e] at h2
    · simp [e] at h3
  show (if c = [46, 46] then _ else if c = [] ∨ c = [46] then _ else _) = _
  rw [if_neg hc, if_neg h4]
end
end Mine
end

section
open PySem PySem.W PyProof.Rows PySem.Spec PySem.Calls
namespace Mine
set_option maxRecDepth 100000
set_option maxHeartbeats 8000000
theorem says_straight (w : World) (l : List Nat) (t0 : Tok) (hl : l.length ≤ 200) : Says w 207 2 [.str (stx l) t0] (fun t => .str (stx (nrm l)) t) := by
  have hx' : (stx l).length ≤ 200 := by rw [stx_len]; exact hl
  have hsl := sp_len l
  have hbl := bk_len (sp l)
  have hr' : (stx (rt l)).length ≤ 2 := by
    rw [stx_len]
    rcases rt_cases l with e | e | e <;> rw [e] <;> decide
  have hj' : (stx (jn (nms l))).length ≤ 1000000 := by
    rw [stx_len]
    have h1 := jn_len (nms l) fun p hp => by have := nms_mem_len l p hp; omega
    have h2 := nms_len l
    omega
  generalize hx : stx l = x at hx'
  unfold Says
  k_with_none
  w_top off
  k_fill
  intro mean mg mb dp un gd cn cs a ccd cl outer A₀ base h₀ L m news s Q E B F X N T hk hd hu hret
  refine wpAny_call ?_
  k_dflt cell_enter
  (rename Fr _ _ _ _ => F1'); (replace F1' := frame1 F1' (by with_unfolding_all rfl)); (try dsimp only at F1')
  k_with "pyIter ref" => (
    (rename IsRange _ _ _ _ _ _ _ _ => hR)
    (rename Fr _ _ _ _ => hF)
    (rename News _ _ _ _ => hN)
    (rename List (PySem.Str × Tok) => lv)
    (rename List.map _ _ = Txt.split _ _ => hsp)
    (have hsp' : lv.map (·.1) = (sp l).map stx := by (rw [hsp, lit_slash, ← hx, split_stx]))
    (have hlen : lv.length ≤ 100000 := by (have := congrArg List.length hsp'; simp only [List.length_map] at this; omega))
    (with_unfolding_all refine SJ.iter (cs := sp l) (x := x) (tx := t0) hN hF hR (by rfl) hsp' hlen (by rfl) (by rfl) (by rfl) (by rfl) ?g4 ?g5)
    (case' g4 => (intro i k I it nA nn ys d td u t h tk c y tp rest hk0 hk1 hp hy9 hd9 hys hq9 hne F₁ N₁; have hyl : ys.length ≤ 1000 := by (
      have e9 := congrArg List.length hys
      have e8 := bk_len rest
      obtain ⟨q9, hq8⟩ := hq9
      have e7 := congrArg List.length hq8
      simp only [List.length_map, List.length_append, List.length_cons] at e9 e7
      omega)))
    (case' g5 => (intro nA nn ys d td u h tk hd9 hys F₁ N₁; have hyl : ys.length ≤ 1000 := by (
      have e9 := congrArg List.length hys
      simp only [List.length_map] at e9
      omega))))
  k_with "subscriptTail Name Name ref int" => (
    (rename (_ : Option Value) = some (Value.str _ _) => hp)
    (with_unfolding_all refine item_known (by assumption) (by k_mem) rfl rfl (by assumption) (by omega) hp ?_))
  k_with "binaryOp Add ref ref" => (first
    | (refine add_texts (l1 := [(y, tp)]) (l2 := ys) (by k_asm) (by k_asm) (by k_mem) (by k_mem) rfl rfl rfl rfl (by simp only [List.length_cons, List.length_nil]; omega) ?_; intro nB h' F' N' l1; (try k_lt l1))
    | (refine add_texts (l1 := List.replicate d.toNat (PySem.Str.ofString "..", _)) (l2 := ys) (by k_asm) (by k_asm) (by k_mem) (by k_mem) rfl rfl rfl rfl (by simp only [List.length_replicate]; omega) ?_; intro nB h' F' N' l1; (try k_lt l1)))
  k_with "binaryOp Mult ref int" => (refine mul_text (p := (PySem.Str.ofString "..", _)) (by k_asm) (by k_asm) (by k_mem) rfl rfl (by omega) (by omega) ?_; intro nC h' F' N' l1; (try k_lt l1))
  k_with "call ref" => (
    refine' Says.use ?kC ?k1 ?k2 ?k3 ?k4 ?k5 ?kK ?kd ?ku ?_
    (case kC => (rw [← hx]; exact says_root _ l _ (by omega)))
    (case k1 => k_asm); (case k2 => k_asm); (case k3 => k_asm); (case k4 => k_asm); (case k5 => k_asm); (case kK => first | exact rfl | assumption); (case kd => ktr_room); (case ku => ktr_units)
    k_whole
    intro t9 h9 tk9 F9 N9
    (try dsimp only)
    generalize hxr : stx (rt l) = xr at hr' ⊢
    (try k_fold))
  k_with "call builtin:str.join" => (
    refine join_s (ns := nms l) (by k_asm) (by k_mem) rfl rfl ?hl (fun p hp => by have := nms_mem_len l p hp; omega) (by have := nms_len l; omega) ?_
    (case hl => first | exact nms_yes hxr (by assumption) hys hd9 _ | exact nms_no hxr (by assumption) hys)
    intro yj tj kj hyj
    rw [hyj] at hj')
  k_steps
  all_goals first
    | exact cb_retS (Q := Q) hret (nrm_of_empty hx (by assumption)) (by k_asm) (by first | k_asm | (refine' cb_drop ?cbN ?cbS; (case cbN => assumption); (case cbS => kcj_all)))
    | exact cb_retS (Q := Q) hret (whole_yes hxr hyj (by assumption)) (by k_asm) (by first | k_asm | (refine' cb_drop ?cbN ?cbS; (case cbN => assumption); (case cbS => kcj_all)))
    | exact cb_retS (Q := Q) hret (whole_no hxr hyj (by assumption)) (by k_asm) (by first | k_asm | (refine' cb_drop ?cbN ?cbS; (case cbN => assumption); (case cbS => kcj_all)))
    | (have hb9 := bkA (rest := rest) hy9 (by assumption); with_unfolding_all refine SJ.keep (by k_asm) (by k_asm) hne (by rfl) (by rfl) (by rfl) (by rfl) (by rw [hb9]; omega) (by rw [hb9]; exact hys))
    | (have hb9 := bkB (rest := rest) hy9 (by assumption) (by first | exact .inl (by assumption) | exact .inr (by assumption)); with_unfolding_all refine SJ.keep (by k_asm) (by k_asm) hne (by rfl) (by rfl) (by rfl) (by rfl) (by rw [hb9]; exact hd9) (by rw [hb9]; exact hys))
    | (have hb9 := bkC (rest := rest) hy9 (by assumption) (by assumption) (by assumption); rw [if_neg (by omega)] at hb9; with_unfolding_all refine SJ.keep (by k_asm) (by k_asm) hne (by rfl) (by rfl) (by rfl) (by rfl) (by rw [hb9]; omega) (by rw [hb9]; exact hys))
    | skip
  · have hb9 := bkC (rest := rest) hy9 (by assumption) (by assumption) (by assumption)
    rw [if_pos (by omega)] at hb9
    with_unfolding_all refine SJ.fresh (by k_asm) (by k_asm) (by refine ltN ?_; omega) hne (by rfl) (by rfl) (by rfl) (by rfl) ?_ ?_
    · simp only [hb9]; omega
    · simp only [hb9, List.map_cons, List.cons_append, List.nil_append, hys, hy9]
end Mine
end

section
open PySem PySem.W PyProof.Rows PySem.Spec PySem.Calls
namespace Mine
set_option maxRecDepth 100000
set_option maxHeartbeats 8000000
def twinI (k : Int) (l : List Nat) : List Nat := if k = 0 then nm l else if k = 1 then nrm l else if k = 2 then ext l else rt l
theorem twI0 {k : Int} (l : List Nat) (h : k = 0) : stx (nm l) = stx (twinI k l) := by unfold twinI; rw [if_pos h]
theorem twI1 {k : Int} (l : List Nat) (h0 : k ≠ 0) (h : k = 1) : stx (nrm l) = stx (twinI k l) := by unfold twinI; rw [if_neg h0, if_pos h]
theorem twI2 {k : Int} (l : List Nat) (h0 : k ≠ 0) (h1 : k ≠ 1) (h : k = 2) : stx (ext l) = stx (twinI k l) := by unfold twinI; rw [if_neg h0, if_neg h1, if_pos h]
theorem twI3 {k : Int} (l : List Nat) (h0 : k ≠ 0) (h1 : k ≠ 1) (h : k ≠ 2) : stx (rt l) = stx (twinI k l) := by unfold twinI; rw [if_neg h0, if_neg h1, if_neg h]
theorem says_twin (w : World) (k : Int) (tk0 : Tok) (l : List Nat) (t0 : Tok) (hl : l.length ≤ 200) : Says w 221 3 [.int k tk0, .str (stx l) t0] (fun t => .str (stx (twinI k l)) t) := by
  have hname := fun t0 => says_name w l t0 (by omega)
  have hroot := fun t0 => says_root w l t0 (by omega)
  have hend := fun t0 => says_ending w l t0 (by omega)
  have hstr := fun t0 => says_straight w l t0 hl
  generalize hx : stx l = x at hname hroot hend hstr
  unfold Says
  k_with_none
  w_top off
  k_fill
  intro mean mg mb dp un gd cn cs a ccd cl outer A₀ base h₀ L m news s Q E B F X N T hk hd hu hret
  refine wpAny_call ?_
  k_dflt cell_enter
  k_with "call ref" => k_dflt (
       refine' Says.use ?kC ?k1 ?k2 ?k3 ?k4 ?k5 ?kK ?kd ?ku ?_
       (case kC => first | exact hname _ | exact hstr _ | exact hend _ | exact hroot _)
       (case k1 => k_asm); (case k2 => k_asm); (case k3 => k_asm); (case k4 => k_asm); (case k5 => k_asm); (case kK => first | exact rfl | assumption); (case kd => ktr_room); (case ku => ktr_units)
       k_whole
       intro t9 h9 tk9 F9 N9
       (try dsimp only)
       (try k_fold))
  k_steps
  all_goals first
    | exact cb_retS (Q := Q) hret (twI0 l (by omega)) (by k_asm) (by k_asm)
    | exact cb_retS (Q := Q) hret (twI1 l (by omega) (by omega)) (by k_asm) (by k_asm)
    | exact cb_retS (Q := Q) hret (twI2 l (by omega) (by omega) (by omega)) (by k_asm) (by k_asm)
    | exact cb_retS (Q := Q) hret (twI3 l (by omega) (by omega) (by omega)) (by k_asm) (by k_asm)
end Mine
end

section
open PySem PySem.W PyProof.Rows PySem.Spec PySem.Calls
namespace Mine
set_option maxRecDepth 100000
abbrev tupO (vs : List Value) : Obj := { cls := .type "tuple", data := .seq vs.toArray }
/-- a call that hands back a new tuple -/
abbrev SaysT (w : World) (f : Addr) (dep : Nat) (vs : List Value) (R : List Value → Prop) : Prop :=
  ∀ (mean : ExcName → Option Value) (mg mb : PySem.Str → Option Value) (dp un : Nat) (gd : Option (List Code)) (cn : PySem.Str) (cs : Scope) (a : Addr) (ccd : Value) (cl : List (PySem.Str × Addr)) (outer : List Env) (A₀ : Around) (base h₀ : Heap) (L : Addr) (m : PySem.Str → Option Value) (news : List (Addr × Obj)) (s : Shared) (Q E : Value → Shared → Prop),
    Below A₀ base outer h₀ → Fr h₀ L s.heap m → (Mine.hd.heap_39 w.params).In h₀ → News h₀ L s.heap news → Tp mean mg mb h₀ → cs.kind = .function → dp + dep < recursionLimit → un + 8 * dep < cLine →
    (∀ (us : List Value) (b : Addr) (h' : Heap) (tk' : Nat), R us → Fr h₀ L h' m → News h₀ L h' ((b, tupO us) :: news) → (∀ p ∈ news, p.1 < b) → Q (.ref b) { s with heap := h', toks := tk' }) →
    wpAny (model PySem.Challenge.rw_ab6013_01.row.prog w) (ktrTop dp un gd cn cs L a ccd cl outer) (call (.ref f) vs) Q E s
theorem SaysT.use {w : World} {f : Addr} {dep : Nat} {vs : List Value} {R : List Value → Prop} (C : SaysT w f dep vs R) {mean : ExcName → Option Value} {mg mb : PySem.Str → Option Value} {dp un : Nat} {gd : Option (List Code)} {cn : PySem.Str} {cs : Scope} {a : Addr} {ccd : Value} {cl : List (PySem.Str × Addr)} {outer : List Env} {A₀ : Around} {base h₀ : Heap} {L : Addr} {m : PySem.Str → Option Value} {news : List (Addr × Obj)} {s : Shared} {Q E : Value → Shared → Prop}
    (B : Below A₀ base outer h₀) (F : Fr h₀ L s.heap m) (X : (Mine.hd.heap_39 w.params).In h₀) (N : News h₀ L s.heap news) (T : Tp mean mg mb h₀) (hk : cs.kind = .function) (hd : dp + dep < recursionLimit) (hu : un + 8 * dep < cLine)
    (ret : ∀ (us : List Value) (b : Addr) (h' : Heap) (tk' : Nat), R us → Fr h₀ L h' m → News h₀ L h' ((b, tupO us) :: news) → (∀ p ∈ news, p.1 < b) → Q (.ref b) { s with heap := h', toks := tk' }) :
    wpAny (model PySem.Challenge.rw_ab6013_01.row.prog w) (ktrTop dp un gd cn cs L a ccd cl outer) (call (.ref f) vs) Q E s :=
  C mean mg mb dp un gd cn cs a ccd cl outer A₀ base h₀ L m news s Q E B F X N T hk hd hu ret
theorem cb_retBy {h₀ h' : Heap} {L : Addr} {m : PySem.Str → Option Value} {news : List (Addr × Obj)} {s : Shared} {Q : Value → Shared → Prop} {t : Tok} {tk' : Nat} {x y : Array UInt8} (hret : ∀ (t : Tok) (h' : Heap) (tk' : Nat), Fr h₀ L h' m → News h₀ L h' news → Q (.bytes x t) { s with heap := h', toks := tk' }) (e : y = x) (F : Fr h₀ L h' m) (N : News h₀ L h' news) : Q (.bytes y t) { s with heap := h', toks := tk' } := by
  subst e
  exact hret t h' tk' F N
section
variable {prog : Program} {w : World} {A : Around} {E : Value → Shared → Prop} {s : Shared} {value slice : PySem.Expr} {b : Array UInt8} {t : Tok} {h₀ : Heap} {L : Addr} {m : PySem.Str → Option Value} {news : List (Addr × Obj)} {l u : Value} {lo hi : Option Int} {Q : Value → Shared → Prop}
theorem slice_b (hF : Fr h₀ L s.heap m) (hN : News h₀ L s.heap news) (hl : IsPart l lo) (hu : IsPart u hi) (hz : b.size ≤ 100000)
    (h : ∀ h' t' k, Fr h₀ L h' m → News h₀ L h' news → Q (.bytes (KBy.picked b lo hi) t') { s with heap := h', toks := k })
    (hs : subscripted slice false (.bytes b t) (.ref s.heap.objs.size) = operate [.ref s.heap.objs.size, .bytes b t] (getItem (.bytes b t) (.ref s.heap.objs.size)) := by with_unfolding_all rfl)
    (ht : ∀ r, letTemporaryGo value (.bytes b t) r = pure () := by intro _; with_unfolding_all rfl) :
    wpAny (model prog w) A (subscriptTail value slice (.bytes b t) (.ref s.heap.objs.size)) Q E { s with heap := s.heap.push { cls := .type "slice", data := .fields #[l, u, .none] } } :=
  KBc.slice_K hF hN rfl hl hu (by rw [KBw.ints_length]; omega) (fun h' t' k F N _ => h h' t' k F N) hs ht
theorem truthy_b {Q : Bool → Shared → Prop} (hz : b.size ≤ 2000000) (h : Q (decide (0 < b.size)) { s with toks := s.toks + 1 + 1 }) : wpAny (model prog w) A (truthy (.bytes b t)) Q E s :=
  KBw.truthy_K rfl (by rw [KBw.ints_length]; omega) (by rw [KBw.ints_length]; exact h)
end
end Mine
end

section
open PySem PySem.W PyProof.Rows PySem.Spec PySem.Calls PySem.Builtin PySem.Builtin.Str
namespace Mine
set_option maxRecDepth 100000
/-- what splitroot leaves behind the root -/
def tl (l : List Nat) : List Nat := l.drop (rt l).length
theorem lead_cons_eq {c : Nat} (l : List Nat) : lead c (c :: l) = lead c l + 1 := by
  show (if c = c then lead c l + 1 else 0) = _
  rw [if_pos rfl]
theorem lead_cons_ne {c x : Nat} (h : ¬ x = c) (l : List Nat) : lead c (x :: l) = 0 := by
  show (if x = c then lead c l + 1 else 0) = _
  rw [if_neg h]
theorem root1 {l : List Nat} (h : ¬ l.take 1 = [47]) : rt l = [] := by
  cases l with
  | nil => rfl
  | cons c r =>
    have hc : ¬ c = 47 := by simpa using h
    unfold rt
    rw [lead_cons_ne hc, if_pos rfl]
theorem root2 {l : List Nat} (h : l.take 1 = [47]) (h2 : ¬ (l.take 2).drop 1 = [47]) : rt l = [47] := by
  cases l with
  | nil => simp at h
  | cons c r =>
    have hc : c = 47 := by simpa using h
    subst hc
    have h3 : lead 47 r = 0 := by
      cases r with
      | nil => rfl
      | cons d q =>
        have hd : ¬ d = 47 := by simpa using h2
        exact lead_cons_ne hd q
    unfold rt
    rw [lead_cons_eq, h3, if_neg (by decide), if_neg (by decide)]
theorem root3 {l : List Nat} (h : l.take 1 = [47]) (h2 : (l.take 2).drop 1 = [47]) (h3 : (l.take 3).drop 2 = [47]) : rt l = [47] := by
  cases l with
  | nil => simp at h
  | cons c r =>
    have hc : c = 47 := by simpa using h
    subst hc
    cases r with
    | nil => simp at h2
    | cons d q =>
      have hd : d = 47 := by simpa using h2
      subst hd
      cases q with
      | nil => simp at h3
      | cons e p =>
        have he : e = 47 := by simpa using h3
        subst he
        unfold rt
        rw [lead_cons_eq, lead_cons_eq, lead_cons_eq, if_neg (by omega), if_neg (by omega)]
theorem root4 {l : List Nat} (h : l.take 1 = [47]) (h2 : (l.take 2).drop 1 = [47]) (h3 : ¬ (l.take 3).drop 2 = [47]) : rt l = [47, 47] ∧ l.take 2 = [47, 47] := by
  cases l with
  | nil => simp at h
  | cons c r =>
    have hc : c = 47 := by simpa using h
    subst hc
    cases r with
    | nil => simp at h2
    | cons d q =>
      have hd : d = 47 := by simpa using h2
      subst hd
      have h4 : lead 47 q = 0 := by
        cases q with
        | nil => rfl
        | cons e p =>
          have he : ¬ e = 47 := by simpa using h3
          exact lead_cons_ne he p
      refine ⟨?_, by simp⟩
      unfold rt
      rw [lead_cons_eq, lead_cons_eq, h4, if_neg (by decide), if_pos rfl]
/-! the three looks, at a text and at bytes -/
section
variable {l : List Nat}
theorem s_to (l : List Nat) (k : Nat) (i : Int) (h : i = (k : Int)) : Txt.slice (stx l) none (some i) = stx (l.take k) := by rw [h, slice_stx, sl_to]
theorem s_from (l : List Nat) (k : Nat) (i : Int) (h : i = (k : Int)) : Txt.slice (stx l) (some i) none = stx (l.drop k) := by rw [h, slice_stx, sl_from]
theorem s_mid (l : List Nat) (j k : Nat) (i i' : Int) (h : i = (j : Int)) (h' : i' = (k : Int)) (hjk : j ≤ k) : Txt.slice (stx l) (some i) (some i') = stx ((l.take k).drop j) := by rw [h, h', slice_stx, sl_mid _ _ _ hjk]
theorem b_to (l : List Nat) (k : Nat) (i : Int) (h : i = (k : Int)) : KBy.picked (byt l) none (some i) = byt (l.take k) := by rw [h, picked_byt, sl_to]
theorem b_from (l : List Nat) (k : Nat) (i : Int) (h : i = (k : Int)) : KBy.picked (byt l) (some i) none = byt (l.drop k) := by rw [h, picked_byt, sl_from]
theorem b_mid (l : List Nat) (j k : Nat) (i i' : Int) (h : i = (j : Int)) (h' : i' = (k : Int)) (hjk : j ≤ k) : KBy.picked (byt l) (some i) (some i') = byt ((l.take k).drop j) := by rw [h, h', picked_byt, sl_mid _ _ _ hjk]
theorem oct_take (h : Oct l) (k : Nat) : Oct (l.take k) := fun c hc => h c (List.mem_of_mem_take hc)
theorem oct_drop (h : Oct l) (k : Nat) : Oct (l.drop k) := fun c hc => h c (List.mem_of_mem_drop hc)
theorem oct_47 : Oct [47] := by intro c hc; simp at hc; omega
theorem beq_byl {a b : List Nat} (ha : Oct a) (hb : Oct b) : ((byt a).toList == (byt b).toList) = decide (a = b) := by
  by_cases h : a = b
  · subst h; simp
  · have : ¬ (byt a).toList = (byt b).toList := fun e => h (byt_inj ha hb (Array.ext' e))
    rw [decide_eq_false h]
    exact beq_eq_false_iff_ne.mpr this
theorem byt_47 : (#[47] : Array UInt8) = byt [47] := rfl
theorem ls1 {x : PySem.Str} (hx : stx l = x) : (Txt.slice x none (some 1) != PySem.Str.ofString "/") = !decide (l.take 1 = [47]) := by
  subst hx; rw [s_to l 1 1 rfl, lit_slash, bne, beq_stx]
theorem ls2 {x : PySem.Str} (hx : stx l = x) : (Txt.slice x (some 1) (some 2) != PySem.Str.ofString "/") = !decide ((l.take 2).drop 1 = [47]) := by
  subst hx; rw [s_mid l 1 2 1 2 rfl rfl (by decide), lit_slash, bne, beq_stx]
theorem ls3 {x : PySem.Str} (hx : stx l = x) : (Txt.slice x (some 2) (some 3) == PySem.Str.ofString "/") = decide ((l.take 3).drop 2 = [47]) := by
  subst hx; rw [s_mid l 2 3 2 3 rfl rfl (by decide), lit_slash, beq_stx]
theorem lb1 {x : Array UInt8} (hx : byt l = x) (ho : Oct l) : ((KBy.picked x none (some 1)).toList != (#[47] : Array UInt8).toList) = !decide (l.take 1 = [47]) := by
  subst hx; rw [b_to l 1 1 rfl, byt_47, bne, beq_byl (oct_take ho 1) oct_47]
theorem lb2 {x : Array UInt8} (hx : byt l = x) (ho : Oct l) : ((KBy.picked x (some 1) (some 2)).toList != (#[47] : Array UInt8).toList) = !decide ((l.take 2).drop 1 = [47]) := by
  subst hx; rw [b_mid l 1 2 1 2 rfl rfl (by decide), byt_47, bne, beq_byl (oct_drop (oct_take ho 2) 1) oct_47]
theorem lb3 {x : Array UInt8} (hx : byt l = x) (ho : Oct l) : ((KBy.picked x (some 2) (some 3)).toList == (#[47] : Array UInt8).toList) = decide ((l.take 3).drop 2 = [47]) := by
  subst hx; rw [b_mid l 2 3 2 3 rfl rfl (by decide), byt_47, beq_byl (oct_drop (oct_take ho 3) 2) oct_47]
end
section
variable {l : List Nat} {x : PySem.Str} {a b c : Tok}
theorem sroot_s1 (hx : stx l = x) (h1 : (Txt.slice x none (some 1) != PySem.Str.ofString "/") = true) :
    [Value.str (PySem.Str.ofString "") a, Value.str (PySem.Str.ofString "") b, Value.str x c] = [.str (stx []) a, .str (stx (rt l)) b, .str (stx (tl l)) c] := by
  rw [ls1 hx] at h1
  have e := root1 (l := l) (by simpa using h1)
  unfold tl
  rw [e, lit_empty, ← hx]; rfl
theorem sroot_s2 (hx : stx l = x) (h1 : (Txt.slice x none (some 1) != PySem.Str.ofString "/") = false) (h2 : (Txt.slice x (some 1) (some 2) != PySem.Str.ofString "/") = true) :
    [Value.str (PySem.Str.ofString "") a, Value.str (PySem.Str.ofString "/") b, Value.str (Txt.slice x (some 1) none) c] = [.str (stx []) a, .str (stx (rt l)) b, .str (stx (tl l)) c] := by
  rw [ls1 hx] at h1
  rw [ls2 hx] at h2
  have e := root2 (l := l) (by simpa using h1) (by simpa using h2)
  subst hx
  unfold tl
  rw [e, lit_empty, lit_slash, s_from l 1 1 rfl]; rfl
theorem sroot_s3 (hx : stx l = x) (h1 : (Txt.slice x none (some 1) != PySem.Str.ofString "/") = false) (h2 : (Txt.slice x (some 1) (some 2) != PySem.Str.ofString "/") = false) (h3 : (Txt.slice x (some 2) (some 3) == PySem.Str.ofString "/") = true) :
    [Value.str (PySem.Str.ofString "") a, Value.str (PySem.Str.ofString "/") b, Value.str (Txt.slice x (some 1) none) c] = [.str (stx []) a, .str (stx (rt l)) b, .str (stx (tl l)) c] := by
  rw [ls1 hx] at h1
  rw [ls2 hx] at h2
  rw [ls3 hx] at h3
  have e := root3 (l := l) (by simpa using h1) (by simpa using h2) (by simpa using h3)
  subst hx
  unfold tl
  rw [e, lit_empty, lit_slash, s_from l 1 1 rfl]; rfl
theorem sroot_s4 (hx : stx l = x) (h1 : (Txt.slice x none (some 1) != PySem.Str.ofString "/") = false) (h2 : (Txt.slice x (some 1) (some 2) != PySem.Str.ofString "/") = false) (h3 : (Txt.slice x (some 2) (some 3) == PySem.Str.ofString "/") = false) :
    [Value.str (PySem.Str.ofString "") a, Value.str (Txt.slice x none (some 2)) b, Value.str (Txt.slice x (some 2) none) c] = [.str (stx []) a, .str (stx (rt l)) b, .str (stx (tl l)) c] := by
  rw [ls1 hx] at h1
  rw [ls2 hx] at h2
  rw [ls3 hx] at h3
  have e := root4 (l := l) (by simpa using h1) (by simpa using h2) (by simpa using h3)
  subst hx
  unfold tl
  rw [e.1, lit_empty, s_to l 2 2 rfl, s_from l 2 2 rfl, e.2]; rfl
end
section
variable {l : List Nat} {x : Array UInt8} {a b c : Tok}
theorem sroot_b1 (hx : byt l = x) (ho : Oct l) (h1 : ((KBy.picked x none (some 1)).toList != (#[47] : Array UInt8).toList) = true) :
    [Value.bytes #[] a, Value.bytes #[] b, Value.bytes x c] = [.bytes (byt []) a, .bytes (byt (rt l)) b, .bytes (byt (tl l)) c] := by
  rw [lb1 hx ho] at h1
  have e := root1 (l := l) (by simpa using h1)
  unfold tl
  rw [e, ← hx]; rfl
theorem sroot_b2 (hx : byt l = x) (ho : Oct l) (h1 : ((KBy.picked x none (some 1)).toList != (#[47] : Array UInt8).toList) = false) (h2 : ((KBy.picked x (some 1) (some 2)).toList != (#[47] : Array UInt8).toList) = true) :
    [Value.bytes #[] a, Value.bytes #[47] b, Value.bytes (KBy.picked x (some 1) none) c] = [.bytes (byt []) a, .bytes (byt (rt l)) b, .bytes (byt (tl l)) c] := by
  rw [lb1 hx ho] at h1
  rw [lb2 hx ho] at h2
  have e := root2 (l := l) (by simpa using h1) (by simpa using h2)
  subst hx
  unfold tl
  rw [e, b_from l 1 1 rfl]; rfl
theorem sroot_b3 (hx : byt l = x) (ho : Oct l) (h1 : ((KBy.picked x none (some 1)).toList != (#[47] : Array UInt8).toList) = false) (h2 : ((KBy.picked x (some 1) (some 2)).toList != (#[47] : Array UInt8).toList) = false) (h3 : ((KBy.picked x (some 2) (some 3)).toList == (#[47] : Array UInt8).toList) = true) :
    [Value.bytes #[] a, Value.bytes #[47] b, Value.bytes (KBy.picked x (some 1) none) c] = [.bytes (byt []) a, .bytes (byt (rt l)) b, .bytes (byt (tl l)) c] := by
  rw [lb1 hx ho] at h1
  rw [lb2 hx ho] at h2
  rw [lb3 hx ho] at h3
  have e := root3 (l := l) (by simpa using h1) (by simpa using h2) (by simpa using h3)
  subst hx
  unfold tl
  rw [e, b_from l 1 1 rfl]; rfl
theorem sroot_b4 (hx : byt l = x) (ho : Oct l) (h1 : ((KBy.picked x none (some 1)).toList != (#[47] : Array UInt8).toList) = false) (h2 : ((KBy.picked x (some 1) (some 2)).toList != (#[47] : Array UInt8).toList) = false) (h3 : ((KBy.picked x (some 2) (some 3)).toList == (#[47] : Array UInt8).toList) = false) :
    [Value.bytes #[] a, Value.bytes (KBy.picked x none (some 2)) b, Value.bytes (KBy.picked x (some 2) none) c] = [.bytes (byt []) a, .bytes (byt (rt l)) b, .bytes (byt (tl l)) c] := by
  rw [lb1 hx ho] at h1
  rw [lb2 hx ho] at h2
  rw [lb3 hx ho] at h3
  have e := root4 (l := l) (by simpa using h1) (by simpa using h2) (by simpa using h3)
  subst hx
  unfold tl
  rw [e.1, b_to l 2 2 rfl, b_from l 2 2 rfl, e.2]; rfl
end
theorem base_finb {l : List Nat} {x : Array UInt8} (hx : byt l = x) (ho : Oct l) : KBy.picked x (some (brf x 47 + 1)) none = byt (nm l) := by
  subst hx
  have h := brf_byt 47 (by decide) l ho
  have e : brf (byt l) 47 = lastI 47 l := h
  rw [e]
  unfold lastI nm
  cases lastIx 47 l with
  | none =>
    have : ((-1 : Int) + 1) = ((0 : Nat) : Int) := rfl
    rw [this, picked_byt, sl_from]; rfl
  | some k =>
    have : ((k : Int) + 1) = ((k + 1 : Nat) : Int) := by omega
    rw [this, picked_byt, sl_from]
end Mine
end

section
open PySem PySem.W PyProof.Rows PySem.Spec PySem.Calls
namespace Mine
local macro_rules | `(tactic| walk_at "getMethod bytes") => `(tactic| (k_here; first | refine meth_rfind ?_ | refine meth_split ?_ | refine meth_join ?_))
local macro_rules | `(tactic| walk_at "call builtin:bytes.rfind") => `(tactic| (k_here; refine call_rfind ?_; intro _ _))
local macro_rules | `(tactic| walk_at "subscriptTail") => `(tactic| (k_here; (with_reducible show wpAny _ _ (subscriptTail _ (Expr.Slice _ _ none _) (Value.bytes _ _) (Value.ref _)) _ _ _); (with_reducible rename Fr _ _ _ _ => F'); (with_reducible rename News _ _ _ _ => N'); (refine slice_b (s := ⟨_, _, _, _, _⟩) F' N' (by constructor) (by constructor) (by first | assumption | omega) ?_); intro _ _ _ _ _))
local macro_rules | `(tactic| walk_at "truthy bytes") => `(tactic| (k_here; refine truthy_b (by first | assumption | omega) ?_))
set_option maxRecDepth 100000
set_option maxHeartbeats 8000000
theorem says_G_base_b (w : World) (l : List Nat) (t0 : Tok) (hl : l.length ≤ 200) (ho : Oct l) : Says w 139 2 [.bytes (byt l) t0] (fun t => .bytes (byt (nm l)) t) := by
  have hx' : (byt l).size ≤ 100000 := by (first | rw [stx_len] | rw [byt_len]); omega
  generalize hx : byt l = x at hx'
  unfold Says
  k_with_none
  w_top off
  k_fill
  intro mean mg mb dp un gd cn cs a ccd cl outer A₀ base h₀ L m news s Q E B F X N T hk hd hu hret
  refine wpAny_call ?_
  k_dflt cell_enter
  (rename Fr _ _ _ _ => F1'); (replace F1' := frame1 F1' (by with_unfolding_all rfl)); (try dsimp only at F1')
  k_with "call ref" => (
    refine' Says.use ?kC ?k1 ?k2 ?k3 ?k4 ?k5 ?kK ?kd ?ku ?_
    (case kC => first | exact says_fspath_s _ _ _ | exact says_sep_s _ _ _ | exact says_fspath_b _ _ _ | exact says_sep_b _ _ _)
    (case k1 => k_asm); (case k2 => k_asm); (case k3 => k_asm); (case k4 => k_asm); (case k5 => k_asm); (case kK => first | exact rfl | assumption); (case kd => ktr_room); (case ku => ktr_units)
    k_whole
    intro t9 h9 tk9 F9 N9
    (try dsimp only)
    (try k_fold))
  k_steps
  all_goals exact cb_retBy (Q := Q) hret (base_finb hx ho) (by k_asm) (by k_asm)
end Mine
end

section
open PySem PySem.W PyProof.Rows PySem.Spec PySem.Calls PySem.Builtin PySem.Builtin.Str
namespace Mine
set_option maxRecDepth 100000
/-! _splitext -/
theorem one_at (l : List Nat) (j c : Nat) : (l.take (j + 1)).drop j = [c] ↔ l[j]? = some c := by
  rw [List.drop_take, Nat.add_sub_cancel_left]
  by_cases h : j < l.length
  · rw [List.drop_eq_getElem_cons h, List.take_succ_cons, List.take_zero, List.getElem?_eq_getElem h]
    simp
  · rw [List.drop_of_length_le (by omega), List.getElem?_eq_none (by omega)]
    simp
theorem lastI_cases (c : Nat) (l : List Nat) : (lastI c l = -1 ∧ c ∉ l) ∨ ∃ k : Nat, lastI c l = (k : Int) ∧ l[k]? = some c ∧ c ∉ l.drop (k + 1) ∧ lastIx c l = some k := by
  unfold lastI
  rcases lastIx_cases c l with ⟨h, e⟩ | ⟨a, b, h, hb, e⟩
  · exact .inl ⟨by rw [e], h⟩
  · refine .inr ⟨a.length, by rw [e], by rw [h]; simp, ?_, e⟩
    have : List.drop (a.length + 1) l = b := by
      rw [h, List.drop_append, Nat.add_sub_cancel_left]
      simp
    rw [this]; exact hb
theorem nm_as_drop (l : List Nat) : nm l = l.drop (lastI 47 l + 1).toNat := by
  unfold nm lastI
  cases lastIx 47 l with
  | none => rfl
  | some k =>
    have : ((k : Int) + 1).toNat = k + 1 := by omega
    rw [this]
theorem lead_lt {c : Nat} : ∀ {l : List Nat} {k : Nat}, k < l.length → l[k]? ≠ some c → lead c l ≤ k
  | [], _, h, _ => absurd h (Nat.not_lt_zero _)
  | x :: r, 0, _, h => by
    have hx : ¬ x = c := by simpa using h
    rw [lead_cons_ne hx]; exact Nat.le_refl _
  | x :: r, k + 1, h1, h2 => by
    by_cases hx : x = c
    · subst hx
      rw [lead_cons_eq]
      have := lead_lt (c := x) (l := r) (k := k) (by simpa using h1) (by simpa using h2)
      omega
    · rw [lead_cons_ne hx]; omega
theorem dot_none {l : List Nat} (h : ¬ lastI 47 l < lastI 46 l) : ext l = [] := by
  unfold ext extn
  have : 46 ∉ nm l := by
    rw [nm_as_drop]
    rcases lastI_cases 46 l with ⟨e, hn⟩ | ⟨d, e, _, hn, _⟩
    · exact fun hm => hn (List.mem_of_mem_drop hm)
    · intro hm
      refine hn ?_
      have e2 : l.drop (lastI 47 l + 1).toNat = (l.drop (d + 1)).drop ((lastI 47 l + 1).toNat - (d + 1)) := by
        rw [List.drop_drop]
        congr 1
        omega
      rw [e2] at hm
      exact List.mem_of_mem_drop hm
  rw [lastIx_none this]
theorem dot_some {l : List Nat} (h : lastI 47 l < lastI 46 l) : ∃ d : Nat, lastI 46 l = (d : Int) ∧ (lastI 47 l + 1).toNat ≤ d ∧ d < l.length ∧ lastIx 46 (nm l) = some (d - (lastI 47 l + 1).toNat) ∧ (nm l).drop (d - (lastI 47 l + 1).toNat) = l.drop d := by
  have h7 : -1 ≤ lastI 47 l := by
    rcases lastI_cases 47 l with ⟨e, _⟩ | ⟨k, e, _⟩ <;> omega
  rcases lastI_cases 46 l with ⟨e, hn⟩ | ⟨d, e, hat, hn, _⟩
  · omega
  · have hle : (lastI 47 l + 1).toNat ≤ d := by omega
    have hd : d < l.length := by
      rcases Nat.lt_or_ge d l.length with h1 | h1
      · exact h1
      · rw [List.getElem?_eq_none h1] at hat; cases hat
    refine ⟨d, e, hle, hd, ?_, ?_⟩
    · rw [nm_as_drop]
      refine lastIx_at ?_ ?_
      · rw [List.getElem?_drop, show (lastI 47 l + 1).toNat + (d - (lastI 47 l + 1).toNat) = d from by omega]
        exact hat
      · rw [List.drop_drop, show (lastI 47 l + 1).toNat + (d - (lastI 47 l + 1).toNat + 1) = d + 1 from by omega]
        exact hn
    · rw [nm_as_drop, List.drop_drop, show (lastI 47 l + 1).toNat + (d - (lastI 47 l + 1).toNat) = d from by omega]
theorem ext_yes {l : List Nat} (h : lastI 47 l < lastI 46 l) {f : Int} (h1 : lastI 47 l + 1 ≤ f) (h2 : f < lastI 46 l) (h3 : ¬ l[f.toNat]? = some 46) : ext l = l.drop (lastI 46 l).toNat := by
  obtain ⟨d, e, hle, hd, hi, hdr⟩ := dot_some h
  have h7 : -1 ≤ lastI 47 l := by
    rcases lastI_cases 47 l with ⟨e, _⟩ | ⟨k, e, _⟩ <;> omega
  have hl : lead 46 (nm l) ≤ f.toNat - (lastI 47 l + 1).toNat := by
    refine lead_lt ?_ ?_
    · rw [nm_as_drop, List.length_drop]; omega
    · rw [nm_as_drop, List.getElem?_drop, show (lastI 47 l + 1).toNat + (f.toNat - (lastI 47 l + 1).toNat) = f.toNat from by omega]
      exact h3
  unfold ext extn
  rw [hi]
  dsimp only
  rw [if_pos (by omega), hdr, e]
  simp
theorem ext_no {l : List Nat} (h : lastI 47 l < lastI 46 l) (h1 : ∀ j : Int, lastI 47 l + 1 ≤ j → j < lastI 46 l → l[j.toNat]? = some 46) : ext l = [] := by
  obtain ⟨d, e, hle, hd, hi, hdr⟩ := dot_some h
  have h7 : -1 ≤ lastI 47 l := by
    rcases lastI_cases 47 l with ⟨e, _⟩ | ⟨k, e, _⟩ <;> omega
  have hl : d - (lastI 47 l + 1).toNat ≤ lead 46 (nm l) := by
    refine lead_ge fun j hj => ?_
    rw [nm_as_drop, List.getElem?_drop]
    have := h1 (((lastI 47 l + 1).toNat + j : Nat) : Int) (by omega) (by omega)
    rw [Int.toNat_natCast] at this
    exact this
  unfold ext extn
  rw [hi]
  dsimp only
  rw [if_neg (by omega)]
section
variable {l : List Nat} {x : PySem.Str} {v : Value} {t : Tok}
theorem rfs (hx : stx l = x) : Txt.rfind x (PySem.Str.ofString "/") = lastI 47 l := by rw [lit_slash, ← hx, rfind_stx]
theorem rfd (hx : stx l = x) : Txt.rfind x (PySem.Str.ofString ".") = lastI 46 l := by rw [lit_dot, ← hx, rfind_stx]
theorem look_s (hx : stx l = x) {j : Int} (h0 : 0 ≤ j) : (Txt.slice x (some j) (some (j + 1)) != PySem.Str.ofString ".") = !decide (l[j.toNat]? = some 46) := by
  subst hx
  have e : ((j.toNat : Nat) : Int) = j := by omega
  rw [s_mid l j.toNat (j.toNat + 1) j (j + 1) (by omega) (by omega) (by omega), lit_dot, bne, beq_stx]
  simp only [one_at]
theorem spl_s1 (hx : stx l = x) (h : Txt.rfind x (PySem.Str.ofString "/") < Txt.rfind x (PySem.Str.ofString ".")) {f : Int} (h1 : Txt.rfind x (PySem.Str.ofString "/") + 1 ≤ f) (h2 : f < Txt.rfind x (PySem.Str.ofString "."))
    (h3 : (Txt.slice x (some f) (some (f + 1)) != PySem.Str.ofString ".") = true) : [v, Value.str (Txt.slice x (some (Txt.rfind x (PySem.Str.ofString "."))) none) t] = [v, .str (stx (ext l)) t] := by
  have h7 : -1 ≤ lastI 47 l := by
    rcases lastI_cases 47 l with ⟨e, _⟩ | ⟨k, e, _⟩ <;> omega
  rw [rfs hx] at h h1
  rw [rfd hx] at h h2 ⊢
  rw [look_s hx (by omega)] at h3
  rw [ext_yes h h1 h2 (by simpa using h3)]
  subst hx
  rw [s_from l (lastI 46 l).toNat _ (by omega)]
theorem spl_s2 (hx : stx l = x) (h : Txt.rfind x (PySem.Str.ofString "/") < Txt.rfind x (PySem.Str.ofString ".")) {f : Int} (h2 : ¬ f < Txt.rfind x (PySem.Str.ofString "."))
    (h3 : ∀ j, Txt.rfind x (PySem.Str.ofString "/") + 1 ≤ j → j < f → (Txt.slice x (some j) (some (j + 1)) != PySem.Str.ofString ".") = false) : [v, Value.str (Txt.slice x none (some 0)) t] = [v, .str (stx (ext l)) t] := by
  have h7 : -1 ≤ lastI 47 l := by
    rcases lastI_cases 47 l with ⟨e, _⟩ | ⟨k, e, _⟩ <;> omega
  rw [rfs hx] at h h3
  rw [rfd hx] at h h2
  rw [ext_no h fun j j1 j2 => by
    have := h3 j j1 (by omega)
    rw [look_s hx (by omega)] at this
    simpa using this]
  subst hx
  rw [s_to l 0 0 rfl, List.take_zero]
theorem spl_s3 (hx : stx l = x) (h : ¬ Txt.rfind x (PySem.Str.ofString "/") < Txt.rfind x (PySem.Str.ofString ".")) : [v, Value.str (Txt.slice x none (some 0)) t] = [v, .str (stx (ext l)) t] := by
  rw [rfs hx, rfd hx] at h
  rw [dot_none h]
  subst hx
  rw [s_to l 0 0 rfl, List.take_zero]
end
section
variable {l : List Nat} {x : Array UInt8} {v : Value} {t : Tok}
theorem brs (hx : byt l = x) (ho : Oct l) : brf x 47 = lastI 47 l := by rw [← hx]; exact brf_byt 47 (by decide) l ho
theorem brd (hx : byt l = x) (ho : Oct l) : brf x 46 = lastI 46 l := by rw [← hx]; exact brf_byt 46 (by decide) l ho
theorem oct_46 : Oct [46] := by intro c hc; simp at hc; omega
theorem byt_46 : (#[46] : Array UInt8) = byt [46] := rfl
theorem look_b (hx : byt l = x) (ho : Oct l) {j : Int} (h0 : 0 ≤ j) : ((KBy.picked x (some j) (some (j + 1))).toList != (#[46] : Array UInt8).toList) = !decide (l[j.toNat]? = some 46) := by
  subst hx
  rw [b_mid l j.toNat (j.toNat + 1) j (j + 1) (by omega) (by omega) (by omega), byt_46, bne, beq_byl (oct_drop (oct_take ho _) _) oct_46]
  simp only [one_at]
theorem spl_b1 (hx : byt l = x) (ho : Oct l) (h : brf x 47 < brf x 46) {f : Int} (h1 : brf x 47 + 1 ≤ f) (h2 : f < brf x 46)
    (h3 : ((KBy.picked x (some f) (some (f + 1))).toList != (#[46] : Array UInt8).toList) = true) : [v, Value.bytes (KBy.picked x (some (brf x 46)) none) t] = [v, .bytes (byt (ext l)) t] := by
  have h7 : -1 ≤ lastI 47 l := by
    rcases lastI_cases 47 l with ⟨e, _⟩ | ⟨k, e, _⟩ <;> omega
  rw [brs hx ho] at h h1
  rw [brd hx ho] at h h2 ⊢
  rw [look_b hx ho (by omega)] at h3
  rw [ext_yes h h1 h2 (by simpa using h3)]
  subst hx
  rw [b_from l (lastI 46 l).toNat _ (by omega)]
theorem spl_b2 (hx : byt l = x) (ho : Oct l) (h : brf x 47 < brf x 46) {f : Int} (h2 : ¬ f < brf x 46)
    (h3 : ∀ j, brf x 47 + 1 ≤ j → j < f → ((KBy.picked x (some j) (some (j + 1))).toList != (#[46] : Array UInt8).toList) = false) : [v, Value.bytes (KBy.picked x none (some 0)) t] = [v, .bytes (byt (ext l)) t] := by
  have h7 : -1 ≤ lastI 47 l := by
    rcases lastI_cases 47 l with ⟨e, _⟩ | ⟨k, e, _⟩ <;> omega
  rw [brs hx ho] at h h3
  rw [brd hx ho] at h h2
  rw [ext_no h fun j j1 j2 => by
    have := h3 j j1 (by omega)
    rw [look_b hx ho (by omega)] at this
    simpa using this]
  subst hx
  rw [b_to l 0 0 rfl, List.take_zero]
theorem spl_b3 (hx : byt l = x) (ho : Oct l) (h : ¬ brf x 47 < brf x 46) : [v, Value.bytes (KBy.picked x none (some 0)) t] = [v, .bytes (byt (ext l)) t] := by
  rw [brs hx ho, brd hx ho] at h
  rw [dot_none h]
  subst hx
  rw [b_to l 0 0 rfl, List.take_zero]
end
end Mine
end

section
open PySem PySem.W PyProof.Rows PySem.Spec PySem.Calls PySem.Builtin
namespace Mine
set_option maxRecDepth 100000
def StepN (h₀ : Heap) (L : Addr) (s : Shared) (i : PySem.Str) (m : PySem.Str → Option Value) (news : List (Addr × Obj)) (k : Int) (c : Prop) (s₃ : Shared) : Prop :=
  ∃ h' tk m' t, s₃ = { s with heap := h', toks := tk } ∧ Fr h₀ L h' m' ∧ News h₀ L h' news ∧ m' i = some (.int (k + 1) t) ∧ (∀ y, y ≠ i → m' y = m y) ∧ c
def StepR (h₀ : Heap) (L : Addr) (s : Shared) (i : PySem.Str) (m : PySem.Str → Option Value) (news : List (Addr × Obj)) (k : Int) (c : Prop) (Q : Flow → Shared → Prop) (f : Flow) (s₃ : Shared) : Prop :=
  match f with
  | .ret v => Q (.ret v) s₃
  | .brk => Q .next s₃
  | _ => StepN h₀ L s i m news k c s₃
theorem StepN.intro {h₀ h' : Heap} {L : Addr} {s : Shared} {i : PySem.Str} {m m' : PySem.Str → Option Value} {news : List (Addr × Obj)} {k : Int} {c : Prop} {tk : Nat} {t : Tok}
    (F : Fr h₀ L h' m') (N : News h₀ L h' news) (h1 : m' i = some (.int (k + 1) t)) (h2 : ∀ y, y ≠ i → m' y = m y) (h3 : c) : StepN h₀ L s i m news k c { s with heap := h', toks := tk } := ⟨h', tk, m', t, rfl, F, N, h1, h2, h3⟩
section
variable {prog : Program} {w : World} {A : Around} {E : Value → Shared → Prop} {Q : Flow → Shared → Prop} {s : Shared} {env : Env} {h₀ : Heap} {L : Addr}
/-- a while that counts one name up to K and may hand back on its way; c: what a turn that goes on has seen -/
theorem While_ret {i : PySem.Str} {test : PySem.Expr} {body : List Stmt} {pos : Pos} {m : PySem.Str → Option Value} {news : List (Addr × Obj)} {k₀ K : Int} {t₀ : Tok} (c : Int → Prop)
    (F : Fr h₀ L s.heap m) (N : News h₀ L s.heap news) (hmi : m i = some (.int k₀ t₀)) (hk₀ : k₀ ≤ K)
    (turn : ∀ k t h₁ tk₁, k₀ ≤ k → k ≤ K → (∀ j, k₀ ≤ j → j < k → c j) → Fr h₀ L h₁ (fun y => if y = i then some (.int k t) else m y) → News h₀ L h₁ news →
      wpAny (model prog w) A (isTrue test env (eval test env)) (fun b s₂ =>
        if b = true then wpAny (model prog w) A (execs body env) (StepR h₀ L s i m news k (k < K ∧ c k) Q) E s₂ else Q .next s₂) E { s with heap := h₁, toks := tk₁ })
    (hE : PassesOwn (model prog w) A env E := by passes_own) :
    wpAny (model prog w) A (exec (.While test body [] pos) env) Q E s := by
  refine While_inv2 (fun n m₁ news₁ => ∃ k t, news₁ = news ∧ m₁ i = some (.int k t) ∧ (∀ y, y ≠ i → m₁ y = m y) ∧ k₀ ≤ k ∧ k ≤ K ∧ (∀ j, k₀ ≤ j → j < k → c j) ∧ n = (K - k).toNat) F N (n₀ := (K - k₀).toNat)
    ⟨k₀, t₀, rfl, hmi, fun _ _ => rfl, Int.le_refl _, hk₀, fun j h1 h2 => absurd h2 (by omega), rfl⟩ ?_ hE
  rintro n m₁ news₁ h₁ tk₁ F₁ N₁ ⟨k, t, hn, h1, h2, h3, h4, h5, h6⟩
  subst hn h6
  have e : m₁ = fun y => if y = i then some (.int k t) else m y := by
    funext y
    split
    · rename_i e; rw [e, h1]
    · rename_i e; exact h2 y e
  rw [e] at F₁
  refine wpAny_mono (turn k t h₁ tk₁ h3 h4 h5 F₁ N₁) (fun b s₂ p => ?_) fun _ _ x => x
  cases b with
  | false => simpa using p
  | true =>
    simp only [if_true] at p ⊢
    refine wpAny_mono p (fun f s₃ q => ?_) fun _ _ x => x
    have fin : StepN h₀ L s i m news₁ k (k < K ∧ c k) s₃ → WhileStep2 h₀ L s (fun n m₁ nw => ∃ k t, nw = news₁ ∧ m₁ i = some (.int k t) ∧ (∀ y, y ≠ i → m₁ y = m y) ∧ k₀ ≤ k ∧ k ≤ K ∧ (∀ j, k₀ ≤ j → j < k → c j) ∧ n = (K - k).toNat) Q (K - k).toNat .next s₃ := by
      rintro ⟨h', tk, m', t', e, F', N', g1, g2, g3, g4⟩
      refine ⟨h', tk, m', news₁, (K - (k + 1)).toNat, e, F', N', by omega, k + 1, t', rfl, g1, g2, by omega, by omega, fun j j1 j2 => ?_, rfl⟩
      by_cases hj : j < k
      · exact h5 j j1 hj
      · have : j = k := by omega
        rw [this]; exact g4
    cases f with
    | ret v => exact q
    | brk => exact q
    | next => exact fin q
    | cont => exact fin q
end
end Mine
end

section
open PySem PySem.W PyProof.Rows PySem.Spec PySem.Calls
namespace Mine
local macro_rules | `(tactic| walk_at "getMethod bytes") => `(tactic| (k_here; first | refine meth_rfind ?_ | refine meth_split ?_ | refine meth_join ?_))
local macro_rules | `(tactic| walk_at "call builtin:bytes.rfind") => `(tactic| (k_here; refine call_rfind ?_; intro _ _))
local macro_rules | `(tactic| walk_at "subscriptTail") => `(tactic| (k_here; (with_reducible show wpAny _ _ (subscriptTail _ (Expr.Slice _ _ none _) (Value.bytes _ _) (Value.ref _)) _ _ _); (with_reducible rename Fr _ _ _ _ => F'); (with_reducible rename News _ _ _ _ => N'); (refine slice_b (s := ⟨_, _, _, _, _⟩) F' N' (by constructor) (by constructor) (by first | assumption | omega) ?_); intro _ _ _ _ _))
local macro_rules | `(tactic| walk_at "truthy bytes") => `(tactic| (k_here; refine truthy_b (by first | assumption | omega) ?_))
set_option maxRecDepth 100000
set_option maxHeartbeats 8000000
theorem says_split_s (w : World) (l : List Nat) (t0 t1 t2 : Tok) (hl : l.length ≤ 200) : SaysT w 108 1 [.str (stx l) t0, .str (PySem.Str.ofString "/") t1, .none, .str (PySem.Str.ofString ".") t2] (fun us => ∃ v t, us = [v, .str (stx (ext l)) t]) := by
  have hx' : (stx l).length ≤ 200 := by (first | rw [stx_len] | rw [byt_len]); omega
  generalize hx : stx l = x at hx'
  unfold SaysT
  k_with_none
  w_top off
  k_fill
  intro mean mg mb dp un gd cn cs a ccd cl outer A₀ base h₀ L m news s Q E B F X N T hk hd hu hret
  refine wpAny_call ?_
  k_dflt cell_enter
  k_with "exec While Compare cons nil" => ((rename Fr _ _ _ _ => F'); (rename News _ _ _ _ => N'); refine While_ret (i := PySem.Str.ofString "filenameIndex") (K := Txt.rfind x (PySem.Str.ofString ".")) (fun j => (Txt.slice x (some j) (some (j + 1)) != PySem.Str.ofString ".") = false) F' N' (by rfl) (by omega) ?_ (by passes_own))
  k_with "StepR" => (dsimp only [StepR])
  k_steps
  all_goals first
    | exact hret _ _ _ _ ⟨_, _, spl_s1 hx (by assumption) (by assumption) (by assumption) (by assumption)⟩ (by k_asm) (by k_asm) (by assumption)
    | exact hret _ _ _ _ ⟨_, _, spl_s2 hx (by assumption) (by assumption) (by assumption)⟩ (by k_asm) (by k_asm) (by assumption)
    | exact hret _ _ _ _ ⟨_, _, spl_s3 hx (by assumption)⟩ (by k_asm) (by k_asm) (by assumption)
    | (with_unfolding_all refine StepN.intro (by k_asm) (by k_asm) (by rfl) (fun y hy => ?_) ⟨by assumption, by assumption⟩; simp only [if_neg hy])
theorem says_ext_s (w : World) (l : List Nat) (t0 : Tok) (hl : l.length ≤ 200) : SaysT w 122 2 [.str (stx l) t0] (fun us => ∃ v t, us = [v, .str (stx (ext l)) t]) := by
  unfold SaysT
  k_with_none
  w_top off
  k_fill
  intro mean mg mb dp un gd cn cs a ccd cl outer A₀ base h₀ L m news s Q E B F X N T hk hd hu hret
  refine wpAny_call ?_
  k_dflt cell_enter
  (rename Fr _ _ _ _ => F1'); (replace F1' := frame1 F1' (by with_unfolding_all rfl)); (try dsimp only at F1')
  k_with "call ref" => (first
    | (refine' Says.use ?kC ?k1 ?k2 ?k3 ?k4 ?k5 ?kK ?kd ?ku ?_
       (case kC => exact says_fspath_s _ _ _)
       (case k1 => k_asm); (case k2 => k_asm); (case k3 => k_asm); (case k4 => k_asm); (case k5 => k_asm); (case kK => first | exact rfl | assumption); (case kd => ktr_room); (case ku => ktr_units)
       k_whole
       intro t9 h9 tk9 F9 N9
       (try dsimp only)
       (try k_fold))
    | (refine' SaysT.use ?kC ?k1 ?k2 ?k3 ?k4 ?k5 ?kK ?kd ?ku ?_
       (case kC => exact says_split_s w l _ _ _ hl)
       (case k1 => k_asm); (case k2 => k_asm); (case k3 => k_asm); (case k4 => k_asm); (case k5 => k_asm); (case kK => first | exact rfl | assumption); (case kd => ktr_room); (case ku => ktr_units)
       k_whole
       intro us9 b9 h9 tk9 hus9 F9 N9 l9
       (try dsimp only)
       (try k_fold)))
  k_steps
  all_goals first
    | exact hret _ _ _ _ hus9 (by k_asm) (by k_asm) (by assumption)
end Mine
end

section
namespace Mine
/-! normpath: the pieces one by one, upon a stack; and that it is the walk from behind with a debt -/
def pop1 (abs : Bool) (S : List (List Nat)) : List (List Nat) :=
  if S = [] then (if abs then [] else [[46, 46]]) else if S.getLast? = some [46, 46] then S ++ [[46, 46]] else S.dropLast
def stp (abs : Bool) (S : List (List Nat)) (c : List Nat) : List (List Nat) :=
  if c = [] ∨ c = [46] then S else if c = [46, 46] then pop1 abs S else S ++ [c]
def pops (abs : Bool) : Nat → List (List Nat) → List (List Nat)
  | 0, S => S
  | n + 1, S => pops abs n (pop1 abs S)
theorem pop1_snoc {abs : Bool} {S : List (List Nat)} {c : List Nat} (h : ¬ c = [46, 46]) : pop1 abs (S ++ [c]) = S := by
  unfold pop1
  rw [if_neg (by simp), List.getLast?_concat, if_neg (by simpa using h), List.dropLast_concat]
theorem fold_stp (abs : Bool) : ∀ (cs S : List (List Nat)), cs.foldl (stp abs) S = pops abs (bk cs).1 S ++ (bk cs).2
  | [], S => by simp [bk, pops]
  | c :: r, S => by
    rw [List.foldl_cons, fold_stp abs r]
    by_cases h1 : c = [46, 46]
    · have e : bk (c :: r) = ((bk r).1 + 1, (bk r).2) := by
        show (if c = [46, 46] then _ else _) = _
        rw [if_pos h1]
      have e2 : stp abs S c = pop1 abs S := by
        unfold stp
        rw [if_neg (by rw [h1]; simp), if_pos h1]
      rw [e, e2]; rfl
    · by_cases h2 : c = [] ∨ c = [46]
      · have e : bk (c :: r) = bk r := by
          show (if c = [46, 46] then _ else if c = [] ∨ c = [46] then _ else _) = _
          rw [if_neg h1, if_pos h2]
        have e2 : stp abs S c = S := by
          unfold stp
          rw [if_pos h2]
        rw [e, e2]
      · have e : bk (c :: r) = if (bk r).1 = 0 then (0, c :: (bk r).2) else ((bk r).1 - 1, (bk r).2) := by
          show (if c = [46, 46] then _ else if c = [] ∨ c = [46] then _ else _) = _
          rw [if_neg h1, if_neg h2]
        have e2 : stp abs S c = S ++ [c] := by
          unfold stp
          rw [if_neg h2, if_neg h1]
        rw [e, e2]
        cases hd : (bk r).1 with
        | zero => simp [pops]
        | succ n =>
          simp only [Nat.add_one_ne_zero, if_false, Nat.add_sub_cancel, pops]
          rw [pop1_snoc h1]
theorem pops_abs : ∀ n : Nat, pops true n [] = []
  | 0 => rfl
  | n + 1 => by
    show pops true n (pop1 true []) = []
    have : pop1 true [] = [] := rfl
    rw [this, pops_abs n]
theorem pops_rel : ∀ n k : Nat, pops false n (List.replicate k [46, 46]) = List.replicate (k + n) [46, 46]
  | 0, _ => rfl
  | n + 1, k => by
    show pops false n (pop1 false (List.replicate k [46, 46])) = _
    have e : pop1 false (List.replicate k ([46, 46] : List Nat)) = List.replicate (k + 1) [46, 46] := by
      unfold pop1
      cases k with
      | zero => rfl
      | succ k =>
        rw [if_neg (by simp [List.replicate_succ])]
        have h : (List.replicate (k + 1) ([46, 46] : List Nat)).getLast? = some [46, 46] := by
          rw [List.replicate_succ', List.getLast?_concat]
        rw [if_pos h, ← List.replicate_succ']
    rw [e, pops_rel n (k + 1)]
    congr 1
    omega
theorem tl_bk (l : List Nat) : bk (sp (tl l)) = bk (sp l) := by
  have hsplit : ∀ r, rt l = r → l.take r.length = r → l = r ++ tl l := by
    intro r h1 h2
    unfold tl
    rw [h1]
    conv => lhs; rw [← List.take_append_drop r.length l]
    rw [h2]
  rcases rt_cases l with e | e | e
  · unfold tl; rw [e]; rfl
  · have ht : l.take 1 = [47] := by
      refine Classical.byContradiction fun h => ?_
      have := root1 h
      rw [e] at this; cases this
    have h := hsplit [47] e ht
    have : bk (sp l) = bk (sp ([] ++ 47 :: tl l)) := by rw [← show l = [] ++ 47 :: tl l from h]
    rw [this, sp_append _ (by simp), bk_nil]
  · have ht : l.take 2 = [47, 47] := by
      by_cases h1 : l.take 1 = [47]
      · by_cases h2 : (l.take 2).drop 1 = [47]
        · by_cases h3 : (l.take 3).drop 2 = [47]
          · have := root3 h1 h2 h3; rw [e] at this; cases this
          · exact (root4 h1 h2 h3).2
        · have := root2 h1 h2; rw [e] at this; cases this
      · have := root1 h1; rw [e] at this; cases this
    have h := hsplit [47, 47] e ht
    have : bk (sp l) = bk (sp ([] ++ 47 :: ([] ++ 47 :: tl l))) := by rw [← show l = [] ++ 47 :: ([] ++ 47 :: tl l) from h]
    rw [this, sp_append _ (by simp), bk_nil, sp_append _ (by simp), bk_nil]
theorem fold_nms (l : List Nat) : (sp (tl l)).foldl (stp (decide (rt l ≠ []))) [] = nms l := by
  rw [fold_stp, tl_bk]
  unfold nms
  by_cases h : rt l = []
  · have e : decide (rt l ≠ []) = false := by simp [h]
    rw [e, if_pos h]
    have := pops_rel (bk (sp l)).1 0
    rw [List.replicate_zero] at this
    rw [this, Nat.zero_add]
  · have e : decide (rt l ≠ []) = true := by simp [h]
    rw [e, if_neg h, pops_abs]; rfl
theorem stp_skip {abs : Bool} {S : List (List Nat)} {c : List Nat} (h : c = [] ∨ c = [46]) : stp abs S c = S := by unfold stp; rw [if_pos h]
theorem stp_push {abs : Bool} {S : List (List Nat)} {c : List Nat} (h : ¬ (c = [] ∨ c = [46])) (h2 : ¬ c = [46, 46]) : stp abs S c = S ++ [c] := by unfold stp; rw [if_neg h, if_neg h2]
theorem stp_dd0 (c : List Nat) (h : c = [46, 46]) : stp false [] c = [] ++ [c] := by subst h; rfl
theorem stp_dd0' (c : List Nat) (h : c = [46, 46]) : stp true [] c = [] := by subst h; rfl
theorem stp_dd1 {abs : Bool} {S : List (List Nat)} {c d : List Nat} (h : c = [46, 46]) (hd : d = [46, 46]) : stp abs (S ++ [d]) c = (S ++ [d]) ++ [c] := by
  subst h hd
  unfold stp
  rw [if_neg (by simp), if_pos rfl]
  unfold pop1
  rw [if_neg (by simp), List.getLast?_concat, if_pos rfl]
theorem stp_dd2 {abs : Bool} {S : List (List Nat)} {c d : List Nat} (h : c = [46, 46]) (hd : ¬ d = [46, 46]) : stp abs (S ++ [d]) c = S := by
  subst h
  unfold stp
  rw [if_neg (by simp), if_pos rfl, pop1_snoc hd]
end Mine
end

section
open PySem PySem.W PyProof.Rows PySem.Spec PySem.Calls PySem.Builtin
namespace Mine
set_option maxRecDepth 100000
section
variable {prog : Program} {w : World} {A : Around} {E : Value → Shared → Prop} {s : Shared} {h₀ : Heap} {L : Addr} {m : PySem.Str → Option Value} {news news' : List (Addr × Obj)}
theorem truthy_nil {a : Addr} {n : Nat} {Q : Bool → Shared → Prop} (N : News h₀ L s.heap news) (hm : (a, W.listOf ([] : List Value).toArray n) ∈ news) (h : Q false { s with toks := s.toks + 1 + 1 }) : wpAny (model prog w) A (truthy (.ref a)) Q E s :=
  kgr_truthy N hm rfl rfl (by decide) h
theorem truthy_snoc {a : Addr} {n : Nat} {vs : List Value} {v : Value} {Q : Bool → Shared → Prop} (N : News h₀ L s.heap news) (hm : (a, W.listOf (vs ++ [v]).toArray n) ∈ news) (hz : vs.length ≤ 100000) (h : Q true { s with toks := s.toks + 1 + 1 }) : wpAny (model prog w) A (truthy (.ref a)) Q E s :=
  kgr_truthy N hm rfl rfl (by simp; omega) (by
    have e : (vs ++ [v]).isEmpty = false := by simp
    rw [e]; exact h)
theorem item_last {value slice : PySem.Expr} {D : Addr} {n : Nat} {vs : List Value} {v : Value} {u : Tok} {Q : Value → Shared → Prop} (N : News h₀ L s.heap news) (hm : (D, W.listOf (vs ++ [v]).toArray n) ∈ news) (h : Q v s)
    (hs : subscripted slice false (.ref D) (.int (-1) u) = operate [.ref D, .int (-1) u] (getItem (.ref D) (.int (-1) u)) := by with_unfolding_all rfl) :
    wpAny (model prog w) A (subscriptTail value slice (.ref D) (.int (-1) u)) Q E s :=
  have hl : s.heap.IsList D (vs ++ [v]).toArray := ⟨_, (N _ hm).1, rfl, n, rfl⟩
  tail_any hl.typeIs slot_list_getitem.lookup (wpAny_getItem_list_neg hl (by decide) (by simp; omega) (by decide) (by
    have : ((-1 : Int) + ((vs ++ [v]).toArray.size : Nat)).toNat = vs.length := by simp; omega
    rw [this]; simp) h) hs
theorem pop_last {D : Addr} {n : Nat} {vs : List Value} {v : Value} {Q : Value → Shared → Prop} (F : Fr h₀ L s.heap m) (N : News h₀ L s.heap news) (U : Upd D (W.listOf (vs ++ [v]).toArray n) (W.listOf vs.toArray (n + 1)) news news') (hz : vs.length ≤ 100000)
    (h : ∀ h', Fr h₀ L h' m → News h₀ L h' news' → Q v { s with heap := h' }) : wpAny (model prog w) A (call (.builtin "list.pop") [.ref D]) Q E s :=
  kl_pop F N (p := vs) (y := v) (kpa_last v vs) U (by rw [sizeLine_eq]; simp; omega) h
end
/-- what stands between the turns of normpath's loop -/
def NJ {β : Type} (vals : List (β × Tok) → List Value) (bear : List Nat → β) (xk : PySem.Str) (m₀ : PySem.Str → Option Value) (nA : Addr) (D : Addr × Obj) (rest : List (Addr × Obj)) (S : List (List Nat)) (m : PySem.Str → Option Value) (nx : List (Addr × Obj)) : Prop :=
  (∀ z, z ≠ xk → m z = m₀ z) ∧ ∃ (ys : List (β × Tok)) (nn : Nat), nx = (nA, W.listOf (vals ys).toArray nn) :: D :: rest ∧ ys.map (·.1) = S.map bear
section
variable {prog : Program} {w : World} {A : Around} {E : Value → Shared → Prop} {s : Shared} {env : Env} {h₀ : Heap} {xk : PySem.Str} {body : List Stmt} {Q : Flow → Shared → Prop}
theorem borneG {β : Type} {bear : List Nat → β} {mk : β → Tok → Value} {lv : List (β × Tok)} {cs : List (List Nat)} (h : lv.map (·.1) = cs.map bear) {k : Nat} {v : Value} (hv : (lv.map fun p => mk p.1 p.2)[k]? = some v) : ∃ c t, cs[k]? = some c ∧ v = mk (bear c) t := by
  rw [List.getElem?_map] at hv
  cases hk : lv[k]? with
  | none => rw [hk] at hv; cases hv
  | some p =>
    rw [hk] at hv
    have h1 : (lv.map (·.1))[k]? = (cs.map bear)[k]? := by rw [h]
    rw [List.getElem?_map, List.getElem?_map, hk] at h1
    cases hc : cs[k]? with
    | none => rw [hc] at h1; cases h1
    | some c =>
      rw [hc] at h1
      refine ⟨c, p.2, rfl, ?_⟩
      have e : p.1 = bear c := Option.some.inj h1
      rw [← e]
      exact (Option.some.inj hv).symm
theorem NJ.iter {β : Type} (vals : List (β × Tok) → List Value) (mk : β → Tok → Value) (hv : ∀ l, vals l = l.map fun p => mk p.1 p.2) (bear : List Nat → β) (st : List (List Nat) → List Nat → List (List Nat)) {nA D : Addr} {lv : List (β × Tok)} {nD : Nat} {rest : List (Addr × Obj)} {m₀ : PySem.Str → Option Value} {cs : List (List Nat)}
    (hN : News h₀ env.locals s.heap ((nA, W.listOf ([] : List Value).toArray 0) :: (D, { cls := .type "list", data := .seq (vals lv).toArray nD }) :: rest)) (hF : Fr h₀ env.locals s.heap m₀) (hh : A.handled = none) (hcs : lv.map (·.1) = cs.map bear)
    (Good : List Nat → Prop) (hgood : ∀ i, ∀ p ∈ (cs.take i).foldl st [], Good p)
    (turn : ∀ (I : Addr) (it : Obj) (nn : Nat) (ys : List (β × Tok)) (h : Heap) (tk : Nat) (c : List Nat) (y : β) (tp : Tok) (S : List (List Nat)), (∀ p ∈ S, Good p) → c ∈ cs → S.length ≤ cs.length → bear c = y → ys.map (·.1) = S.map bear →
      @Ne Nat I nA → (∀ p ∈ (nA, W.listOf (vals ys).toArray nn) :: (D, ({ cls := .type "list", data := .seq (vals lv).toArray nD } : Obj)) :: rest, p.1 ≠ I) →
      Fr h₀ env.locals h (fun z => if z = xk then some (mk y tp) else m₀ z) →
      News h₀ env.locals h ((I, it) :: (nA, W.listOf (vals ys).toArray nn) :: (D, { cls := .type "list", data := .seq (vals lv).toArray nD }) :: rest) →
      wpAny (model prog w) A (execs body env) (UnrPost h₀ env.locals { s with heap := h, toks := tk } I it (NJ vals bear xk m₀ nA (D, { cls := .type "list", data := .seq (vals lv).toArray nD }) rest (st S c)) Q) E { s with heap := h, toks := tk })
    (done : ∀ (nn : Nat) (ys : List (β × Tok)) (u : PySem.Str → Option Value) (h : Heap) (tk : Nat), ys.map (·.1) = (cs.foldl st []).map bear →
      Fr h₀ env.locals h (fun z => if z = xk then u z else m₀ z) → News h₀ env.locals h ((nA, W.listOf (vals ys).toArray nn) :: (D, { cls := .type "list", data := .seq (vals lv).toArray nD }) :: rest) → Q .next { s with heap := h, toks := tk })
    (hlen : ∀ i, ((cs.take i).foldl st []).length ≤ cs.length) :
    wpAny (model prog w) A (pyIter (.ref D)) (fun it s₂ => LoopAtV prog w A h₀ env xk body Q E it s₂) E s := by
  have hlv : lv.length = cs.length := by
    have := congrArg List.length hcs
    simpa using this
  refine iter_own (vs := vals lv) (fun i m nx => NJ vals bear xk m₀ nA (D, { cls := .type "list", data := .seq (vals lv).toArray nD }) rest ((cs.take i).foldl st []) m nx) hh hF hN (.tail _ (.head _)) rfl rfl ?_ ?_ ?_
  · exact ⟨fun _ _ => rfl, [], 0, by rw [hv []]; rfl, by simp⟩
  · rintro i v I it m₁ news₁ h tk hvi ⟨hm, ys, nn, rfl, hys⟩ hc hne F₁ N₁
    rw [hv] at hvi
    obtain ⟨c, tp, hci, rfl⟩ := borneG hcs hvi
    have e : (fun y => if y = xk then some (mk (bear c) tp) else m₁ y) = fun z => if z = xk then some (mk (bear c) tp) else m₀ z := by
      funext z
      by_cases hz : z = xk
      · rw [if_pos hz, if_pos hz]
      · rw [if_neg hz, if_neg hz, hm z hz]
    rw [e] at F₁
    have hmem := List.mem_of_getElem? hci
    have hs : (cs.take (i + 1)).foldl st [] = st ((cs.take i).foldl st []) c := by
      rw [List.take_add_one, hci]; simp
    have := turn I it nn ys h tk c _ tp _ (hgood i) hmem (hlen i) rfl hys (fun e => hne _ (.head _) e.symm) hne F₁ N₁
    refine wpAny_mono this (fun f s₂ p => ?_) fun _ _ e => e
    have conv : UnrEnd h₀ env.locals { s with heap := h, toks := tk } I it (NJ vals bear xk m₀ nA (D, { cls := .type "list", data := .seq (vals lv).toArray nD }) rest (st ((cs.take i).foldl st []) c)) s₂ →
        UnrEnd h₀ env.locals { s with heap := h, toks := tk } I it (fun m' n' => (∀ p ∈ [(D, ({ cls := .type "list", data := .seq (vals lv).toArray nD } : Obj))], p ∈ n') ∧ NJ vals bear xk m₀ nA (D, { cls := .type "list", data := .seq (vals lv).toArray nD }) rest ((cs.take (i + 1)).foldl st []) m' n') s₂ := by
      rintro ⟨h', tk', m', n', e, F', N', o, j⟩
      refine ⟨h', tk', m', n', e, F', N', o, ⟨fun p hp => ?_, by rw [hs]; exact j⟩⟩
      obtain ⟨_, ys', nn', e', _⟩ := j
      rw [e', List.mem_singleton.mp hp]
      exact .tail _ (.head _)
    cases f with
    | ret v => exact p
    | brk => exact p
    | next => exact conv p
    | cont => exact conv p
  · rintro m₁ news₁ h tk ⟨hm, ys, nn, rfl, hys⟩ F₁ N₁
    have hl : (vals lv).length = cs.length := by rw [hv, List.length_map, hlv]
    rw [hl, List.take_length] at hys
    refine done nn ys m₁ h tk hys ?_ N₁
    have e : (fun z => if z = xk then m₁ z else m₀ z) = m₁ := by
      funext z
      by_cases hz : z = xk
      · rw [if_pos hz]
      · rw [if_neg hz, hm z hz]
    rw [e]; exact F₁
end
section
variable {β : Type} {vals : List (β × Tok) → List Value} {bear : List Nat → β} {xk : PySem.Str} {m₀ m : PySem.Str → Option Value} {nA I : Addr} {D : Addr × Obj} {rest : List (Addr × Obj)} {S : List (List Nat)} {h₀ h : Heap} {L : Addr} {s : Shared} {tk : Nat} {it : Obj} {ys : List (β × Tok)} {nn n1 : Nat}
theorem NJ.same (F : Fr h₀ L h m) (N : News h₀ L h ((I, it) :: (nA, W.listOf (vals ys).toArray nn) :: D :: rest)) (hne : ∀ p ∈ (nA, W.listOf (vals ys).toArray n1) :: D :: rest, p.1 ≠ I) (hm : ∀ z, z ≠ xk → m z = m₀ z) (hy : ys.map (·.1) = S.map bear) :
    UnrEnd h₀ L s I it (NJ vals bear xk m₀ nA D rest S) { s with heap := h, toks := tk } :=
  UnrEnd.intro F N _ (fun _ hp => hp) (fun p hp => by
    rcases List.mem_cons.mp hp with rfl | hp
    · exact hne (nA, W.listOf (vals ys).toArray n1) (.head _)
    · exact hne p (.tail _ hp)) ⟨hm, ys, nn, rfl, hy⟩
end
end Mine
namespace Mine
section
variable {β : Type} {vals : List (β × Tok) → List Value} {bear : List Nat → β} {xk : PySem.Str} {m₀ m : PySem.Str → Option Value} {nA I : Addr} {D : Addr × Obj} {rest : List (Addr × Obj)} {S : List (List Nat)} {h₀ h : Heap} {L : Addr} {s : Shared} {tk : Nat} {it oA : Obj} {ys : List (β × Tok)} {nn : Nat} {arr : Array Value}
theorem NJ.made (F : Fr h₀ L h m) (N : News h₀ L h ((I, it) :: (nA, W.listOf arr nn) :: D :: rest)) (he : arr = (vals ys).toArray) (hne : ∀ p ∈ (nA, oA) :: D :: rest, p.1 ≠ I) (hm : ∀ z, z ≠ xk → m z = m₀ z) (hy : ys.map (·.1) = S.map bear) :
    UnrEnd h₀ L s I it (NJ vals bear xk m₀ nA D rest S) { s with heap := h, toks := tk } :=
  UnrEnd.intro F N _ (fun _ hp => hp) (fun p hp => by
    rcases List.mem_cons.mp hp with rfl | hp
    · exact hne (nA, oA) (.head _)
    · exact hne p (.tail _ hp)) ⟨hm, ys, nn, by rw [he], hy⟩
end
theorem allLt_mem {d : Addr} : ∀ {l : List (Addr × Obj)}, AllLt d l → ∀ p ∈ l, p.1 < d
  | [], _, _, h => nomatch h
  | q :: r, ⟨h1, h2⟩, p, h => by
    rcases List.mem_cons.mp h with rfl | h
    · exact h1
    · exact allLt_mem h2 p h
theorem ownOff_of {d : Addr} {l : List (Addr × Obj)} (h : AllLt d l) : OwnOff l [d] := fun p hp b hb => by
  rw [List.mem_singleton.mp hb]
  exact Nat.ne_of_lt (allLt_mem h p hp)
theorem stp_len (abs : Bool) (S : List (List Nat)) (c : List Nat) : (stp abs S c).length ≤ S.length + 1 := by
  unfold stp
  split
  · omega
  · split
    · unfold pop1
      split
      · split <;> simp
      · split
        · simp
        · rw [List.length_dropLast]; omega
    · simp
theorem fold_len (abs : Bool) : ∀ (cs S : List (List Nat)), (cs.foldl (stp abs) S).length ≤ S.length + cs.length
  | [], S => by simp
  | c :: r, S => by
    rw [List.foldl_cons]
    have h1 := fold_len abs r (stp abs S c)
    have h2 := stp_len abs S c
    simp only [List.length_cons]
    omega
theorem stp_mem (abs : Bool) (S : List (List Nat)) (c : List Nat) : ∀ p ∈ stp abs S c, p ∈ S ∨ p = c ∨ p = [46, 46] := by
  intro p hp
  unfold stp at hp
  split at hp
  · exact .inl hp
  · split at hp
    · unfold pop1 at hp
      split at hp
      · split at hp
        · cases hp
        · exact .inr (.inr (List.mem_singleton.mp hp))
      · split at hp
        · rcases List.mem_append.mp hp with hp | hp
          · exact .inl hp
          · exact .inr (.inr (List.mem_singleton.mp hp))
        · exact .inl ((List.dropLast_sublist S).subset hp)
    · rcases List.mem_append.mp hp with hp | hp
      · exact .inl hp
      · exact .inr (.inl (List.mem_singleton.mp hp))
theorem fold_mem (abs : Bool) : ∀ (cs S : List (List Nat)), ∀ p ∈ cs.foldl (stp abs) S, p ∈ S ∨ p ∈ cs ∨ p = [46, 46]
  | [], S, p, hp => .inl hp
  | c :: r, S, p, hp => by
    rw [List.foldl_cons] at hp
    rcases fold_mem abs r (stp abs S c) p hp with h | h | h
    · rcases stp_mem abs S c p h with h | h | h
      · exact .inl h
      · exact .inr (.inl (by rw [h]; exact .head _))
      · exact .inr (.inr h)
    · exact .inr (.inl (.tail _ h))
    · exact .inr (.inr h)
theorem fold_good (abs : Bool) {Good : List Nat → Prop} (cs : List (List Nat)) (h : ∀ p ∈ cs, Good p) (h2 : Good [46, 46]) (i : Nat) : ∀ p ∈ (cs.take i).foldl (stp abs) [], Good p := by
  intro p hp
  rcases fold_mem abs _ _ p hp with h1 | h1 | h1
  · cases h1
  · exact h p (List.mem_of_mem_take h1)
  · rw [h1]; exact h2
theorem fold_take (abs : Bool) (cs : List (List Nat)) (i : Nat) : ((cs.take i).foldl (stp abs) []).length ≤ cs.length := by
  have h := fold_len abs (cs.take i) []
  have h2 : (cs.take i).length ≤ cs.length := by rw [List.length_take]; omega
  simp only [List.length_nil] at h
  omega
end Mine
namespace Mine
theorem nil_or_snoc {α : Type} : ∀ l : List α, l = [] ∨ ∃ q p, l = q ++ [p]
  | [] => .inl rfl
  | a :: r => by
    rcases nil_or_snoc r with h | ⟨q, p, h⟩
    · exact .inr ⟨[], a, by rw [h]; rfl⟩
    · exact .inr ⟨a :: q, p, by rw [h]; rfl⟩
theorem NJ.cases {β : Type} {vals : List (β × Tok) → List Value} {mk : β → Tok → Value} (hv : ∀ l, vals l = l.map fun p => mk p.1 p.2) {bear : List Nat → β} {ys : List (β × Tok)} {S : List (List Nat)} (hys : ys.map (·.1) = S.map bear) :
    (ys = [] ∧ S = []) ∨ ∃ ys1 yl tq S1 d, ys = ys1 ++ [(yl, tq)] ∧ S = S1 ++ [d] ∧ bear d = yl ∧ ys1.map (·.1) = S1.map bear ∧ vals (ys1 ++ [(yl, tq)]) = vals ys1 ++ [mk yl tq] ∧ (vals ys1).length = S1.length := by
  have hlen := congrArg List.length hys
  simp only [List.length_map] at hlen
  rcases nil_or_snoc S with hS | ⟨S1, d, hS⟩
  · subst hS
    exact .inl ⟨List.eq_nil_of_length_eq_zero hlen, rfl⟩
  · subst hS
    rcases nil_or_snoc ys with hy | ⟨ys1, ⟨yl, tq⟩, hy⟩
    · subst hy; simp at hlen
    · subst hy
      refine .inr ⟨ys1, yl, tq, S1, d, rfl, rfl, ?_, ?_, ?_, ?_⟩
      · simpa using (congrArg List.getLast? hys).symm
      · simpa using congrArg List.dropLast hys
      · rw [hv, hv, List.map_append]; rfl
      · rw [hv, List.length_map]
        simpa using hlen
end Mine
end

section
open PySem PySem.W PyProof.Rows PySem.Spec PySem.Calls PySem.Builtin
namespace Mine
set_option maxRecDepth 100000
theorem oct_sub {a b : List Nat} (h : Oct b) (hs : ∀ c ∈ a, c ∈ b) : Oct a := fun c hc => h c (hs c hc)
theorem oct_nm {l : List Nat} (h : Oct l) : Oct (nm l) := oct_sub h (nm_sub l)
theorem oct_ext {l : List Nat} (h : Oct l) : Oct (ext l) := oct_sub h (ext_sub l)
theorem oct_rt (l : List Nat) : Oct (rt l) := by
  rcases rt_cases l with e | e | e <;> rw [e] <;> intro c hc <;> simp at hc <;> omega
theorem oct_sp {l : List Nat} (h : Oct l) : ∀ p ∈ sp l, Oct p := by
  intro p hp c hc
  have : ∀ (l : List Nat), ∀ p ∈ sp l, ∀ c ∈ p, c ∈ l := by
    intro l
    induction l with
    | nil => intro p hp c hc; simp [sp] at hp; subst hp; cases hc
    | cons x r ih =>
      intro p hp c hc
      unfold sp at hp
      split at hp
      · rcases List.mem_cons.mp hp with rfl | hp
        · cases hc
        · exact .tail _ (ih p hp c hc)
      · split at hp
        · rename_i e; exact absurd e (sp_ne r)
        · rename_i q qs e
          rw [e] at ih
          rcases List.mem_cons.mp hp with rfl | hp
          · rcases List.mem_cons.mp hc with rfl | hc
            · exact .head _
            · exact .tail _ (ih q (.head _) c hc)
          · exact .tail _ (ih p (.tail _ hp) c hc)
  exact h c (this l p hp c hc)
theorem oct_tl {l : List Nat} (h : Oct l) : Oct (tl l) := oct_drop h _
theorem oct_nms {l : List Nat} (h : Oct l) : ∀ p ∈ nms l, Oct p := by
  have hb := bk_std (sp l)
  have hs := oct_sp h
  intro p hp
  unfold nms at hp
  split at hp
  · rcases List.mem_append.mp hp with h | h
    · have := List.eq_of_mem_replicate h; subst this; intro c hc; simp at hc; omega
    · exact hs p (hb p h).2
  · exact hs p (hb p hp).2
theorem oct_jn : ∀ {ps : List (List Nat)}, (∀ p ∈ ps, Oct p) → Oct (jn ps)
  | [], _ => by intro c hc; cases hc
  | [p], h => h p (.head _)
  | p :: q :: r, h => by
    rw [jn_cons p (by simp)]
    intro c hc
    rcases List.mem_append.mp hc with hc | hc
    · exact h p (.head _) c hc
    · rcases List.mem_cons.mp hc with rfl | hc
      · decide
      · exact oct_jn (fun x hx => h x (.tail _ hx)) c hc
theorem oct_nrm {l : List Nat} (h : Oct l) : Oct (nrm l) := by
  unfold nrm
  split
  · exact oct_46
  · unfold whole
    intro c hc
    rcases List.mem_append.mp hc with hc | hc
    · exact oct_rt l c hc
    · exact oct_jn (oct_nms h) c hc
theorem app_byt (a b : List Nat) : byt a ++ byt b = byt (a ++ b) := by
  unfold byt
  apply Array.ext'
  simp
theorem byt_dot : (#[46] : Array UInt8) = byt [46] := rfl
theorem byt_dots : (#[46, 46] : Array UInt8) = byt [46, 46] := rfl
/-! what the tests of the loop say -/
section
variable {c : List Nat} {y : PySem.Str}
theorem cS0 (hy : stx c = y) (h : ((y.length : Nat) : Int) ≠ 0) : c ≠ [] := by
  subst hy; rw [stx_len] at h
  intro e; subst e; simp at h
theorem cS0' (hy : stx c = y) (h : ((y.length : Nat) : Int) = 0) : c = [] := by
  subst hy; rw [stx_len] at h
  exact List.eq_nil_of_length_eq_zero (by omega)
theorem cS1 (hy : stx c = y) (h : (y == PySem.Str.ofString ".") = true) : c = [46] := by
  subst hy; rw [lit_dot, beq_stx] at h; simpa using h
theorem cS1' (hy : stx c = y) (h : (y == PySem.Str.ofString ".") = false) : c ≠ [46] := by
  subst hy; rw [lit_dot, beq_stx] at h; simpa using h
theorem cS2 (hy : stx c = y) (h : (y != PySem.Str.ofString "..") = true) : c ≠ [46, 46] := by
  subst hy; rw [lit_dots, bne, beq_stx] at h; simpa using h
theorem cS2' (hy : stx c = y) (h : (y != PySem.Str.ofString "..") = false) : c = [46, 46] := by
  subst hy; rw [lit_dots, bne, beq_stx] at h; simpa using h
theorem cS3 (hy : stx c = y) (h : (y == PySem.Str.ofString "..") = true) : c = [46, 46] := by
  subst hy; rw [lit_dots, beq_stx] at h; simpa using h
theorem cS3' (hy : stx c = y) (h : (y == PySem.Str.ofString "..") = false) : c ≠ [46, 46] := by
  subst hy; rw [lit_dots, beq_stx] at h; simpa using h
end
section
variable {c : List Nat} {y : Array UInt8}
theorem cB0 (hy : byt c = y) (h : 0 < y.size) : c ≠ [] := by
  subst hy; rw [byt_len] at h
  intro e; subst e; simp at h
theorem cB0' (hy : byt c = y) (h : ¬ 0 < y.size) : c = [] := by
  subst hy; rw [byt_len] at h
  exact List.eq_nil_of_length_eq_zero (by omega)
theorem oct_dd : Oct [46, 46] := by intro c hc; simp at hc; omega
theorem cB1 (ho : Oct c) (hy : byt c = y) (h : (y.toList == (#[46] : Array UInt8).toList) = true) : c = [46] := by
  subst hy; rw [byt_dot, beq_byl ho oct_46] at h; simpa using h
theorem cB1' (ho : Oct c) (hy : byt c = y) (h : (y.toList == (#[46] : Array UInt8).toList) = false) : c ≠ [46] := by
  subst hy; rw [byt_dot, beq_byl ho oct_46] at h; simpa using h
theorem cB2 (ho : Oct c) (hy : byt c = y) (h : (y.toList != (#[46, 46] : Array UInt8).toList) = true) : c ≠ [46, 46] := by
  subst hy; rw [byt_dots, bne, beq_byl ho oct_dd] at h; simpa using h
theorem cB2' (ho : Oct c) (hy : byt c = y) (h : (y.toList != (#[46, 46] : Array UInt8).toList) = false) : c = [46, 46] := by
  subst hy; rw [byt_dots, bne, beq_byl ho oct_dd] at h; simpa using h
theorem cB3 (ho : Oct c) (hy : byt c = y) (h : (y.toList == (#[46, 46] : Array UInt8).toList) = true) : c = [46, 46] := by
  subst hy; rw [byt_dots, beq_byl ho oct_dd] at h; simpa using h
theorem cB3' (ho : Oct c) (hy : byt c = y) (h : (y.toList == (#[46, 46] : Array UInt8).toList) = false) : c ≠ [46, 46] := by
  subst hy; rw [byt_dots, beq_byl ho oct_dd] at h; simpa using h
end
end Mine
namespace Mine
section
variable {prog : Program} {w : World} {A : Around} {E : Value → Shared → Prop} {s : Shared} {h₀ : Heap} {L : Addr} {news : List (Addr × Obj)} {Q : Value → Shared → Prop}
theorem join_b {D : Addr} {o : Obj} {n : Nat} {l : List (Array UInt8 × Tok)} {ns : List (List Nat)} {t : Tok} (N : News h₀ L s.heap news) (hm : (D, o) ∈ news) (hc : o.cls = .type "list") (hd : o.data = .seq (bytValues l).toArray n)
    (hl : l.map (·.1) = ns.map byt) (hp : ∀ p ∈ ns, p.length ≤ 1000) (hn : ns.length ≤ 1000)
    (h : ∀ y t' k, byt (jn ns) = y → Q (.bytes y t') { s with toks := k }) :
    wpAny (model prog w) A (call (.builtin "bytes.join") [.bytes #[47] t, .ref D]) Q E s := by
  have hlen : l.length = ns.length := by
    have := congrArg List.length hl
    simpa using this
  have e : Bytes.joined #[47] (l.map (·.1)) = byt (jn ns) := by rw [hl, joined_byt]
  have fold_le : ∀ (ps : List (List Nat)) (a : Nat), (∀ p ∈ ps, p.length ≤ 1000) → (ps.map byt).foldl (fun a x => a + x.size) a ≤ a + 1000 * ps.length := by
    intro ps
    induction ps with
    | nil => intro a _; simp
    | cons p r ih =>
      intro a hp
      rw [List.map_cons, List.foldl_cons]
      have h1 := ih (a + (byt p).size) fun x hx => hp x (.tail _ hx)
      have h2 := hp p (.head _)
      rw [byt_len] at h1 ⊢
      simp only [List.length_cons]
      omega
  refine call_join ⟨o, (N _ hm).1, hc, n, hd⟩ ?_ ?_ fun t' k => ?_
  · rw [e, byt_len, sizeLine_eq]
    have := jn_len ns hp
    omega
  · rw [hl, hlen, sizeLine_eq]
    have h1 := fold_le ns ((#[47] : Array UInt8).size * (ns.length - 1)) hp
    have h2 : (#[47] : Array UInt8).size = 1 := rfl
    rw [h2] at h1 ⊢
    omega
  · rw [e]; exact h _ t' k rfl
end
theorem abs_s {l : List Nat} {xr : PySem.Str} (hxr : stx (rt l) = xr) (h : ((xr.length : Nat) : Int) = 0) : decide (rt l ≠ []) = false := by
  subst hxr; rw [stx_len] at h
  have : rt l = [] := List.eq_nil_of_length_eq_zero (by omega)
  simp [this]
theorem abs_s' {l : List Nat} {xr : PySem.Str} (hxr : stx (rt l) = xr) (h : ((xr.length : Nat) : Int) ≠ 0) : decide (rt l ≠ []) = true := by
  subst hxr; rw [stx_len] at h
  have : rt l ≠ [] := fun e => by rw [e] at h; simp at h
  simp [this]
theorem abs_b {l : List Nat} {xr : Array UInt8} (hxr : byt (rt l) = xr) (h : ¬ 0 < xr.size) : decide (rt l ≠ []) = false := by
  subst hxr; rw [byt_len] at h
  have : rt l = [] := List.eq_nil_of_length_eq_zero (by omega)
  simp [this]
theorem abs_b' {l : List Nat} {xr : Array UInt8} (hxr : byt (rt l) = xr) (h : 0 < xr.size) : decide (rt l ≠ []) = true := by
  subst hxr; rw [byt_len] at h
  have : rt l ≠ [] := fun e => by rw [e] at h; simp at h
  simp [this]
end Mine
namespace Mine
theorem nfin_s1 {l : List Nat} {x : PySem.Str} (hx : stx l = x) (h : ((x.length : Nat) : Int) = 0) : PySem.Str.ofString "." = stx (nrm l) := by
  subst hx; rw [stx_len] at h
  have : l = [] := List.eq_nil_of_length_eq_zero (by omega)
  subst this
  rw [lit_dot]
  exact congrArg stx (by decide)
theorem nfin_s2 {l : List Nat} {xr y : PySem.Str} (hr : stx (rt l) = xr) (hy : stx (jn (nms l)) = y) (h : (((xr ++ y).length : Nat) : Int) ≠ 0) : xr ++ y = stx (nrm l) := by
  subst hr hy
  rw [app_stx] at h ⊢
  rw [stx_len] at h
  have hw : ¬ whole l = [] := fun e => by
    have : rt l ++ jn (nms l) = whole l := rfl
    rw [this, e] at h
    simp at h
  unfold nrm
  rw [if_neg hw]; rfl
theorem nfin_s3 {l : List Nat} {xr y : PySem.Str} (hr : stx (rt l) = xr) (hy : stx (jn (nms l)) = y) (h : (((xr ++ y).length : Nat) : Int) = 0) : PySem.Str.ofString "." = stx (nrm l) := by
  subst hr hy
  rw [app_stx, stx_len] at h
  have hw : whole l = [] := List.eq_nil_of_length_eq_zero (by
    have : rt l ++ jn (nms l) = whole l := rfl
    rw [this] at h
    omega)
  unfold nrm
  rw [if_pos hw, lit_dot]
theorem nfin_b1 {l : List Nat} {x : Array UInt8} (hx : byt l = x) (h : ¬ 0 < x.size) : (#[46] : Array UInt8) = byt (nrm l) := by
  subst hx; rw [byt_len] at h
  have : l = [] := List.eq_nil_of_length_eq_zero (by omega)
  subst this
  rfl
theorem nfin_b2 {l : List Nat} {z : Array UInt8} (hz : byt (rt l ++ jn (nms l)) = z) (h : 0 < z.size) : z = byt (nrm l) := by
  subst hz
  rw [byt_len] at h
  have hw : ¬ whole l = [] := fun e => by
    have : rt l ++ jn (nms l) = whole l := rfl
    rw [this, e] at h
    simp at h
  unfold nrm
  rw [if_neg hw]; rfl
theorem nfin_b3 {l : List Nat} {z : Array UInt8} (hz : byt (rt l ++ jn (nms l)) = z) (h : ¬ 0 < z.size) : (#[46] : Array UInt8) = byt (nrm l) := by
  subst hz
  rw [byt_len] at h
  have hw : whole l = [] := List.eq_nil_of_length_eq_zero (by
    have : rt l ++ jn (nms l) = whole l := rfl
    rw [this] at h
    omega)
  unfold nrm
  rw [if_pos hw]; rfl
section
variable {prog : Program} {w : World} {A : Around} {E : Value → Shared → Prop} {s : Shared} {Q : Value → Shared → Prop}
theorem add_bb {a b : List Nat} {x y : Array UInt8} {t u : Tok} (hx : byt a = x) (hy : byt b = y) (hz : x.size + y.size ≤ 2000000) (h : ∀ z t' k, byt (a ++ b) = z → z.size ≤ 2000000 → Q (.bytes z t') { s with toks := k }) :
    wpAny (model prog w) A (binaryOp .Add (.bytes x t) (.bytes y u)) Q E s :=
  KBy.add_bytes (by omega) fun t' k => by
    have e : x ++ y = byt (a ++ b) := by rw [← hx, ← hy, app_byt]
    rw [e]
    exact h _ t' k rfl (by rw [← e, Array.size_append]; exact hz)
end
end Mine
end

section
open PySem PySem.W PyProof.Rows PySem.Spec PySem.Calls
namespace Mine
local macro_rules | `(tactic| walk_at "getMethod bytes") => `(tactic| (k_here; first | refine meth_rfind ?_ | refine meth_split ?_ | refine meth_join ?_))
local macro_rules | `(tactic| walk_at "call builtin:bytes.rfind") => `(tactic| (k_here; refine call_rfind ?_; intro _ _))
local macro_rules | `(tactic| walk_at "subscriptTail") => `(tactic| (k_here; (with_reducible show wpAny _ _ (subscriptTail _ (Expr.Slice _ _ none _) (Value.bytes _ _) (Value.ref _)) _ _ _); (with_reducible rename Fr _ _ _ _ => F'); (with_reducible rename News _ _ _ _ => N'); (refine slice_b (s := ⟨_, _, _, _, _⟩) F' N' (by constructor) (by constructor) (by first | assumption | omega) ?_); intro _ _ _ _ _))
local macro_rules | `(tactic| walk_at "truthy bytes") => `(tactic| (k_here; refine truthy_b (by first | assumption | omega) ?_))
set_option maxRecDepth 100000
set_option maxHeartbeats 8000000
theorem says_G_sroot_s (w : World) (l : List Nat) (t0 : Tok) (hl : l.length ≤ 200) : SaysT w 132 2 [.str (stx l) t0] (fun us => ∃ t1 t2 t3, us = [.str (stx []) t1, .str (stx (rt l)) t2, .str (stx (tl l)) t3]) := by
  have hx' : (stx l).length ≤ 200 := by (first | rw [stx_len] | rw [byt_len]); omega
  generalize hx : stx l = x at hx'
  unfold SaysT
  k_with_none
  w_top off
  k_fill
  intro mean mg mb dp un gd cn cs a ccd cl outer A₀ base h₀ L m news s Q E B F X N T hk hd hu hret
  refine wpAny_call ?_
  k_dflt cell_enter
  (rename Fr _ _ _ _ => F1'); (replace F1' := frame1 F1' (by with_unfolding_all rfl)); (try dsimp only at F1')
  k_with "call ref" => (
    refine' Says.use ?kC ?k1 ?k2 ?k3 ?k4 ?k5 ?kK ?kd ?ku ?_
    (case kC => first | exact says_fspath_s _ _ _ | exact says_sep_s _ _ _ | exact says_fspath_b _ _ _ | exact says_sep_b _ _ _)
    (case k1 => k_asm); (case k2 => k_asm); (case k3 => k_asm); (case k4 => k_asm); (case k5 => k_asm); (case kK => first | exact rfl | assumption); (case kd => ktr_room); (case ku => ktr_units)
    k_whole
    intro t9 h9 tk9 F9 N9
    (try dsimp only)
    (try k_fold))
  k_steps
  all_goals first
    | exact hret _ _ _ _ ⟨_, _, _, sroot_s4 hx (by assumption) (by assumption) (by assumption)⟩ (by k_asm) (by k_asm) (by assumption)
    | exact hret _ _ _ _ ⟨_, _, _, sroot_s3 hx (by assumption) (by assumption) (by assumption)⟩ (by k_asm) (by k_asm) (by assumption)
    | exact hret _ _ _ _ ⟨_, _, _, sroot_s2 hx (by assumption) (by assumption)⟩ (by k_asm) (by k_asm) (by assumption)
    | exact hret _ _ _ _ ⟨_, _, _, sroot_s1 hx (by assumption)⟩ (by k_asm) (by k_asm) (by assumption)
theorem says_sroot_of_s (w : World) (l : List Nat) (t0 : Tok) (hl : l.length ≤ 200) : SaysT w 132 2 [.str (stx l) t0] (fun us => ∃ t1 t2 t3, us = [.str (stx []) t1, .str (stx (rt l)) t2, .str (stx (tl l)) t3]) := says_G_sroot_s w l t0 hl
end Mine
end

section
open PySem PySem.W PyProof.Rows PySem.Spec PySem.Calls
namespace Mine
local macro_rules | `(tactic| walk_at "getMethod bytes") => `(tactic| (k_here; k_dflt (first | refine meth_rfind ?_ | refine meth_split ?_ | refine meth_join ?_)))
local macro_rules | `(tactic| walk_at "truthy bytes") => `(tactic| (k_here; k_dflt (refine truthy_b (by first | assumption | omega) ?_)))
local macro_rules | `(tactic| walk_at "truthy ref") => `(tactic| (k_here; k_dflt (first | (refine truthy_snoc (by k_asm) (by k_mem) (by omega) ?_) | (refine truthy_nil (by k_asm) (by k_mem) ?_))))
local macro_rules | `(tactic| walk_at "subscriptTail Name UnaryOp ref int") => `(tactic| (k_here; k_dflt (refine item_last (by k_asm) (by k_mem) ?_)))
local macro_rules | `(tactic| walk_at "call builtin:list.pop") => `(tactic| (k_here; k_dflt (refine pop_last (by k_asm) (by k_asm) (by k_upd) (by omega) ?_); intro h' F' N'))
local macro_rules | `(tactic| walk_at "UnrEnd") => `(tactic| k_dflt (k_extra "UnrEnd"))
set_option maxRecDepth 100000
set_option maxHeartbeats 8000000
theorem says_norm_s (w : World) (l : List Nat) (t0 : Tok) (hl : l.length ≤ 200) : Says w 146 3 [.str (stx l) t0] (fun t => .str (stx (nrm l)) t) := by
  have hx' : (stx l).length ≤ 200 := by (first | rw [stx_len] | rw [byt_len]); omega
  have hxr' : (stx (rt l)).length ≤ 2 := by
    (first | rw [stx_len] | rw [byt_len])
    rcases rt_cases l with e | e | e <;> rw [e] <;> decide
  have htl : (tl l).length ≤ 200 := by
    unfold tl
    rw [List.length_drop]; omega
  have hxt' : (stx (tl l)).length ≤ 200 := by (first | rw [stx_len] | rw [byt_len]); exact htl
  have hsl := sp_len (tl l)
  have hspo := says_sroot_of_s w l
  generalize hx : stx l = x at hx' hspo
  generalize hxr : stx (rt l) = xr at hxr' hspo
  generalize hxt : stx (tl l) = xt at hxt' hspo
  unfold Says
  k_with_none
  w_top off
  k_fill
  intro mean mg mb dp un gd cn cs a ccd cl outer A₀ base h₀ L m news s Q E B F X N T hk hd hu hret
  refine wpAny_call ?_
  k_dflt cell_enter
  (rename Fr _ _ _ _ => F1'); (replace F1' := frame1 F1' (by with_unfolding_all rfl)); (try dsimp only at F1')
  k_with "call ref" => k_dflt (first
    | (refine' Says.use ?kC ?k1 ?k2 ?k3 ?k4 ?k5 ?kK ?kd ?ku ?_
       (case kC => exact says_fspath_s _ _ _)
       (case k1 => k_asm); (case k2 => k_asm); (case k3 => k_asm); (case k4 => k_asm); (case k5 => k_asm); (case kK => first | exact rfl | assumption); (case kd => ktr_room); (case ku => ktr_units)
       k_whole
       intro t9 h9 tk9 F9 N9
       (try dsimp only)
       (try k_fold))
    | (refine' SaysT.use ?kC ?k1 ?k2 ?k3 ?k4 ?k5 ?kK ?kd ?ku ?_
       (case kC => exact hspo _ hl)
       (case k1 => k_asm); (case k2 => k_asm); (case k3 => k_asm); (case k4 => k_asm); (case k5 => k_asm); (case kK => first | exact rfl | assumption); (case kd => ktr_room); (case ku => ktr_units)
       k_whole
       intro us9 b9 h9 tk9 hus9 F9 N9 l9
       obtain ⟨t91, t92, t93, e9⟩ := hus9
       subst e9
       (try k_lt l9)
       (try dsimp only)
       (try k_fold)))
  k_with "exec For Name Name cons nil" => ((rename Fr _ _ _ _ => lF'); (with_unfolding_all refine' For_invVF lF' ?k1 ?k2 ?_; (case k1 => exact rfl); (case k2 => exact rfl); k_whole))

  k_with "pyIter ref" => k_dflt (
    (rename Fr _ _ _ _ => hF)
    (rename News _ _ _ _ => hN)
    (rename List (PySem.Str × Tok) => lv)
    (rename List.map _ _ = Txt.split _ _ => hsp)
    (have hsp' : lv.map (·.1) = (sp (tl l)).map stx := by (rw [hsp, lit_slash, ← hxt, split_stx]))
    (with_unfolding_all refine NJ.iter strValues Value.str (fun _ => rfl) stx (stp (decide (rt l ≠ []))) (cs := sp (tl l)) (lv := lv) hN hF (by rfl) hsp' (fun _ => True) (fun i => fold_good _ _ (fun _ _ => trivial) trivial i) ?g4 ?g5 (fun i => fold_take _ _ i))
    (case' g4 => (
      intro I it nn ys h tk c y tp S hG9 hc9 hS9 hy9 hys hI9 hne F₁ N₁
      (rename (_ < _ ∧ _ < _ ∧ AllLt _ _) => hAL)
      have hoff := ownOff_of hAL.2.2
      have hyz : y.length ≤ 200 := by (
        rw [← hy9]; (first | rw [stx_len] | rw [byt_len]); have := sp_mem_len _ c hc9; omega)
      rcases NJ.cases (vals := strValues) (mk := Value.str) (fun _ => rfl) hys with ⟨e9, eS⟩ | ⟨ys1, yl, tl9, S1, d9, e9, eS, hd9, hys1, e10, hyl9⟩))
    (case' g4.inl => (subst e9; subst eS))
    (case' g4.inr => (
      subst e9
      subst eS
      rw [e10] at hne N₁
      have hyl8 : (strValues ys1).length ≤ 300 := by (simp only [List.length_append, List.length_cons, List.length_nil] at hS9; omega)
      skip))
    (case' g5 => (intro nn ys u h tk hys F₁ N₁)))
  k_with "UnrEnd" => (first
    | (have hq9 : stp (decide (rt l ≠ [])) (S1 ++ [d9]) c = S1 ++ [d9] := stp_skip (by first | exact .inl (cS0' hy9 (by with_reducible assumption)) | exact .inr (cS1 hy9 (by with_reducible assumption)))
       refine NJ.made (ys := ys1 ++ [(yl, tl9)]) (by with_reducible assumption) (by with_reducible assumption) (by rw [e10]) hne (fun z hz => if_neg hz) ?_
       rw [hq9]
       exact hys)
    | (have hq9 : stp (decide (rt l ≠ [])) [] c = [] := stp_skip (by first | exact .inl (cS0' hy9 (by with_reducible assumption)) | exact .inr (cS1 hy9 (by with_reducible assumption)))
       refine NJ.made (ys := ([] : List (PySem.Str × Tok))) (by with_reducible assumption) (by with_reducible assumption) (by with_unfolding_all rfl) hne (fun z hz => if_neg hz) ?_
       rw [hq9]
       rfl)
    | (have hq9 : stp (decide (rt l ≠ [])) (S1 ++ [d9]) c = (S1 ++ [d9]) ++ [c] := stp_push (by rintro (e | e); exact cS0 hy9 (by with_reducible assumption) e; exact cS1' hy9 (by with_reducible assumption) e) (cS2 hy9 (by with_reducible assumption))
       refine NJ.made (ys := ys1 ++ [(yl, tl9)] ++ [(y, tp)]) (by with_reducible assumption) (by with_reducible assumption) (by simp only [strValues, List.map_append, List.map_cons, List.map_nil, List.push_toArray]) hne (fun z hz => if_neg hz) ?_
       rw [hq9]
       simp only [List.map_append, List.map_cons, List.map_nil, hys1, hd9, hy9])
    | (have hq9 : stp (decide (rt l ≠ [])) [] c = [] ++ [c] := stp_push (by rintro (e | e); exact cS0 hy9 (by with_reducible assumption) e; exact cS1' hy9 (by with_reducible assumption) e) (cS2 hy9 (by with_reducible assumption))
       refine NJ.made (ys := [(y, tp)]) (by with_reducible assumption) (by with_reducible assumption) (by with_unfolding_all rfl) hne (fun z hz => if_neg hz) ?_
       rw [hq9]
       simp only [List.nil_append, List.map_cons, List.map_nil, hy9])
    | (have hq9 : stp (decide (rt l ≠ [])) (S1 ++ [d9]) c = (S1 ++ [d9]) ++ [c] := stp_dd1 (cS2' hy9 (by with_reducible assumption)) (cS3 hd9 (by with_reducible assumption))
       refine NJ.made (ys := ys1 ++ [(yl, tl9)] ++ [(y, tp)]) (by with_reducible assumption) (by with_reducible assumption) (by simp only [strValues, List.map_append, List.map_cons, List.map_nil, List.push_toArray]) hne (fun z hz => if_neg hz) ?_
       rw [hq9]
       simp only [List.map_append, List.map_cons, List.map_nil, hys1, hd9, hy9])
    | (have hq9 : stp (decide (rt l ≠ [])) (S1 ++ [d9]) c = S1 := stp_dd2 (cS2' hy9 (by with_reducible assumption)) (cS3' hd9 (by with_reducible assumption))
       refine NJ.made (ys := ys1) (by with_reducible assumption) (by with_reducible assumption) (rfl) hne (fun z hz => if_neg hz) ?_
       rw [hq9]
       exact hys1)
    | (have hq9 : stp (decide (rt l ≠ [])) [] c = [] ++ [c] := by rw [abs_s hxr (by with_reducible assumption)]; exact stp_dd0 c (cS2' hy9 (by with_reducible assumption))
       refine NJ.made (ys := [(y, tp)]) (by with_reducible assumption) (by with_reducible assumption) (by with_unfolding_all rfl) hne (fun z hz => if_neg hz) ?_
       rw [hq9]
       simp only [List.nil_append, List.map_cons, List.map_nil, hy9])
    | (have hq9 : stp (decide (rt l ≠ [])) [] c = [] := by rw [abs_s' hxr (by with_reducible assumption)]; exact stp_dd0' c (cS2' hy9 (by with_reducible assumption))
       refine NJ.made (ys := ([] : List (PySem.Str × Tok))) (by with_reducible assumption) (by with_reducible assumption) (by with_unfolding_all rfl) hne (fun z hz => if_neg hz) ?_
       rw [hq9]
       rfl))
  k_with "call builtin:str.join" => k_dflt (
    refine join_s (ns := nms l) (by k_asm) (by k_mem) rfl rfl (by rw [hys, fold_nms]) (fun p hp => by have := nms_mem_len l p hp; omega) (by have := nms_len l; omega) ?_
    intro yj tj kj hyj
    have hyj' : yj.length ≤ 1000000 := by (
      rw [← hyj]; (first | rw [stx_len] | rw [byt_len])
      have h1 := jn_len (nms l) fun p hp => by have := nms_mem_len l p hp; omega
      have h2 := nms_len l
      omega))
  k_steps
  all_goals first
    | exact cb_retS (Q := Q) hret (nfin_s2 hxr hyj (by with_reducible assumption)) (by k_asm) (by first | with_reducible assumption | (refine' cb_drop ?cbN ?cbS; (case cbN => with_reducible assumption); (case cbS => kcj_all)))
    | exact cb_retS (Q := Q) hret (nfin_s3 hxr hyj (by with_reducible assumption)) (by k_asm) (by first | with_reducible assumption | (refine' cb_drop ?cbN ?cbS; (case cbN => with_reducible assumption); (case cbS => kcj_all)))
    | exact cb_retS (Q := Q) hret (nfin_s1 hx (by with_reducible assumption)) (by k_asm) (by first | with_reducible assumption | (refine' cb_drop ?cbN ?cbS; (case cbN => with_reducible assumption); (case cbS => kcj_all)))
end Mine
end

section
open PySem PySem.W PyProof.Rows PySem.Spec PySem.Calls
namespace Mine
set_option maxRecDepth 100000
set_option maxHeartbeats 8000000
theorem dwI0_s {k : Int} (l : List Nat) (h : k = 0) : stx (nm l) = stx (twinI k l) := by unfold twinI; rw [if_pos h]
theorem dwI1_s {k : Int} (l : List Nat) (h0 : k ≠ 0) (h : k = 1) : stx (nrm l) = stx (twinI k l) := by unfold twinI; rw [if_neg h0, if_pos h]
theorem dwI2_s {k : Int} (l : List Nat) (h0 : k ≠ 0) (h1 : k ≠ 1) (h : k = 2) : stx (ext l) = stx (twinI k l) := by unfold twinI; rw [if_neg h0, if_neg h1, if_pos h]
theorem dwI3_s {k : Int} (l : List Nat) (h0 : k ≠ 0) (h1 : k ≠ 1) (h : k ≠ 2) : stx (rt l) = stx (twinI k l) := by unfold twinI; rw [if_neg h0, if_neg h1, if_neg h]
theorem says_deed_s (w : World) (k : Int) (tk0 : Tok) (l : List Nat) (t0 : Tok) (hl : l.length ≤ 200) : Says w 228 4 [.int k tk0, .str (stx l) t0] (fun t => .str (stx (twinI k l)) t) := by
  have hname := fun t0 => says_base_s w l t0 (by omega)
  have hroot := fun t0 => says_sroot_of_s w l t0 hl
  have hend := fun t0 => says_ext_s w l t0 hl
  have hnorm := fun t0 => says_norm_s w l t0 hl
  generalize hx : stx l = x at hname hroot hend hnorm
  unfold Says
  k_with_none
  w_top off
  k_fill
  intro mean mg mb dp un gd cn cs a ccd cl outer A₀ base h₀ L m news s Q E B F X N T hk hd hu hret
  refine wpAny_call ?_
  k_dflt cell_enter
  k_with "call ref" => k_dflt (first
    | (
       refine' Says.use ?kC ?k1 ?k2 ?k3 ?k4 ?k5 ?kK ?kd ?ku ?_
       (case kC => first | exact hname _ | exact hnorm _)
       (case k1 => k_asm); (case k2 => k_asm); (case k3 => k_asm); (case k4 => k_asm); (case k5 => k_asm); (case kK => first | exact rfl | assumption); (case kd => ktr_room); (case ku => ktr_units)
       k_whole
       intro t9 h9 tk9 F9 N9
       (try dsimp only)
       (try k_fold))
    | (
       refine' SaysT.use ?kC ?k1 ?k2 ?k3 ?k4 ?k5 ?kK ?kd ?ku ?_
       (case kC => first | exact hend _ | exact hroot _)
       (case k1 => k_asm); (case k2 => k_asm); (case k3 => k_asm); (case k4 => k_asm); (case k5 => k_asm); (case kK => first | exact rfl | assumption); (case kd => ktr_room); (case ku => ktr_units)
       k_whole
       intro us9 b9 h9 tk9 hus9 F9 N9 l9
       (first | (obtain ⟨t91, t92, t93, e9⟩ := hus9; subst e9) | (obtain ⟨v91, t92, e9⟩ := hus9; subst e9))
       (try dsimp only)
       (try k_fold)))
  k_steps
  all_goals first
    | exact cb_retS (Q := Q) hret (dwI0_s l (by omega)) (by k_asm) (by first | k_asm | (refine' cb_drop ?cbN ?cbS; (case cbN => assumption); (case cbS => kcj_all)))
    | exact cb_retS (Q := Q) hret (dwI1_s l (by omega) (by omega)) (by k_asm) (by first | k_asm | (refine' cb_drop ?cbN ?cbS; (case cbN => assumption); (case cbS => kcj_all)))
    | exact cb_retS (Q := Q) hret (dwI2_s l (by omega) (by omega) (by omega)) (by k_asm) (by first | k_asm | (refine' cb_drop ?cbN ?cbS; (case cbN => assumption); (case cbS => kcj_all)))
    | exact cb_retS (Q := Q) hret (dwI3_s l (by omega) (by omega) (by omega)) (by k_asm) (by first | k_asm | (refine' cb_drop ?cbN ?cbS; (case cbN => assumption); (case cbS => kcj_all)))
end Mine
end

section
open PySem PySem.W PyProof.Rows PySem.Spec PySem.Calls
namespace Mine
local macro_rules | `(tactic| walk_at "getMethod bytes") => `(tactic| (k_here; first | refine meth_rfind ?_ | refine meth_split ?_ | refine meth_join ?_))
local macro_rules | `(tactic| walk_at "call builtin:bytes.rfind") => `(tactic| (k_here; refine call_rfind ?_; intro _ _))
local macro_rules | `(tactic| walk_at "subscriptTail") => `(tactic| (k_here; (with_reducible show wpAny _ _ (subscriptTail _ (Expr.Slice _ _ none _) (Value.bytes _ _) (Value.ref _)) _ _ _); (with_reducible rename Fr _ _ _ _ => F'); (with_reducible rename News _ _ _ _ => N'); (refine slice_b (s := ⟨_, _, _, _, _⟩) F' N' (by constructor) (by constructor) (by first | assumption | omega) ?_); intro _ _ _ _ _))
local macro_rules | `(tactic| walk_at "truthy bytes") => `(tactic| (k_here; refine truthy_b (by first | assumption | omega) ?_))
set_option maxRecDepth 100000
set_option maxHeartbeats 8000000
theorem says_split_b (w : World) (l : List Nat) (t0 t1 t2 : Tok) (hl : l.length ≤ 200) (ho : Oct l) : SaysT w 108 1 [.bytes (byt l) t0, .bytes #[47] t1, .none, .bytes #[46] t2] (fun us => ∃ v t, us = [v, .bytes (byt (ext l)) t]) := by
  have hx' : (byt l).size ≤ 100000 := by (first | rw [stx_len] | rw [byt_len]); omega
  generalize hx : byt l = x at hx'
  unfold SaysT
  k_with_none
  w_top off
  k_fill
  intro mean mg mb dp un gd cn cs a ccd cl outer A₀ base h₀ L m news s Q E B F X N T hk hd hu hret
  refine wpAny_call ?_
  k_dflt cell_enter
  k_with "exec While Compare cons nil" => ((rename Fr _ _ _ _ => F'); (rename News _ _ _ _ => N'); refine While_ret (i := PySem.Str.ofString "filenameIndex") (K := brf x 46) (fun j => ((KBy.picked x (some j) (some (j + 1))).toList != (#[46] : Array UInt8).toList) = false) F' N' (by rfl) (by omega) ?_ (by passes_own))
  k_with "StepR" => (dsimp only [StepR])
  k_steps
  all_goals first
    | exact hret _ _ _ _ ⟨_, _, spl_b1 hx ho (by assumption) (by assumption) (by assumption) (by assumption)⟩ (by k_asm) (by k_asm) (by assumption)
    | exact hret _ _ _ _ ⟨_, _, spl_b2 hx ho (by assumption) (by assumption) (by assumption)⟩ (by k_asm) (by k_asm) (by assumption)
    | exact hret _ _ _ _ ⟨_, _, spl_b3 hx ho (by assumption)⟩ (by k_asm) (by k_asm) (by assumption)
    | (with_unfolding_all refine StepN.intro (by k_asm) (by k_asm) (by rfl) (fun y hy => ?_) ⟨by assumption, by assumption⟩; simp only [if_neg hy])
theorem says_ext_b (w : World) (l : List Nat) (t0 : Tok) (hl : l.length ≤ 200) (ho : Oct l) : SaysT w 122 2 [.bytes (byt l) t0] (fun us => ∃ v t, us = [v, .bytes (byt (ext l)) t]) := by
  unfold SaysT
  k_with_none
  w_top off
  k_fill
  intro mean mg mb dp un gd cn cs a ccd cl outer A₀ base h₀ L m news s Q E B F X N T hk hd hu hret
  refine wpAny_call ?_
  k_dflt cell_enter
  (rename Fr _ _ _ _ => F1'); (replace F1' := frame1 F1' (by with_unfolding_all rfl)); (try dsimp only at F1')
  k_with "call ref" => (first
    | (refine' Says.use ?kC ?k1 ?k2 ?k3 ?k4 ?k5 ?kK ?kd ?ku ?_
       (case kC => exact says_fspath_b _ _ _)
       (case k1 => k_asm); (case k2 => k_asm); (case k3 => k_asm); (case k4 => k_asm); (case k5 => k_asm); (case kK => first | exact rfl | assumption); (case kd => ktr_room); (case ku => ktr_units)
       k_whole
       intro t9 h9 tk9 F9 N9
       (try dsimp only)
       (try k_fold))
    | (refine' SaysT.use ?kC ?k1 ?k2 ?k3 ?k4 ?k5 ?kK ?kd ?ku ?_
       (case kC => exact says_split_b w l _ _ _ hl ho)
       (case k1 => k_asm); (case k2 => k_asm); (case k3 => k_asm); (case k4 => k_asm); (case k5 => k_asm); (case kK => first | exact rfl | assumption); (case kd => ktr_room); (case ku => ktr_units)
       k_whole
       intro us9 b9 h9 tk9 hus9 F9 N9 l9
       (try dsimp only)
       (try k_fold)))
  k_steps
  all_goals first
    | exact hret _ _ _ _ hus9 (by k_asm) (by k_asm) (by assumption)
end Mine
end

section
open PySem PySem.W PyProof.Rows PySem.Spec PySem.Calls
namespace Mine
local macro_rules | `(tactic| walk_at "getMethod bytes") => `(tactic| (k_here; first | refine meth_rfind ?_ | refine meth_split ?_ | refine meth_join ?_))
local macro_rules | `(tactic| walk_at "call builtin:bytes.rfind") => `(tactic| (k_here; refine call_rfind ?_; intro _ _))
local macro_rules | `(tactic| walk_at "subscriptTail") => `(tactic| (k_here; (with_reducible show wpAny _ _ (subscriptTail _ (Expr.Slice _ _ none _) (Value.bytes _ _) (Value.ref _)) _ _ _); (with_reducible rename Fr _ _ _ _ => F'); (with_reducible rename News _ _ _ _ => N'); (refine slice_b (s := ⟨_, _, _, _, _⟩) F' N' (by constructor) (by constructor) (by first | assumption | omega) ?_); intro _ _ _ _ _))
local macro_rules | `(tactic| walk_at "truthy bytes") => `(tactic| (k_here; refine truthy_b (by first | assumption | omega) ?_))
set_option maxRecDepth 100000
set_option maxHeartbeats 8000000
theorem says_G_sroot_b (w : World) (l : List Nat) (t0 : Tok) (hl : l.length ≤ 200) (ho : Oct l) : SaysT w 132 2 [.bytes (byt l) t0] (fun us => ∃ t1 t2 t3, us = [.bytes (byt []) t1, .bytes (byt (rt l)) t2, .bytes (byt (tl l)) t3]) := by
  have hx' : (byt l).size ≤ 100000 := by (first | rw [stx_len] | rw [byt_len]); omega
  generalize hx : byt l = x at hx'
  unfold SaysT
  k_with_none
  w_top off
  k_fill
  intro mean mg mb dp un gd cn cs a ccd cl outer A₀ base h₀ L m news s Q E B F X N T hk hd hu hret
  refine wpAny_call ?_
  k_dflt cell_enter
  (rename Fr _ _ _ _ => F1'); (replace F1' := frame1 F1' (by with_unfolding_all rfl)); (try dsimp only at F1')
  k_with "call ref" => (
    refine' Says.use ?kC ?k1 ?k2 ?k3 ?k4 ?k5 ?kK ?kd ?ku ?_
    (case kC => first | exact says_fspath_s _ _ _ | exact says_sep_s _ _ _ | exact says_fspath_b _ _ _ | exact says_sep_b _ _ _)
    (case k1 => k_asm); (case k2 => k_asm); (case k3 => k_asm); (case k4 => k_asm); (case k5 => k_asm); (case kK => first | exact rfl | assumption); (case kd => ktr_room); (case ku => ktr_units)
    k_whole
    intro t9 h9 tk9 F9 N9
    (try dsimp only)
    (try k_fold))
  k_steps
  all_goals first
    | exact hret _ _ _ _ ⟨_, _, _, sroot_b4 hx ho (by assumption) (by assumption) (by assumption)⟩ (by k_asm) (by k_asm) (by assumption)
    | exact hret _ _ _ _ ⟨_, _, _, sroot_b3 hx ho (by assumption) (by assumption) (by assumption)⟩ (by k_asm) (by k_asm) (by assumption)
    | exact hret _ _ _ _ ⟨_, _, _, sroot_b2 hx ho (by assumption) (by assumption)⟩ (by k_asm) (by k_asm) (by assumption)
    | exact hret _ _ _ _ ⟨_, _, _, sroot_b1 hx ho (by assumption)⟩ (by k_asm) (by k_asm) (by assumption)
theorem says_sroot_of_b (w : World) (l : List Nat) (t0 : Tok) (hl : l.length ≤ 200) (ho : Oct l) : SaysT w 132 2 [.bytes (byt l) t0] (fun us => ∃ t1 t2 t3, us = [.bytes (byt []) t1, .bytes (byt (rt l)) t2, .bytes (byt (tl l)) t3]) := says_G_sroot_b w l t0 hl ho
end Mine
end

section
open PySem PySem.W PyProof.Rows PySem.Spec PySem.Calls
namespace Mine
local macro_rules | `(tactic| walk_at "getMethod bytes") => `(tactic| (k_here; with_reducible (first | refine meth_rfind ?_ | refine meth_split ?_ | refine meth_join ?_)))
local macro_rules | `(tactic| walk_at "truthy bytes") => `(tactic| (k_here; k_dflt (refine truthy_b (by first | assumption | omega) ?_)))
local macro_rules | `(tactic| walk_at "truthy ref") => `(tactic| (k_here; k_dflt (first | (refine truthy_snoc (by k_asm) (by k_mem) (by omega) ?_) | (refine truthy_nil (by k_asm) (by k_mem) ?_))))
local macro_rules | `(tactic| walk_at "subscriptTail Name UnaryOp ref int") => `(tactic| (k_here; k_dflt (refine item_last (by k_asm) (by k_mem) ?_)))
local macro_rules | `(tactic| walk_at "call builtin:list.pop") => `(tactic| (k_here; k_dflt (refine pop_last (by k_asm) (by k_asm) (by k_upd) (by omega) ?_); intro h' F' N'))
local macro_rules | `(tactic| walk_at "UnrEnd") => `(tactic| k_dflt (k_extra "UnrEnd"))
set_option maxRecDepth 100000
set_option maxHeartbeats 8000000
theorem says_norm_b (w : World) (l : List Nat) (t0 : Tok) (hl : l.length ≤ 200) (ho : Oct l) : Says w 146 3 [.bytes (byt l) t0] (fun t => .bytes (byt (nrm l)) t) := by
  have hx' : (byt l).size ≤ 200 := by (first | rw [stx_len] | rw [byt_len]); omega
  have hxr' : (byt (rt l)).size ≤ 2 := by
    (first | rw [stx_len] | rw [byt_len])
    rcases rt_cases l with e | e | e <;> rw [e] <;> decide
  have htl : (tl l).length ≤ 200 := by
    unfold tl
    rw [List.length_drop]; omega
  have hxt' : (byt (tl l)).size ≤ 200 := by (first | rw [stx_len] | rw [byt_len]); exact htl
  have hsl := sp_len (tl l)
  have hot := oct_tl ho
  have hspo := says_sroot_of_b w l
  generalize hx : byt l = x at hx' hspo
  generalize hxr : byt (rt l) = xr at hxr' hspo
  generalize hxt : byt (tl l) = xt at hxt' hspo
  unfold Says
  k_with_none
  w_top off
  k_fill
  intro mean mg mb dp un gd cn cs a ccd cl outer A₀ base h₀ L m news s Q E B F X N T hk hd hu hret
  refine wpAny_call ?_
  k_dflt cell_enter
  (rename Fr _ _ _ _ => F1'); (replace F1' := frame1 F1' (by with_unfolding_all rfl)); (try dsimp only at F1')
  k_with "call ref" => k_dflt (first
    | (refine' Says.use ?kC ?k1 ?k2 ?k3 ?k4 ?k5 ?kK ?kd ?ku ?_
       (case kC => exact says_fspath_b _ _ _)
       (case k1 => k_asm); (case k2 => k_asm); (case k3 => k_asm); (case k4 => k_asm); (case k5 => k_asm); (case kK => first | exact rfl | assumption); (case kd => ktr_room); (case ku => ktr_units)
       k_whole
       intro t9 h9 tk9 F9 N9
       (try dsimp only)
       (try k_fold))
    | (refine' SaysT.use ?kC ?k1 ?k2 ?k3 ?k4 ?k5 ?kK ?kd ?ku ?_
       (case kC => exact hspo _ hl ho)
       (case k1 => k_asm); (case k2 => k_asm); (case k3 => k_asm); (case k4 => k_asm); (case k5 => k_asm); (case kK => first | exact rfl | assumption); (case kd => ktr_room); (case ku => ktr_units)
       k_whole
       intro us9 b9 h9 tk9 hus9 F9 N9 l9
       obtain ⟨t91, t92, t93, e9⟩ := hus9
       subst e9
       (try k_lt l9)
       (try dsimp only)
       (try k_fold)))
  k_with "exec For Name Name cons nil" => ((rename Fr _ _ _ _ => lF'); (with_unfolding_all refine' For_invVF lF' ?k1 ?k2 ?_; (case k1 => exact rfl); (case k2 => exact rfl); k_whole))
  k_with "call builtin:bytes.split" => k_dflt (refine call_split (by k_asm) (by k_asm) (by rw [← hxt, bspl_byt _ hot, List.length_map, sizeLine_eq]; omega) (by (rw [← hxt, bspl_byt _ hot, sizeLine_eq]; intro p hp; obtain ⟨q, hq, rfl⟩ := List.mem_map.mp hp; have := sp_mem_len _ q hq; rw [byt_len]; omega)) ?_; intro D' lv' h' k' hlv' F' N' l1; (try k_lt l1))
  k_with "pyIter ref" => k_dflt (
    (rename Fr _ _ _ _ => hF)
    (rename News _ _ _ _ => hN)
    (rename List (Array UInt8 × Tok) => lv)
    (rename List.map _ _ = bspl _ _ => hsp)
    (have hsp' : lv.map (·.1) = (sp (tl l)).map byt := by (rw [hsp, ← hxt, bspl_byt _ hot]))
    (with_unfolding_all refine NJ.iter bytValues Value.bytes (fun _ => rfl) byt (stp (decide (rt l ≠ []))) (cs := sp (tl l)) (lv := lv) hN hF (by rfl) hsp' Oct (fun i => fold_good _ _ (oct_sp hot) oct_dd i) ?g4 ?g5 (fun i => fold_take _ _ i))
    (case' g4 => (
      intro I it nn ys h tk c y tp S hG9 hc9 hS9 hy9 hys hI9 hne F₁ N₁
      (rename (_ < _ ∧ _ < _ ∧ AllLt _ _) => hAL)
      have hoff := ownOff_of hAL.2.2
      have hyz : y.size ≤ 200 := by (
        rw [← hy9]; (first | rw [stx_len] | rw [byt_len]); have := sp_mem_len _ c hc9; omega)
      have hoc := oct_sp hot c hc9
      rcases NJ.cases (vals := bytValues) (mk := Value.bytes) (fun _ => rfl) hys with ⟨e9, eS⟩ | ⟨ys1, yl, tl9, S1, d9, e9, eS, hd9, hys1, e10, hyl9⟩))
    (case' g4.inl => (subst e9; subst eS))
    (case' g4.inr => (
      subst e9
      subst eS
      rw [e10] at hne N₁
      have hyl8 : (bytValues ys1).length ≤ 300 := by (simp only [List.length_append, List.length_cons, List.length_nil] at hS9; omega)
      have hod := hG9 d9 (by simp)
      skip))
    (case' g5 => (intro nn ys u h tk hys F₁ N₁)))
  k_with "UnrEnd" => (first
    | (have hq9 : stp (decide (rt l ≠ [])) (S1 ++ [d9]) c = S1 ++ [d9] := stp_skip (by first | exact .inl (cB0' hy9 (by with_reducible assumption)) | exact .inr (cB1 hoc hy9 (by with_reducible assumption)))
       refine NJ.made (ys := ys1 ++ [(yl, tl9)]) (by with_reducible assumption) (by with_reducible assumption) (by rw [e10]) hne (fun z hz => if_neg hz) ?_
       rw [hq9]
       exact hys)
    | (have hq9 : stp (decide (rt l ≠ [])) [] c = [] := stp_skip (by first | exact .inl (cB0' hy9 (by with_reducible assumption)) | exact .inr (cB1 hoc hy9 (by with_reducible assumption)))
       refine NJ.made (ys := ([] : List (Array UInt8 × Tok))) (by with_reducible assumption) (by with_reducible assumption) (by with_unfolding_all rfl) hne (fun z hz => if_neg hz) ?_
       rw [hq9]
       rfl)
    | (have hq9 : stp (decide (rt l ≠ [])) (S1 ++ [d9]) c = (S1 ++ [d9]) ++ [c] := stp_push (by rintro (e | e); exact cB0 hy9 (by with_reducible assumption) e; exact cB1' hoc hy9 (by with_reducible assumption) e) (cB2 hoc hy9 (by with_reducible assumption))
       refine NJ.made (ys := ys1 ++ [(yl, tl9)] ++ [(y, tp)]) (by with_reducible assumption) (by with_reducible assumption) (by simp only [bytValues, List.map_append, List.map_cons, List.map_nil, List.push_toArray]) hne (fun z hz => if_neg hz) ?_
       rw [hq9]
       simp only [List.map_append, List.map_cons, List.map_nil, hys1, hd9, hy9])
    | (have hq9 : stp (decide (rt l ≠ [])) [] c = [] ++ [c] := stp_push (by rintro (e | e); exact cB0 hy9 (by with_reducible assumption) e; exact cB1' hoc hy9 (by with_reducible assumption) e) (cB2 hoc hy9 (by with_reducible assumption))
       refine NJ.made (ys := [(y, tp)]) (by with_reducible assumption) (by with_reducible assumption) (by with_unfolding_all rfl) hne (fun z hz => if_neg hz) ?_
       rw [hq9]
       simp only [List.nil_append, List.map_cons, List.map_nil, hy9])
    | (have hq9 : stp (decide (rt l ≠ [])) (S1 ++ [d9]) c = (S1 ++ [d9]) ++ [c] := stp_dd1 (cB2' hoc hy9 (by with_reducible assumption)) (cB3 hod hd9 (by with_reducible assumption))
       refine NJ.made (ys := ys1 ++ [(yl, tl9)] ++ [(y, tp)]) (by with_reducible assumption) (by with_reducible assumption) (by simp only [bytValues, List.map_append, List.map_cons, List.map_nil, List.push_toArray]) hne (fun z hz => if_neg hz) ?_
       rw [hq9]
       simp only [List.map_append, List.map_cons, List.map_nil, hys1, hd9, hy9])
    | (have hq9 : stp (decide (rt l ≠ [])) (S1 ++ [d9]) c = S1 := stp_dd2 (cB2' hoc hy9 (by with_reducible assumption)) (cB3' hod hd9 (by with_reducible assumption))
       refine NJ.made (ys := ys1) (by with_reducible assumption) (by with_reducible assumption) (rfl) hne (fun z hz => if_neg hz) ?_
       rw [hq9]
       exact hys1)
    | (have hq9 : stp (decide (rt l ≠ [])) [] c = [] ++ [c] := by rw [abs_b hxr (by with_reducible assumption)]; exact stp_dd0 c (cB2' hoc hy9 (by with_reducible assumption))
       refine NJ.made (ys := [(y, tp)]) (by with_reducible assumption) (by with_reducible assumption) (by with_unfolding_all rfl) hne (fun z hz => if_neg hz) ?_
       rw [hq9]
       simp only [List.nil_append, List.map_cons, List.map_nil, hy9])
    | (have hq9 : stp (decide (rt l ≠ [])) [] c = [] := by rw [abs_b' hxr (by with_reducible assumption)]; exact stp_dd0' c (cB2' hoc hy9 (by with_reducible assumption))
       refine NJ.made (ys := ([] : List (Array UInt8 × Tok))) (by with_reducible assumption) (by with_reducible assumption) (by with_unfolding_all rfl) hne (fun z hz => if_neg hz) ?_
       rw [hq9]
       rfl))
  k_with "call builtin:bytes.join" => k_dflt (
    refine join_b (ns := nms l) (by k_asm) (by k_mem) rfl rfl (by rw [hys, fold_nms]) (fun p hp => by have := nms_mem_len l p hp; omega) (by have := nms_len l; omega) ?_
    intro yj tj kj hyj
    have hyj' : yj.size ≤ 1000000 := by (
      rw [← hyj]; (first | rw [stx_len] | rw [byt_len])
      have h1 := jn_len (nms l) fun p hp => by have := nms_mem_len l p hp; omega
      have h2 := nms_len l
      omega))
  k_with "binaryOp Add bytes bytes" => k_dflt (refine add_bb hxr hyj (by omega) ?_; intro zz tz kz hzz hzz2)
  k_steps
  all_goals first
    | exact cb_retBy (Q := Q) hret (nfin_b2 hzz (by with_reducible assumption)) (by k_asm) (by first | with_reducible assumption | (refine' cb_drop ?cbN ?cbS; (case cbN => with_reducible assumption); (case cbS => kcj_all)))
    | exact cb_retBy (Q := Q) hret (nfin_b3 hzz (by with_reducible assumption)) (by k_asm) (by first | with_reducible assumption | (refine' cb_drop ?cbN ?cbS; (case cbN => with_reducible assumption); (case cbS => kcj_all)))
    | exact cb_retBy (Q := Q) hret (nfin_b1 hx (by with_reducible assumption)) (by k_asm) (by first | with_reducible assumption | (refine' cb_drop ?cbN ?cbS; (case cbN => with_reducible assumption); (case cbS => kcj_all)))
end Mine
end

section
open PySem PySem.W PyProof.Rows PySem.Spec PySem.Calls
namespace Mine
set_option maxRecDepth 100000
set_option maxHeartbeats 8000000
theorem dwI0_b {k : Int} (l : List Nat) (h : k = 0) : byt (nm l) = byt (twinI k l) := by unfold twinI; rw [if_pos h]
theorem dwI1_b {k : Int} (l : List Nat) (h0 : k ≠ 0) (h : k = 1) : byt (nrm l) = byt (twinI k l) := by unfold twinI; rw [if_neg h0, if_pos h]
theorem dwI2_b {k : Int} (l : List Nat) (h0 : k ≠ 0) (h1 : k ≠ 1) (h : k = 2) : byt (ext l) = byt (twinI k l) := by unfold twinI; rw [if_neg h0, if_neg h1, if_pos h]
theorem dwI3_b {k : Int} (l : List Nat) (h0 : k ≠ 0) (h1 : k ≠ 1) (h : k ≠ 2) : byt (rt l) = byt (twinI k l) := by unfold twinI; rw [if_neg h0, if_neg h1, if_neg h]
theorem says_deed_b (w : World) (k : Int) (tk0 : Tok) (l : List Nat) (t0 : Tok) (hl : l.length ≤ 200) (ho : Oct l) : Says w 228 4 [.int k tk0, .bytes (byt l) t0] (fun t => .bytes (byt (twinI k l)) t) := by
  have hname := fun t0 => says_G_base_b w l t0 (by omega) ho
  have hroot := fun t0 => says_sroot_of_b w l t0 hl ho
  have hend := fun t0 => says_ext_b w l t0 hl ho
  have hnorm := fun t0 => says_norm_b w l t0 hl ho
  generalize hx : byt l = x at hname hroot hend hnorm
  unfold Says
  k_with_none
  w_top off
  k_fill
  intro mean mg mb dp un gd cn cs a ccd cl outer A₀ base h₀ L m news s Q E B F X N T hk hd hu hret
  refine wpAny_call ?_
  k_dflt cell_enter
  k_with "call ref" => k_dflt (first
    | (
       refine' Says.use ?kC ?k1 ?k2 ?k3 ?k4 ?k5 ?kK ?kd ?ku ?_
       (case kC => first | exact hname _ | exact hnorm _)
       (case k1 => k_asm); (case k2 => k_asm); (case k3 => k_asm); (case k4 => k_asm); (case k5 => k_asm); (case kK => first | exact rfl | assumption); (case kd => ktr_room); (case ku => ktr_units)
       k_whole
       intro t9 h9 tk9 F9 N9
       (try dsimp only)
       (try k_fold))
    | (
       refine' SaysT.use ?kC ?k1 ?k2 ?k3 ?k4 ?k5 ?kK ?kd ?ku ?_
       (case kC => first | exact hend _ | exact hroot _)
       (case k1 => k_asm); (case k2 => k_asm); (case k3 => k_asm); (case k4 => k_asm); (case k5 => k_asm); (case kK => first | exact rfl | assumption); (case kd => ktr_room); (case ku => ktr_units)
       k_whole
       intro us9 b9 h9 tk9 hus9 F9 N9 l9
       (first | (obtain ⟨t91, t92, t93, e9⟩ := hus9; subst e9) | (obtain ⟨v91, t92, e9⟩ := hus9; subst e9))
       (try dsimp only)
       (try k_fold)))
  k_steps
  all_goals first
    | exact cb_retBy (Q := Q) hret (dwI0_b l (by omega)) (by k_asm) (by first | k_asm | (refine' cb_drop ?cbN ?cbS; (case cbN => assumption); (case cbS => kcj_all)))
    | exact cb_retBy (Q := Q) hret (dwI1_b l (by omega) (by omega)) (by k_asm) (by first | k_asm | (refine' cb_drop ?cbN ?cbS; (case cbN => assumption); (case cbS => kcj_all)))
    | exact cb_retBy (Q := Q) hret (dwI2_b l (by omega) (by omega) (by omega)) (by k_asm) (by first | k_asm | (refine' cb_drop ?cbN ?cbS; (case cbN => assumption); (case cbS => kcj_all)))
    | exact cb_retBy (Q := Q) hret (dwI3_b l (by omega) (by omega) (by omega)) (by k_asm) (by first | k_asm | (refine' cb_drop ?cbN ?cbS; (case cbN => assumption); (case cbS => kcj_all)))
end Mine
end

section
open PySem PySem.W PyProof.Rows PySem.Spec PySem.Calls
namespace Mine
open LCg
section
variable {prog : Program} {w : World} {A : Around} {E : Value → Shared → Prop} {s : Shared} {h₀ : Heap} {L : Addr} {m : Str → Option Value} {env : Env}
theorem str_st {I : Addr} {c : String} {x : Str} {t : Tok} : ∀ i (h h' : Heap) (o : Obj) (nw : List (Addr × Obj)), h.IsStrIter I c x t i → h.get? I = some o → h'.get? I = some o → (∀ b o, h₀.get? b = some o → h'.get? b = some o) → News h₀ L h' nw → True → h'.IsStrIter I c x t i :=
  fun i h h' o nw st e e' _ _ _ => by obtain ⟨o', q, r⟩ := st; rw [e] at q; cases q; exact ⟨o, e', r⟩
/-- The comprehension over a text, one clause, no test. -/
theorem ListComp_T {elt iter : Expr} {x : Str} {px : Pos} {scope : Scope} {cl : List (Str × Addr)} {pos : Pos} {Q : Value → Shared → Prop}
    (hclos : closureFor scope env = pure cl) (hcell : ∀ y ∈ scope.names, y.2 ≠ .cell) (hkind : scope.kind = .function)
    (hnames : ∀ y ∈ scope.names, y.2 = .local → scope.names.lookup y.1 = some .local) (hx : scope.names.lookup x = some .local)
    (h : wpAny (model prog w) A (eval iter env) (fun xv s₁ => ∃ tx t news, xv = .str tx t ∧ A.handled = none ∧ Fr h₀ L s₁.heap m ∧ News h₀ L s₁.heap news ∧ tx.cps.size ≤ sizeLine ∧
      ∀ g, CompRest prog w A h₀ L m env elt x scope cl { s₁ with heap := g } (fun _ => True) (SignAt tx) (FinE h₀ L m { s₁ with heap := g } Q) tx.cps.size 0 [] news) E s)
    (hs : ∀ x, foldedSetIterable iter env x = pure x := by intro _; rfl) :
    wpAny (model prog w) A (eval (.ListComp elt [⟨.Name x px, iter, [], 0⟩] scope pos) env) Q E s := by
  rw [eval_ListComp]
  refine wpAny_comprehension_free (use := none) rfl hs hclos hkind hnames (wpAny_mono h (fun xv s₁ h₁ => ?_) fun _ _ e => e)
  obtain ⟨tx, t, news, rfl, hh, F, N, hsz, R⟩ := h₁
  have fin : ∀ (s₂ : Shared), (∀ D C h tk m' ys news', Fr h₀ L h m → News h₀ L h ((D, lst ys) :: news') → Off1 D news' → h.Ns C m' → h₀.get? C = none → h₀.get? D = none → C ≠ L → D ≠ L → C ≠ D → (∀ p ∈ news', p.1 ≠ C) → FinE h₀ L m s₂ Q ys news' →
      ∃ m', h.Ns C m' ∧ ∀ h'', Heap.SameBut C h h'' → Q (.ref D) { s₂ with heap := h'', toks := tk }) := by
    intro s₂ D C h tk m' ys news' F' N' o1 hn hC₀ hD₀ hCL hDL hCD offC fin
    refine ⟨m', hn, fun h'' hs'' => fin D h'' tk (F'.change hs'' hCL hC₀) (fun p hp => ?_) o1⟩
    refine ⟨hs''.extBut _ _ ?_ (N' p hp).1, (N' p hp).2⟩
    rcases List.mem_cons.mp hp with rfl | hp
    · exact Ne.symm hCD
    · exact offC p hp
  cases ha : tx.cps.all (· < 128)
  · refine wpAny_pyIter_wide ha ?_
    refine block_U (Walks.strWide hh s₁.heap.objs.size tx t) hsz (fun i h st => by obtain ⟨o, e, _⟩ := st; exact ⟨o, e⟩) str_st hcell hkind hx ⟨_, Heap.get?_push_size _ rfl, rfl, rfl⟩ (fun b hb => ?_)
      (F.keeps fun _ _ e => Heap.get?_push_of_some _ e) (N.grown fun _ _ e => Heap.get?_push_of_some _ e) (Nat.ne_of_lt F.ns.lt) (next_is_new F) (fun p hp => Nat.ne_of_lt (Heap.lt_size (N p hp).1)) trivial (R _) ?_
    · rw [List.mem_singleton.mp hb]
      show s₁.heap.objs.size < (s₁.heap.push _).objs.size
      rw [Heap.size_push]; exact Nat.lt_succ_self _
    · intro D C h tk m' ys news' F' N' o1 hn hC₀ hD₀ hCL hDL hCD offC fn
      exact fin _ D C h tk m' ys news' F' N' o1 hn hC₀ hD₀ hCL hDL hCD offC fn
  · refine wpAny_pyIter_ascii ha ?_
    refine block_U (Walks.strAscii hh s₁.heap.objs.size tx t) hsz (fun i h st => by obtain ⟨o, e, _⟩ := st; exact ⟨o, e⟩) str_st hcell hkind hx ⟨_, Heap.get?_push_size _ rfl, rfl, rfl⟩ (fun b hb => ?_)
      (F.keeps fun _ _ e => Heap.get?_push_of_some _ e) (N.grown fun _ _ e => Heap.get?_push_of_some _ e) (Nat.ne_of_lt F.ns.lt) (next_is_new F) (fun p hp => Nat.ne_of_lt (Heap.lt_size (N p hp).1)) trivial (R _) ?_
    · rw [List.mem_singleton.mp hb]
      show s₁.heap.objs.size < (s₁.heap.push _).objs.size
      rw [Heap.size_push]; exact Nat.lt_succ_self _
    · intro D C h tk m' ys news' F' N' o1 hn hC₀ hD₀ hCL hDL hCD offC fn
      exact fin _ D C h tk m' ys news' F' N' o1 hn hC₀ hD₀ hCL hDL hCD offC fn
end
end Mine
end

section
open PySem PySem.W PyProof.Rows PySem.Spec PySem.Calls
namespace Mine
open LCg
section
variable {prog : Program} {w : World} {A : Around} {E : Value → Shared → Prop} {s : Shared} {h₀ : Heap} {L : Addr} {m : PySem.Str → Option Value} {env : Env} {elt : PySem.Expr} {x : PySem.Str} {scope : Scope} {cl : List (PySem.Str × Addr)}
def TxtSrc (prog : Program) (w : World) (A : Around) (h₀ : Heap) (L : Addr) (m : PySem.Str → Option Value) (env : Env) (elt : PySem.Expr) (x : PySem.Str) (scope : Scope) (cl : List (PySem.Str × Addr)) (Q : Value → Shared → Prop) (xv : Value) (s₁ : Shared) : Prop :=
  ∃ tx t news, xv = .str tx t ∧ A.handled = none ∧ Fr h₀ L s₁.heap m ∧ News h₀ L s₁.heap news ∧ tx.cps.size ≤ sizeLine ∧
      ∀ g, CompRest prog w A h₀ L m env elt x scope cl { s₁ with heap := g } (fun _ => True) (SignAt tx) (FinE h₀ L m { s₁ with heap := g } Q) tx.cps.size 0 [] news
theorem ListComp_T' {iter : PySem.Expr} {px : Pos} {pos : Pos} {Q : Value → Shared → Prop} (_F₀ : Fr h₀ L s.heap m)
    (hclos : closureFor scope env = pure cl) (hcell : ∀ y ∈ scope.names, y.2 ≠ .cell) (hkind : scope.kind = .function)
    (hnames : ∀ y ∈ scope.names, y.2 = .local → scope.names.lookup y.1 = some .local) (hx : scope.names.lookup x = some .local)
    (h : wpAny (model prog w) A (eval iter env) (TxtSrc prog w A h₀ L m env elt x scope cl Q) E s)
    (hs : ∀ x, foldedSetIterable iter env x = pure x := by intro _; rfl) :
    wpAny (model prog w) A (eval (.ListComp elt [⟨.Name x px, iter, [], 0⟩] scope pos) env) Q E s :=
  ListComp_T hclos hcell hkind hnames hx h hs
theorem rest_ord {x' : PySem.Str} {l : List Nat} {news : List (Addr × Obj)} {Fin : List Value → List (Addr × Obj) → Prop} (hl : stx l = x')
    (turn : ∀ (c : Nat) u I oI C oC D m₂ ys h tk (E' : Value → Shared → Prop), c ∈ l → NsObj oC m₂ → m₂ x = some (.str ⟨#[c]⟩ u) → Fr h₀ L h m → News h₀ L h ((I, oI) :: (C, oC) :: (D, lst ys) :: news) → Off3 I C D news → ((@Ne Nat I C) ∧ (@Ne Nat I D) ∧ (@Ne Nat C D)) →
      wpAny (model prog w) A (eval elt (compEnvC scope cl C env)) (CompEnd h₀ L m { s with heap := h, toks := tk } I oI C oC D (lst ys) (fun _ => True) (KCfEl news (c : Int))) E' { s with heap := h, toks := tk })
    (fin : ∀ ys, IntsAre ys (l.map fun (n : Nat) => (n : Int)) → Fin ys news) :
    CompRest prog w A h₀ L m env elt x scope cl s (fun _ => True) (SignAt x') Fin x'.cps.size 0 [] news := by
  subst hl
  have hsz : (stx l).cps.size = l.length := by simp [stx]
  have key : ∀ (j i : Nat) (ys : List Value), i + j = l.length → IntsAre ys ((l.take i).map fun (n : Nat) => (n : Int)) → CompRest prog w A h₀ L m env elt x scope cl s (fun _ => True) (SignAt (stx l)) Fin j i ys news := by
    intro j
    induction j with
    | zero =>
      intro i ys hi hy
      have e : i = l.length := by omega
      subst e
      rw [List.take_length] at hy
      exact CompRest.zero (fin ys hy)
    | succ j ih =>
      intro i ys hi hy
      refine CompRest.succ ?_
      intro v I oI C oC D m₂ h tk E' hv hC hx F N off ne
      obtain ⟨c, u, hk, hv'⟩ := hv
      have hk' : l[i]? = some c := by simpa [stx] using hk
      rw [hv'] at hx
      refine wpAny_mono (turn c u I oI C oC D m₂ ys h tk E' (List.mem_of_getElem? hk') hC hx F N off ne) (fun y s₂ hq => ?_) fun _ _ e => e
      obtain ⟨h', tk', nw, e, F', N', off', hS, hn, t', hy'⟩ := hq
      rw [hn] at N' off'
      refine ⟨h', tk', news, e, F', N', off', hS, ?_⟩
      rw [hy']
      refine ih (i + 1) _ (by omega) ?_
      rw [List.take_add_one, hk']
      simpa using IntsAre.append hy (.cons (c : Int) t' .nil)
  rw [hsz]
  exact key l.length 0 [] (by omega) (by simp only [List.take_zero, List.map_nil]; exact .nil)
end
end Mine
end

section
open PySem PySem.W PyProof.Rows PySem.Spec PySem.Calls
namespace Mine
set_option maxRecDepth 100000
set_option maxHeartbeats 8000000
theorem byt_arr (l : List Nat) : byteArr (l.map fun (n : Nat) => (n : Int)) = byt l := by
  unfold byteArr byt
  rw [List.map_map]
  rfl
theorem oct_ints {l : List Nat} (ho : Oct l) : ∀ n ∈ (l.map fun (n : Nat) => (n : Int)), 0 ≤ n ∧ n < 256 := by
  intro n hn
  obtain ⟨c, hc, rfl⟩ := List.mem_map.1 hn
  have := ho c hc
  omega
theorem says_kind_b (w : World) (l : List Nat) (t0 : Tok) (hl : l.length ≤ 200) (ho : Oct l) : Says w 233 1 [.str (stx l) t0, .bool true] (fun t => .bytes (byt l) t) := by
  have hsz : (stx l).cps.size ≤ 200 := by simpa [stx] using hl
  have hxl : (stx l).length ≤ 200 := by rw [stx_len]; exact hl
  have hin := oct_ints ho
  have hlen : (l.map fun (n : Nat) => (n : Int)).length ≤ 200 := by simpa using hl
  generalize hx : stx l = x at hsz hxl
  unfold Says
  k_with_none
  w_top off
  k_fill
  intro mean mg mb dp un gd cn cs a ccd cl outer A₀ base h₀ L m news s Q E B F X N T hk hd hu hret
  refine wpAny_call ?_
  k_dflt cell_enter
  (rename Fr _ _ _ _ => F1')
  k_with "eval ListComp" => k_dflt (refine ListComp_T' (by k_asm) (by with_unfolding_all rfl) (by decide) (by rfl) (by decide) (by rfl) ?_)
  k_with "TxtSrc" => k_dflt (
    refine' ⟨_, _, _, rfl, ?a1, ?a2, ?a3, ?a4, ?_⟩
    (case a1 => rfl); (case a2 => k_asm); (case a3 => k_asm); (case a4 => (rw [PySem.sizeLine_eq]; omega))
    intro g'
    refine' rest_ord hx ?t1 ?t2)
  k_steps
  all_goals first
    | exact ⟨_, _, _, rfl, by k_asm, by k_asm, by assumption, trivial, rfl, _, rfl⟩
    | exact cb_retBy (Q := Q) hret (byt_arr l) (by k_asm) (by first | k_asm | (refine' cb_drop ?cbN ?cbS; (case cbN => assumption); (case cbS => kcj_all)))
theorem says_kind_s (w : World) (l : List Nat) (t0 : Tok) (hl : l.length ≤ 200) : Says w 233 1 [.str (stx l) t0, .bool false] (fun t => .str (stx l) t) := by
  generalize hx : stx l = x
  unfold Says
  k_with_none
  w_top off
  k_fill
  intro mean mg mb dp un gd cn cs a ccd cl outer A₀ base h₀ L m news s Q E B F X N T hk hd hu hret
  refine wpAny_call ?_
  k_dflt cell_enter
  (rename Fr _ _ _ _ => F1')
  k_steps
  all_goals first
    | exact cb_retS (Q := Q) hret rfl (by k_asm) (by first | k_asm | (refine' cb_drop ?cbN ?cbS; (case cbN => assumption); (case cbS => kcj_all)))
end Mine
end

section
namespace Mine
def wt : List (List Nat) → Nat
  | [] => 0
  | p :: r => p.length + 1 + wt r
theorem jn_wt : ∀ ps : List (List Nat), (jn ps).length ≤ wt ps
  | [] => Nat.le_refl _
  | [p] => by show p.length ≤ p.length + 1 + 0; omega
  | p :: q :: r => by
    have ih := jn_wt (q :: r)
    rw [jn_cons p (by simp), List.length_append, List.length_cons]
    show _ ≤ p.length + 1 + wt (q :: r)
    omega
theorem wt_append : ∀ a b : List (List Nat), wt (a ++ b) = wt a + wt b
  | [], b => by show wt b = 0 + wt b; omega
  | p :: r, b => by
    show p.length + 1 + wt (r ++ b) = p.length + 1 + wt r + wt b
    rw [wt_append r b]; omega
theorem wt_dots : ∀ k : Nat, wt (List.replicate k [46, 46]) = 3 * k
  | 0 => rfl
  | k + 1 => by
    rw [List.replicate_succ]
    show 2 + 1 + wt (List.replicate k [46, 46]) = _
    rw [wt_dots k]; omega
theorem sp_wt : ∀ l : List Nat, wt (sp l) = l.length + 1
  | [] => rfl
  | c :: r => by
    have ih := sp_wt r
    unfold sp
    split
    · show 0 + 1 + wt (sp r) = _
      rw [ih, List.length_cons]; omega
    · split
      · rename_i e; exact absurd e (sp_ne r)
      · rename_i q qs e
        rw [e] at ih
        have h1 : wt (q :: qs) = q.length + 1 + wt qs := rfl
        have h2 : wt ((c :: q) :: qs) = (c :: q).length + 1 + wt qs := rfl
        rw [h2, List.length_cons, List.length_cons]; omega
theorem bk_wt : ∀ cs : List (List Nat), 3 * (bk cs).1 + wt (bk cs).2 ≤ wt cs
  | [] => Nat.le_refl _
  | c :: r => by
    have ih := bk_wt r
    have h1 : wt (c :: r) = c.length + 1 + wt r := rfl
    unfold bk
    split
    · rename_i e
      rw [h1, e]; simp only [List.length_cons, List.length_nil]; omega
    · split
      · rw [h1]; omega
      · split
        · rename_i e
          have h2 : wt (c :: (bk r).2) = c.length + 1 + wt (bk r).2 := rfl
          rw [h1]; simp only [h2]; omega
        · rw [h1]; simp only; omega
theorem nms_wt (l : List Nat) : wt (nms l) ≤ l.length + 1 := by
  have h1 := bk_wt (sp l)
  have h2 := sp_wt l
  unfold nms
  split
  · rw [wt_append, wt_dots]; omega
  · omega
theorem nrm_len (l : List Nat) : (nrm l).length ≤ l.length + 3 := by
  have h1 := nms_wt l
  have h2 := jn_wt (nms l)
  have h3 : (rt l).length ≤ 2 := by rcases rt_cases l with h | h | h <;> rw [h] <;> decide
  unfold nrm
  split
  · simp only [List.length_cons, List.length_nil]; omega
  · unfold whole
    rw [List.length_append]; omega
theorem rt_len (l : List Nat) : (rt l).length ≤ 2 := by rcases rt_cases l with h | h | h <;> rw [h] <;> decide
/-- the word j at the path p -/
def wd (p : List Nat) (j : Nat) : List Nat := (words p).getD j []
theorem words_ok {p : List Nat} (hp : p.length ≤ 100) (ho : Oct p) : ∀ q ∈ words p, q.length ≤ 200 ∧ Oct q := by
  have a0 := nrm_len p
  have a1 := nm_len p
  have a2 := ext_len p
  have a3 := rt_len p
  have a4 := nrm_len (nm p)
  have a5 := rt_len (nm p)
  have a6 := nm_len (nrm p)
  have a7 := ext_len (nrm p)
  have a8 := nrm_len (ext p)
  have a9 := nrm_len (rt p)
  have b0 := nrm_len (rt (nm p))
  have b1 := nrm_len (nm (nrm p))
  have b2 := nrm_len (ext (nrm p))
  have b3 := nm_len (nrm (rt p))
  intro q hq
  unfold words at hq
  simp only [List.mem_cons, List.not_mem_nil, or_false] at hq
  rcases hq with rfl | rfl | rfl | rfl | rfl | rfl | rfl | rfl | rfl | rfl | rfl | rfl | rfl | rfl | rfl
  · exact ⟨by omega, ho⟩
  · exact ⟨by omega, oct_nm ho⟩
  · exact ⟨by omega, oct_nrm ho⟩
  · exact ⟨by omega, oct_ext ho⟩
  · exact ⟨by omega, oct_rt _⟩
  · exact ⟨by omega, oct_nrm (oct_nm ho)⟩
  · exact ⟨by omega, oct_rt _⟩
  · exact ⟨by omega, oct_nm (oct_nrm ho)⟩
  · exact ⟨by omega, oct_ext (oct_nrm ho)⟩
  · exact ⟨by omega, oct_nrm (oct_ext ho)⟩
  · exact ⟨by omega, oct_nrm (oct_rt _)⟩
  · exact ⟨by omega, oct_nrm (oct_rt _)⟩
  · exact ⟨by omega, oct_nrm (oct_nm (oct_nrm ho))⟩
  · exact ⟨by omega, oct_nrm (oct_ext (oct_nrm ho))⟩
  · exact ⟨by omega, oct_nm (oct_nrm (oct_rt _))⟩
theorem wd_ok {p : List Nat} (hp : p.length ≤ 100) (ho : Oct p) (j : Nat) : (wd p j).length ≤ 200 ∧ Oct (wd p j) := by
  unfold wd
  rcases Nat.lt_or_ge j (words p).length with h | h
  · rw [List.getD_eq_getElem?_getD, List.getElem?_eq_getElem h]
    exact words_ok hp ho _ (List.getElem_mem h)
  · rw [List.getD_eq_getElem?_getD, List.getElem?_eq_none h]
    exact ⟨Nat.zero_le _, fun _ h => nomatch h⟩
def steps : List (Nat × Nat) := [(0, 0), (1, 0), (2, 0), (3, 0), (1, 1), (3, 1), (0, 2), (2, 2), (1, 3), (1, 4), (1, 6), (1, 7), (1, 8), (0, 10)]
theorem twinI_nat (k : Nat) (l : List Nat) : twinI (k : Int) l = twin k l := by
  unfold twinI twin
  simp only [Int.natCast_eq_zero]
  have h1 : ((k : Int) = 1) ↔ k = 1 := by omega
  have h2 : ((k : Int) = 2) ↔ k = 2 := by omega
  simp only [h1, h2]
theorem wd_step (p : List Nat) : ∀ i, i < 14 → twinI (((steps.getD i (0, 0)).1 : Nat) : Int) (wd p (steps.getD i (0, 0)).2) = wd p (i + 1) := by
  intro i hi
  rw [twinI_nat]
  match i, hi with
  | 0, _ => rfl
  | 1, _ => rfl
  | 2, _ => rfl
  | 3, _ => rfl
  | 4, _ => rfl
  | 5, _ => rfl
  | 6, _ => rfl
  | 7, _ => rfl
  | 8, _ => rfl
  | 9, _ => rfl
  | 10, _ => rfl
  | 11, _ => rfl
  | 12, _ => rfl
  | 13, _ => rfl
  | n + 14, h => omega
theorem wd_next (p : List Nat) {w : Nat} (hw : w < 15) {k : Nat} (hk : k < 4) : twinI (k : Int) (wd p w) = wd p ((nexts.getD w []).getD k 0) := by
  rw [twinI_nat]
  exact word_table p w hw k hk
/-- the three typed paths part the words -/
def typed : List (List Nat) := [[97, 46, 98], [97, 46, 98, 47], [47]]
theorem typed_part : ∀ a, a < 15 → ∀ b, b < a → (typed.map fun p => wd p a) ≠ (typed.map fun p => wd p b) := by
  decide +kernel
end Mine
end

section
open PySem PySem.W PyProof.Rows PySem.Spec PySem.Calls PySem.Builtin
namespace Mine
set_option maxRecDepth 100000
section
variable {prog : Program} {w : World} {A : Around} {E : Value → Shared → Prop} {s : Shared} {env : Env} {h₀ : Heap} {target : PySem.Expr} {body : List Stmt} {Q : Flow → Shared → Prop}
/-- as loop_J, the target of any kind (a tuple, a cell): its assignment is walked -/
theorem turns_J {I : Addr} {fp : List Addr} {n : Nat} {P : Nat → Value → Prop} {St : Nat → Heap → Prop} {m₀ : PySem.Str → Option Value} {news₀ : List (Addr × Obj)} (c : Value) (lp : List (Addr × Obj))
    (J : Nat → (PySem.Str → Option Value) → List (Addr × Obj) → Prop) (W : Walks prog w A I fp [I] n P St)
    (hgo : ∀ i v (s : Shared) (Q : Unit → Shared → Prop) (E : Value → Shared → Prop), St i s.heap → Q () s → wpAny (model prog w) A (letOwnedTupleGo target (.ref I) v) Q E s)
    (hL : env.locals ∉ fp) (hI : I ∈ fp) (hnew : h₀.get? I = none)
    (hfp : ∀ b ∈ fp, b = I ∨ (∃ o, h₀.get? b = some o) ∨ ∃ o, (b, o) ∈ lp) (hSt : ∀ i h, St i h → ∃ o, h.get? I = some o ∧ o.cls = c) (hst : St 0 s.heap)
    (F : Fr h₀ env.locals s.heap m₀) (N : News h₀ env.locals s.heap news₀) (hIn : ∀ p ∈ news₀, p.1 ≠ I) (hlp : ∀ p ∈ lp, p ∈ news₀) (hj : J 0 m₀ news₀)
    (turn : ∀ i v it m₁ news₁ h tk, i < n → P i v → J i m₁ news₁ → it.cls = c → (∀ p ∈ news₁, p.1 ≠ I) → Fr h₀ env.locals h m₁ → News h₀ env.locals h ((I, it) :: news₁) →
      wpAny (model prog w) A (assign target env v) (fun _ s₃ => wpAny (model prog w) A (execs body env) (UnrPost h₀ env.locals { s with heap := h, toks := tk } I it (fun m' n' => (∀ p ∈ lp, p ∈ n') ∧ J (i + 1) m' n') Q) E s₃) E { s with heap := h, toks := tk })
    (done : ∀ m₁ news₁ h tk, J n m₁ news₁ → Fr h₀ env.locals h m₁ → News h₀ env.locals h news₁ → Q .next { s with heap := h, toks := tk }) : TurnsAt prog w A h₀ env target body Q E (.ref I) s := by
  refine ⟨I, fp, [I], n, _, _, St, m₀, news₀, fun i m nx => (∀ p ∈ lp, p ∈ nx) ∧ J i m nx, rfl, KTurns.ofWalks W hgo, hL, ?_, ?_, hst, F, N, ⟨hlp, hj⟩, ?_, ?_⟩
  · intro b hb
    rw [List.mem_singleton.mp hb]; exact hnew
  · intro p hp hq
    exact hIn p hp (List.mem_singleton.mp hq)
  · rintro i v m₁ news₁ hh tk own hi hP ⟨hlp₁, hJ⟩ hoff hown hget hall hst₁ F₁ N₁
    obtain ⟨it, hit, hc⟩ := hSt _ _ hst₁
    have hmem := hall I hI hnew it hit
    have N₂ : News h₀ env.locals hh ((I, it) :: news₁) := fun p hp => by
      rcases List.mem_cons.mp hp with rfl | hp
      · exact N₁ _ (List.mem_append_left _ hmem)
      · exact N₁ _ (List.mem_append_right _ hp)
    refine wpAny_mono (turn i v it m₁ news₁ hh tk hi hP hJ hc (fun p hp e => hoff p hp (List.mem_singleton.mpr e)) F₁ N₂) (fun _ s₃ h₃ => wpAny_mono h₃ (fun f s₂ p => ?_) fun _ _ e => e) fun _ _ e => e
    have fin : UnrEnd h₀ env.locals { s with heap := hh, toks := tk } I it (fun m' n' => (∀ p ∈ lp, p ∈ n') ∧ J (i + 1) m' n') s₂ →
        LoopStepU h₀ env.locals [I] own (fun m nx => (∀ p ∈ lp, p ∈ nx) ∧ J (i + 1) m nx) { s with heap := hh, toks := tk } .next s₂ := by
      rintro ⟨h', tk', m', news', e, F', N', ho, hl', hj'⟩
      refine ⟨rfl, h', tk', m', news', e, F', fun p hp => ?_, fun p hp hq => ho p hp (List.mem_singleton.mp hq), hl', hj'⟩
      rcases List.mem_append.mp hp with hp | hp
      · rcases hfp p.1 (hown p hp) with h1 | ⟨o, h1⟩ | ⟨o, h1⟩
        · have h2 := hget p hp
          have h3 : p = (I, it) := by
            rw [h1] at h2
            have : hh.get? I = some p.2 := h2
            rw [hit] at this
            exact Prod.ext h1 (Option.some.inj this).symm
          rw [h3]; exact N' _ (List.mem_cons_self ..)
        · have := (N₁ p (List.mem_append_left _ hp)).2.2
          rw [h1] at this; cases this
        · have h2 : hh.get? p.1 = some p.2 := hget p hp
          have h3 : hh.get? p.1 = some o := (N₁ (p.1, o) (List.mem_append_right _ (hlp₁ _ h1))).1
          rw [h2] at h3
          have h4 : p = (p.1, o) := Prod.ext rfl (Option.some.inj h3)
          rw [h4]
          exact N' _ (List.mem_cons_of_mem _ (hl' _ h1))
      · exact N' _ (List.mem_cons_of_mem _ hp)
    cases f with
    | ret v => exact .ret p
    | brk => exact .brk p
    | next => exact .next (fin p)
    | cont => exact .cont (fin p)
  · rintro h' tk m' news' F' N' _ ⟨_, hJ⟩
    exact done m' news' h' tk hJ F' N'
theorem letGo_rangeiter {I : Addr} {a b c : Int} {v : Value} {Q' : Unit → Shared → Prop} {s' : Shared} (hit : IsRangeIter s'.heap I a b c) (h : Q' () s') :
    wpAny (model prog w) A (letOwnedTupleGo target (.ref I) v) Q' E s' := by
  have ho : s'.heap.get? I = some _ := hit
  unfold letOwnedTupleGo
  cases target <;> first
    | exact wpAny_pure h
    | (cases v <;> first
        | exact wpAny_pure h
        | (refine wpAny_bind (wpAny_load ho ?_)
           exact wpAny_pure h))
section
variable {m₀ : PySem.Str → Option Value} {news₀ : List (Addr × Obj)}
theorem iter_upT {r : Addr} {a₀ b₀ : Int} {t₀ u₀ v₀ : Tok} {n : Nat} (J : Nat → (PySem.Str → Option Value) → List (Addr × Obj) → Prop)
    (hh : A.handled = none) (hr : IsRange s.heap r a₀ b₀ 1 t₀ u₀ v₀) (hsmall : Builtin.Range.small a₀ b₀ 1 = true) (hn : Builtin.Range.rangeSize a₀ b₀ 1 = (n : Int)) (F : Fr h₀ env.locals s.heap m₀) (N : News h₀ env.locals s.heap news₀) (hj : J 0 m₀ news₀)
    (turn : ∀ i I it m₁ news₁ t h tk, i < n → J i m₁ news₁ → it.cls = .type "range_iterator" → (∀ p ∈ news₁, p.1 ≠ I) → Fr h₀ env.locals h m₁ → News h₀ env.locals h ((I, it) :: news₁) →
      wpAny (model prog w) A (assign target env (.int (a₀ + (i : Int)) t)) (fun _ s₃ => wpAny (model prog w) A (execs body env) (UnrPost h₀ env.locals { s with heap := h, toks := tk } I it (fun m' n' => (∀ p ∈ ([] : List (Addr × Obj)), p ∈ n') ∧ J (i + 1) m' n') Q) E s₃) E { s with heap := h, toks := tk })
    (done : ∀ m₁ news₁ h tk, J n m₁ news₁ → Fr h₀ env.locals h m₁ → News h₀ env.locals h news₁ → Q .next { s with heap := h, toks := tk }) :
    wpAny (model prog w) A (pyIter (.ref r)) (fun it s₂ => TurnsAt prog w A h₀ env target body Q E it s₂) E s := by
  refine wpAny_pyIter_range hr hsmall ?_
  have W : Walks prog w A s.heap.objs.size [s.heap.objs.size] [s.heap.objs.size] n (fun i v => i < n ∧ ∃ t, v = .int (a₀ + i * 1) t)
      (fun i h => IsRangeIter h s.heap.objs.size (a₀ + (i : Nat) * 1) ((n : Int) - (i : Nat)) 1) := (Walks.range hh _ a₀ 1 n).bound
  refine turns_J (.type "range_iterator") [] J W (fun i v s Q E st q => letGo_rangeiter st q) ?_ (List.mem_singleton.mpr rfl) (next_is_new F) (fun b hb => .inl (List.mem_singleton.mp hb)) (fun i h hs => ⟨_, hs, rfl⟩) (by show IsRangeIter _ _ _ _ _; rw [hn]; simpa using Heap.get?_push_size _ rfl) (F.push _)
    (fun p hp => ⟨Heap.get?_push_of_some _ (N p hp).1, (N p hp).2⟩) (fun p hp e => absurd (Heap.lt_size (N p hp).1) (by rw [e]; exact Nat.lt_irrefl _)) (fun _ h => nomatch h) hj ?_ (fun m₁ n₁ h tk j F N => done m₁ n₁ h tk j F N)
  · intro hm
    exact absurd F.ns.lt ((List.mem_singleton.mp hm) ▸ Nat.lt_irrefl _)
  · rintro i v it m₁ news₁ h tk hi ⟨_, t, rfl⟩ hJ hc hne F₁ N₁
    have e1 : a₀ + (i : Int) * 1 = a₀ + (i : Int) := by omega
    rw [e1]
    exact turn i _ it m₁ news₁ t h tk hi hJ hc hne F₁ N₁
/-- a tuple of the written part -/
theorem iter_tupT {l : Addr} {lo : Obj} {vs : List Value} {k : Nat} (J : Nat → (PySem.Str → Option Value) → List (Addr × Obj) → Prop)
    (hh : A.handled = none) (F : Fr h₀ env.locals s.heap m₀) (N : News h₀ env.locals s.heap news₀) (hm : h₀.get? l = some lo) (hc : lo.cls = .type "tuple") (hd : lo.data = .seq vs.toArray k) (hj : J 0 m₀ news₀)
    (turn : ∀ i v I it m₁ news₁ h tk, vs[i]? = some v → J i m₁ news₁ → it.cls = .type "tuple_iterator" → (∀ p ∈ news₁, p.1 ≠ I) → Fr h₀ env.locals h m₁ → News h₀ env.locals h ((I, it) :: news₁) →
      wpAny (model prog w) A (assign target env v) (fun _ s₃ => wpAny (model prog w) A (execs body env) (UnrPost h₀ env.locals { s with heap := h, toks := tk } I it (fun m' n' => (∀ p ∈ ([] : List (Addr × Obj)), p ∈ n') ∧ J (i + 1) m' n') Q) E s₃) E { s with heap := h, toks := tk })
    (done : ∀ m₁ news₁ h tk, J vs.length m₁ news₁ → Fr h₀ env.locals h m₁ → News h₀ env.locals h news₁ → Q .next { s with heap := h, toks := tk }) :
    wpAny (model prog w) A (pyIter (.ref l)) (fun it s₂ => TurnsAt prog w A h₀ env target body Q E it s₂) E s := by
  have hl₀ := F.keep _ _ hm
  have hl : s.heap.IsTuple l vs.toArray := ⟨lo, hl₀, hc, k, hd⟩
  have hlt : l < h₀.objs.size := Heap.lt_size hm
  have hne : l ≠ s.heap.objs.size := Nat.ne_of_lt (Nat.lt_trans (Nat.lt_of_lt_of_le hlt F.above) F.ns.lt)
  refine wpAny_pyIter_tuple hl ?_
  have W := Walks.tuple (prog := prog) (w := w) hh s.heap.objs.size l hne vs.toArray
  have hlen : vs.toArray.size = vs.length := by simp
  rw [hlen] at W
  refine turns_J (.type "tuple_iterator") [] J W (fun i v s Q E st q => letGo_tupleiter st.1 q) ?_ (List.mem_cons_self ..) (next_is_new F) (fun b hb => ?_) (fun i h hs => ?_) ⟨⟨_, Heap.get?_push_size _ rfl, rfl, rfl⟩, hl.at fun o e => Heap.get?_push_of_some _ e⟩ (F.push _)
    (fun p hp => ⟨Heap.get?_push_of_some _ (N p hp).1, (N p hp).2⟩) (fun p hp e => absurd (Heap.lt_size (N p hp).1) (by rw [e]; exact Nat.lt_irrefl _)) (fun p hp => nomatch hp) hj ?_ (fun m₁ n₁ h tk j F N => done m₁ n₁ h tk j F N)
  · intro hmm
    rcases List.mem_cons.mp hmm with e | hmm
    · exact absurd F.ns.lt (e ▸ Nat.lt_irrefl _)
    · exact absurd (Nat.lt_of_lt_of_le hlt F.above) ((List.mem_singleton.mp hmm) ▸ Nat.lt_irrefl _)
  · rcases List.mem_cons.mp hb with e | hb
    · exact .inl e
    · exact .inr (.inl ⟨lo, by rw [List.mem_singleton.mp hb]; exact hm⟩)
  · obtain ⟨o, ho, hc', _⟩ := hs.1
    exact ⟨o, ho, hc'⟩
  · rintro i v it m₁ news₁ h tk hi hP hJ hc' hne' F₁ N₁
    exact turn i v _ it m₁ news₁ h tk (by simpa using hP) hJ hc' hne' F₁ N₁
end
end
end Mine
end

section
open PySem PySem.W PyProof.Rows PySem.Spec PySem.Calls PySem.Builtin
namespace Mine
set_option maxRecDepth 100000
section
variable {prog : Program} {w : World} {A : Around} {E : Value → Shared → Prop} {s : Shared}
theorem eqAt_bytes {b : Array UInt8} {t u : Tok} : SeqAt.EqAt A s (.bytes b t) (.bytes b u) true := fun _ _ _ _ h => PySem.W.eqBool_bytes (by simpa using h)
theorem eqAt_str {b : PySem.Str} {t u : Tok} : SeqAt.EqAt A s (.str b t) (.str b u) true := by
  have := (MeetsSeq.EqGives.at (SeqRoads2.EqGives.str b b t u) A s)
  simpa using this
end
/-- how a word is borne: a text, or bytes -/
structure KV (w : World) (oc : Bool) (kv : List Nat → Tok → Value) : Prop where
  kind : ∀ l t0, l.length ≤ 200 → Oct l → Says w 233 1 [.str (stx l) t0, .bool oc] (fun t => kv l t)
  deed : ∀ k tk0 l t0, l.length ≤ 200 → Oct l → Says w 228 4 [.int k tk0, kv l t0] (fun t => kv (twinI k l) t)
  same : ∀ (A : Around) (s : Shared) l t u, SeqAt.EqAt A s (kv l t) (kv l u) true
  ne : ∀ (prog : Program) (A : Around) (E : Value → Shared → Prop) (s : Shared) (Q : Value → Shared → Prop) l t u, Q (.bool false) s → wpAny (model prog w) A (compareOp .NotEq (kv l t) (kv l u)) Q E s
theorem kv_ex (w : World) : ∀ oc : Bool, ∃ kv, KV w oc kv
  | false => ⟨fun l t => .str (stx l) t, fun l t0 h _ => says_kind_s w l t0 h, fun k tk0 l t0 h _ => says_deed_s w k tk0 l t0 h, fun _ _ _ _ _ => eqAt_str, fun _ _ _ _ _ _ _ _ h => SeqAt.RcNeAt.str_str _ _ _ _ _ _ _ _ (by simpa using h)⟩
  | true => ⟨fun l t => .bytes (byt l) t, fun l t0 h ho => says_kind_b w l t0 h ho, fun k tk0 l t0 h ho => says_deed_b w k tk0 l t0 h ho, fun _ _ _ _ _ => eqAt_bytes, fun _ _ _ _ _ _ _ _ h => by
      refine PySem.W.ne_bytes ?_
      simpa using h⟩
def Bears (f : List Nat → Tok → Value) (g : Nat → List Nat) (n : Nat) (vs : List Value) : Prop := vs.length = n ∧ ∀ j, j < n → ∃ t, vs[j]? = some (f (g j) t)
theorem Bears.snoc {f : List Nat → Tok → Value} {g : Nat → List Nat} {n : Nat} {vs : List Value} (h : Bears f g n vs) {l : List Nat} {t : Tok} (e : l = g n) : Bears f g (n + 1) (vs ++ [f l t]) := by
  obtain ⟨h1, h2⟩ := h
  refine ⟨by simp [h1], fun j hj => ?_⟩
  rcases Nat.lt_or_ge j n with h | h
  · obtain ⟨u, hu⟩ := h2 j h
    exact ⟨u, by rw [List.getElem?_append_left (by omega)]; exact hu⟩
  · have : j = n := by omega
    subst this
    exact ⟨t, by rw [List.getElem?_append_right (by omega), h1, Nat.sub_self, e]; rfl⟩
theorem Bears.one {f : List Nat → Tok → Value} {g : Nat → List Nat} {l : List Nat} {t : Tok} (e : l = g 0) : Bears f g 1 [f l t] := by
  have := Bears.snoc (f := f) (g := g) (n := 0) (vs := []) ⟨rfl, fun j h => nomatch h⟩ (t := t) e
  exact this
section
variable {prog : Program} {w : World} {A : Around} {E : Value → Shared → Prop} {s : Shared} {h₀ : Heap} {L : Addr} {m : PySem.Str → Option Value} {news : List (Addr × Obj)}
/-- two lists of the same words are not unequal -/
theorem ne_same {kv : List Nat → Tok → Value} {oc : Bool} (V : KV w oc kv) {a b : Addr} {oa ob : Obj} {na nb n : Nat} {us vs : List Value} {g : Nat → List Nat} {Q : Value → Shared → Prop}
    (N : News h₀ L s.heap news) (ha : (a, oa) ∈ news) (hb : (b, ob) ∈ news) (ca : oa.cls = .type "list") (cb : ob.cls = .type "list") (da : oa.data = .seq us.toArray na) (db : ob.data = .seq vs.toArray nb)
    (hu : Bears kv g n us) (hv : Bears kv g n vs) (hr : A.units < cLine) (h : Q (.bool false) s) : wpAny (model prog w) A (compareOp .NotEq (.ref a) (.ref b)) Q E s := by
  have hl : s.heap.IsList a us.toArray := ⟨oa, (N _ ha).1, ca, na, da⟩
  have hl' : s.heap.IsList b vs.toArray := ⟨ob, (N _ hb).1, cb, nb, db⟩
  refine SeqAt.RcNeAt.lists (e := fun _ => true) hl hl' (by simp [hu.1, hv.1]) hr (fun j h1 h2 => ?_) prog w E Q ?_
  · have h1' : j < us.length := by simpa using h1
    have h2' : j < vs.length := by simpa using h2
    obtain ⟨t, e⟩ := hu.2 j (by rw [← hu.1]; exact h1')
    obtain ⟨u, e'⟩ := hv.2 j (by rw [← hv.1]; exact h2')
    rw [List.getElem?_eq_getElem h1'] at e
    rw [List.getElem?_eq_getElem h2'] at e'
    have q1 : us.toArray[j] = kv (g j) t := by simpa using Option.some.inj e
    have q2 : vs.toArray[j] = kv (g j) u := by simpa using Option.some.inj e'
    rw [q1, q2]
    exact V.same _ _ _ _ _
  · have e : ((List.range us.toArray.size).all fun _ => true) = true := List.all_eq_true.mpr fun _ _ => rfl
    rw [e]; exact h
/-- two lists of texts -/
theorem ne_texts {a b : Addr} {oa ob : Obj} {na nb : Nat} {us vs : List Value} {cs ds : List (List Nat)} {Q : Value → Shared → Prop}
    (N : News h₀ L s.heap news) (ha : (a, oa) ∈ news) (hb : (b, ob) ∈ news) (ca : oa.cls = .type "list") (cb : ob.cls = .type "list") (da : oa.data = .seq us.toArray na) (db : ob.data = .seq vs.toArray nb)
    (hc : us.length = cs.length) (hd : vs.length = cs.length) (he : ds.length = cs.length)
    (hu : ∀ j, j < cs.length → ∃ t, us[j]? = some (.str (stx (cs.getD j [])) t)) (hv : ∀ j, j < cs.length → ∃ t, vs[j]? = some (.str (stx (ds.getD j [])) t)) (hr : A.units < cLine) (h : Q (.bool (!decide (cs = ds))) s) :
    wpAny (model prog w) A (compareOp .NotEq (.ref a) (.ref b)) Q E s := by
  have hl : s.heap.IsList a us.toArray := ⟨oa, (N _ ha).1, ca, na, da⟩
  have hl' : s.heap.IsList b vs.toArray := ⟨ob, (N _ hb).1, cb, nb, db⟩
  refine SeqAt.RcNeAt.lists (e := fun j => decide (cs.getD j [] = ds.getD j [])) hl hl' (by simp [hc, hd]) hr (fun j h1 h2 => ?_) prog w E Q ?_
  · have h1' : j < us.length := by simpa using h1
    have h2' : j < vs.length := by simpa using h2
    obtain ⟨t, e⟩ := hu j (by omega)
    obtain ⟨u, e'⟩ := hv j (by omega)
    rw [List.getElem?_eq_getElem h1'] at e
    rw [List.getElem?_eq_getElem h2'] at e'
    have q1 : us.toArray[j] = .str (stx (cs.getD j [])) t := by simpa using Option.some.inj e
    have q2 : vs.toArray[j] = .str (stx (ds.getD j [])) u := by simpa using Option.some.inj e'
    rw [q1, q2]
    have := (MeetsSeq.EqGives.at (SeqRoads2.EqGives.str (stx (cs.getD j [])) (stx (ds.getD j [])) t u) A.in1 s)
    have e3 : ((stx (cs.getD j [])).cps.toList == (stx (ds.getD j [])).cps.toList) = decide (cs.getD j [] = ds.getD j []) := by
      rw [Bool.eq_iff_iff]; simp [stx]
    rw [e3] at this
    exact this
  · have e : ((List.range us.toArray.size).all fun j => decide (cs.getD j [] = ds.getD j [])) = decide (cs = ds) := by
      rw [Bool.eq_iff_iff]
      simp only [List.size_toArray, List.all_eq_true, List.mem_range, decide_eq_true_eq]
      constructor
      · intro q
        refine List.ext_getElem (by omega) fun j h1 h2 => ?_
        have := q j (by omega)
        simpa [h1, h2] using this
      · rintro rfl _ _; rfl
    rw [e]; exact h
end
section
variable {prog : Program} {w : World} {A : Around} {E : Value → Shared → Prop} {s : Shared} {h₀ : Heap} {L : Addr} {m : PySem.Str → Option Value} {env : Env} {elt : PySem.Expr} {x : PySem.Str} {scope : Scope} {cl : List (PySem.Str × Addr)}
open LCg in
/-- a comprehension over an own list: its element once -/
theorem comp_own {ax : Addr} {o : Obj} {vs : List Value} {n : Nat} {news : List (Addr × Obj)} {Q : Value → Shared → Prop} (R : Nat → Value → Prop)
    (hh : A.handled = none) (F : Fr h₀ L s.heap m) (N : News h₀ L s.heap news) (hm : (ax, o) ∈ news) (hc : o.cls = .type "list") (hd : o.data = .seq vs.toArray n) (hz : vs.length ≤ 1000)
    (turn : ∀ i v I oI C oC D m₂ ys h tk (E' : Value → Shared → Prop), vs[i]? = some v → NsObj oC m₂ → m₂ x = some v → Fr h₀ L h m → News h₀ L h ((I, oI) :: (C, oC) :: (D, lst ys) :: news) → Off3 I C D news → ((@Ne Nat I C) ∧ (@Ne Nat I D) ∧ (@Ne Nat C D)) →
      wpAny (model prog w) A (eval elt (compEnvC scope cl C env)) (CompEnd h₀ L m { s with heap := h, toks := tk } I oI C oC D (lst ys) (fun _ => True) (fun y nw => nw = news ∧ R i y)) E' { s with heap := h, toks := tk })
    (fin : ∀ ys D h tk, ys.length = vs.length → (∀ i y, ys[i]? = some y → R i y) → Fr h₀ L h m → News h₀ L h ((D, lst ys) :: news) → (∀ p ∈ news, p.1 ≠ D) → Q (.ref D) { s with heap := h, toks := tk }) :
    CompSrc prog w A h₀ L m env elt x scope cl (fun s₂ => FinE h₀ L m s₂ Q) (.ref ax) s := by
  refine .inl ⟨ax, vs.toArray, news, rfl, hh, F, N, .inr ⟨o, hm, hc, n, hd⟩, ?_, ?_⟩
  · rw [sizeLine_eq]; simp; omega
  rintro _ ⟨g, rfl⟩
  have key : ∀ (j i : Nat) (ys : List Value), i + j = vs.length → ys.length = i → (∀ k y, ys[k]? = some y → R k y) →
      CompRest prog w A h₀ L m env elt x scope cl { s with heap := g } (SrcAt h₀ ax vs.toArray) (fun i v => vs.toArray[i]? = some v) (FinE h₀ L m { s with heap := g } Q) j i ys news := by
    intro j
    induction j with
    | zero =>
      intro i ys hi hy hR
      refine CompRest.zero fun D h tk F' N' off => ?_
      refine fin ys D h tk (by omega) hR F' N' ?_
      intro p hp
      have : ∀ {l : List (Addr × Obj)}, Off1 D l → ∀ p ∈ l, p.1 ≠ D := by
        intro l
        induction l with
        | nil => intro _ p h; cases h
        | cons q r ih =>
          intro x p hp
          rcases List.mem_cons.mp hp with rfl | hp
          · exact x.1
          · exact ih x.2 p hp
      exact this off p hp
    | succ j ih =>
      intro i ys hi hy hR
      refine CompRest.succ ?_
      intro v I oI C oC D m₂ h tk E' hv hC hx F' N' off ne
      have hv' : vs[i]? = some v := by simpa using hv
      refine wpAny_mono (turn i v I oI C oC D m₂ ys h tk E' hv' hC hx F' N' off ne) (fun y s₂ hq => ?_) fun _ _ e => e
      obtain ⟨h', tk', nw, e, F'', N'', off', hS, hn, hRy⟩ := hq
      subst hn
      refine ⟨h', tk', nw, e, F'', N'', off', .inr ⟨o, hm, hc, n, hd⟩, ih (i + 1) (ys ++ [y]) (by omega) (by simp [hy]) ?_⟩
      intro k z hz
      rcases Nat.lt_or_ge k ys.length with q | q
      · rw [List.getElem?_append_left q] at hz
        exact hR k z hz
      · rw [List.getElem?_append_right q] at hz
        have hk : k - ys.length = 0 := by
          rcases Nat.eq_zero_or_pos (k - ys.length) with q2 | q2
          · exact q2
          · rw [List.getElem?_eq_none (by show 1 ≤ _; omega)] at hz; cases hz
        rw [hk] at hz
        have e1 : y = z := by simpa using hz
        have e2 : k = i := by omega
        rw [← e1, e2]; exact hRy
  have := key vs.length 0 [] (by omega) rfl (fun k y h => nomatch h)
  simpa using this
end
end Mine
end

section
open PySem PySem.W PyProof.Rows PySem.Spec PySem.Calls PySem.Builtin
namespace Mine
set_option maxRecDepth 100000
abbrev txt (l : List Nat) (t : Tok) : Value := .str (stx l) t
def stepVals : List Value := [.ref 149, .ref 150, .ref 151, .ref 152, .ref 153, .ref 154, .ref 155, .ref 156, .ref 157, .ref 158, .ref 159, .ref 160, .ref 161, .ref 162]
def nextVals : List Value := [.ref 164, .ref 165, .ref 166, .ref 167, .ref 168, .ref 169, .ref 170, .ref 171, .ref 172, .ref 173, .ref 174, .ref 175, .ref 176, .ref 177, .ref 178]
section
variable {w : World} {h₀ : Heap}
theorem tup_of (X : (Mine.hd.heap_39 w.params).In h₀) {a : Addr} {vs : List Value} {lo : Obj} {n : Nat} (hk : (Mine.hd.heap_39 w.params).lookup a = some lo) (hc : lo.cls = .type "tuple") (hd : lo.data = .seq vs.toArray n) : IsTup h₀ a vs.toArray :=
  ⟨lo, X _ _ hk, hc, n, hd⟩
theorem steps_tup (X : (Mine.hd.heap_39 w.params).In h₀) : IsTup h₀ 163 stepVals.toArray := by
  refine tup_of X (by with_unfolding_all rfl) rfl rfl
theorem next_tup (X : (Mine.hd.heap_39 w.params).In h₀) : IsTup h₀ 179 nextVals.toArray := by
  refine tup_of X (by with_unfolding_all rfl) rfl rfl
theorem typed_tup (X : (Mine.hd.heap_39 w.params).In h₀) : ∃ t1 t2 t3, IsTup h₀ 148 ([.str (stx [97, 46, 98]) t1, .str (stx [97, 46, 98, 47]) t2, .str (stx [47]) t3] : List Value).toArray := by
  refine ⟨_, _, _, tup_of X (by with_unfolding_all rfl) rfl rfl⟩
theorem step_at (X : (Mine.hd.heap_39 w.params).In h₀) : ∀ i v, stepVals[i]? = some v → i < 14 ∧ ∃ (a : Addr) (ka kb : Nat) (ta tb : Tok), v = .ref a ∧ IsTup h₀ a ([.int (ka : Int) ta, .int (kb : Int) tb] : List Value).toArray ∧ (ka, kb) = steps.getD i (0, 0) ∧ kb ≤ i := by
  intro i v h
  match i, h with
  | 0, h => exact ⟨by decide, _, _, _, _, _, (Option.some.inj h).symm, tup_of X (by with_unfolding_all rfl) rfl rfl, rfl, by decide⟩
  | 1, h => exact ⟨by decide, _, _, _, _, _, (Option.some.inj h).symm, tup_of X (by with_unfolding_all rfl) rfl rfl, rfl, by decide⟩
  | 2, h => exact ⟨by decide, _, _, _, _, _, (Option.some.inj h).symm, tup_of X (by with_unfolding_all rfl) rfl rfl, rfl, by decide⟩
  | 3, h => exact ⟨by decide, _, _, _, _, _, (Option.some.inj h).symm, tup_of X (by with_unfolding_all rfl) rfl rfl, rfl, by decide⟩
  | 4, h => exact ⟨by decide, _, _, _, _, _, (Option.some.inj h).symm, tup_of X (by with_unfolding_all rfl) rfl rfl, rfl, by decide⟩
  | 5, h => exact ⟨by decide, _, _, _, _, _, (Option.some.inj h).symm, tup_of X (by with_unfolding_all rfl) rfl rfl, rfl, by decide⟩
  | 6, h => exact ⟨by decide, _, _, _, _, _, (Option.some.inj h).symm, tup_of X (by with_unfolding_all rfl) rfl rfl, rfl, by decide⟩
  | 7, h => exact ⟨by decide, _, _, _, _, _, (Option.some.inj h).symm, tup_of X (by with_unfolding_all rfl) rfl rfl, rfl, by decide⟩
  | 8, h => exact ⟨by decide, _, _, _, _, _, (Option.some.inj h).symm, tup_of X (by with_unfolding_all rfl) rfl rfl, rfl, by decide⟩
  | 9, h => exact ⟨by decide, _, _, _, _, _, (Option.some.inj h).symm, tup_of X (by with_unfolding_all rfl) rfl rfl, rfl, by decide⟩
  | 10, h => exact ⟨by decide, _, _, _, _, _, (Option.some.inj h).symm, tup_of X (by with_unfolding_all rfl) rfl rfl, rfl, by decide⟩
  | 11, h => exact ⟨by decide, _, _, _, _, _, (Option.some.inj h).symm, tup_of X (by with_unfolding_all rfl) rfl rfl, rfl, by decide⟩
  | 12, h => exact ⟨by decide, _, _, _, _, _, (Option.some.inj h).symm, tup_of X (by with_unfolding_all rfl) rfl rfl, rfl, by decide⟩
  | 13, h => exact ⟨by decide, _, _, _, _, _, (Option.some.inj h).symm, tup_of X (by with_unfolding_all rfl) rfl rfl, rfl, by decide⟩
  | n + 14, h => cases h
theorem four (n0 n1 n2 n3 : Nat) (t0 t1 t2 t3 : Tok) : ∀ k, k < 4 → ∃ t, ([.int (n0 : Int) t0, .int (n1 : Int) t1, .int (n2 : Int) t2, .int (n3 : Int) t3] : List Value)[k]? = some (.int ((([n0, n1, n2, n3] : List Nat).getD k 0 : Nat) : Int) t)
  | 0, _ => ⟨_, rfl⟩
  | 1, _ => ⟨_, rfl⟩
  | 2, _ => ⟨_, rfl⟩
  | 3, _ => ⟨_, rfl⟩
  | n + 4, h => absurd h (by omega)
theorem next_row (X : (Mine.hd.heap_39 w.params).In h₀) : ∀ i, i < 15 → ∃ (a : Addr) (vs : List Value), nextVals[i]? = some (.ref a) ∧ IsTup h₀ a vs.toArray ∧ vs.length = 4 ∧ ∀ k, k < 4 → ∃ t, vs[k]? = some (.int (((nexts.getD i []).getD k 0 : Nat) : Int) t) := by
  intro i hi
  match i, hi with
  | 0, _ => exact ⟨_, _, rfl, tup_of X (by with_unfolding_all rfl) rfl rfl, rfl, four _ _ _ _ _ _ _ _⟩
  | 1, _ => exact ⟨_, _, rfl, tup_of X (by with_unfolding_all rfl) rfl rfl, rfl, four _ _ _ _ _ _ _ _⟩
  | 2, _ => exact ⟨_, _, rfl, tup_of X (by with_unfolding_all rfl) rfl rfl, rfl, four _ _ _ _ _ _ _ _⟩
  | 3, _ => exact ⟨_, _, rfl, tup_of X (by with_unfolding_all rfl) rfl rfl, rfl, four _ _ _ _ _ _ _ _⟩
  | 4, _ => exact ⟨_, _, rfl, tup_of X (by with_unfolding_all rfl) rfl rfl, rfl, four _ _ _ _ _ _ _ _⟩
  | 5, _ => exact ⟨_, _, rfl, tup_of X (by with_unfolding_all rfl) rfl rfl, rfl, four _ _ _ _ _ _ _ _⟩
  | 6, _ => exact ⟨_, _, rfl, tup_of X (by with_unfolding_all rfl) rfl rfl, rfl, four _ _ _ _ _ _ _ _⟩
  | 7, _ => exact ⟨_, _, rfl, tup_of X (by with_unfolding_all rfl) rfl rfl, rfl, four _ _ _ _ _ _ _ _⟩
  | 8, _ => exact ⟨_, _, rfl, tup_of X (by with_unfolding_all rfl) rfl rfl, rfl, four _ _ _ _ _ _ _ _⟩
  | 9, _ => exact ⟨_, _, rfl, tup_of X (by with_unfolding_all rfl) rfl rfl, rfl, four _ _ _ _ _ _ _ _⟩
  | 10, _ => exact ⟨_, _, rfl, tup_of X (by with_unfolding_all rfl) rfl rfl, rfl, four _ _ _ _ _ _ _ _⟩
  | 11, _ => exact ⟨_, _, rfl, tup_of X (by with_unfolding_all rfl) rfl rfl, rfl, four _ _ _ _ _ _ _ _⟩
  | 12, _ => exact ⟨_, _, rfl, tup_of X (by with_unfolding_all rfl) rfl rfl, rfl, four _ _ _ _ _ _ _ _⟩
  | 13, _ => exact ⟨_, _, rfl, tup_of X (by with_unfolding_all rfl) rfl rfl, rfl, four _ _ _ _ _ _ _ _⟩
  | 14, _ => exact ⟨_, _, rfl, tup_of X (by with_unfolding_all rfl) rfl rfl, rfl, four _ _ _ _ _ _ _ _⟩
  | n + 15, h => omega
theorem nexts_lt : ∀ i, i < 15 → ∀ k, k < 4 → (nexts.getD i []).getD k 0 < 15 := by decide
end
section
variable {prog : Program} {w : World} {A : Around} {E : Value → Shared → Prop} {s : Shared} {h₀ : Heap} {L : Addr} {m : PySem.Str → Option Value}
theorem item_K {value slice : PySem.Expr} {l : Addr} {vs : List Value} {k : Int} {u : Tok} {v : Value} {Q : Value → Shared → Prop} (F : Fr h₀ L s.heap m) (ht : IsTup h₀ l vs.toArray) (h0 : 0 ≤ k) (hfit : k < 2 ^ 63) (hx : vs[k.toNat]? = some v) (h : Q v s)
    (hs : subscripted slice false (.ref l) (.int k u) = operate [.ref l, .int k u] (getItem (.ref l) (.int k u)) := by with_unfolding_all rfl) :
    wpAny (model prog w) A (subscriptTail value slice (.ref l) (.int k u)) Q E s := by
  have hlt : k.toNat < vs.length := by
    rcases Nat.lt_or_ge k.toNat vs.length with q | q
    · exact q
    · rw [List.getElem?_eq_none q] at hx; cases hx
  exact item_tupleT (IsTup.keeps ht F.keep) (by omega) hfit (seqIndex_of h0 (by omega)) hx h hs
end
section
variable {prog : Program} {w : World} {A : Around} {E : Value → Shared → Prop} {s : Shared} {env : Env} {h₀ : Heap} {target : PySem.Expr} {body : List Stmt} {Q : Flow → Shared → Prop} {m₀ : PySem.Str → Option Value}
theorem off_map {m m₀ : PySem.Str → Option Value} {x1 x2 : PySem.Str} (h : ∀ z, z ≠ x1 → z ≠ x2 → m z = m₀ z) : m = fun z => if z = x1 then m z else if z = x2 then m z else m₀ z := by
  funext z
  by_cases h1 : z = x1
  · rw [if_pos h1]
  · rw [if_neg h1]
    by_cases h2 : z = x2
    · rw [if_pos h2]
    · rw [if_neg h2, h z h1 h2]
/-- a loop over a range that changes but two names -/
theorem KR.iter (x1 x2 : PySem.Str) {r : Addr} {a₀ b₀ : Int} {t₀ u₀ v₀ : Tok} {n : Nat} {news₀ : List (Addr × Obj)}
    (hh : A.handled = none) (hr : IsRange s.heap r a₀ b₀ 1 t₀ u₀ v₀) (hsmall : Builtin.Range.small a₀ b₀ 1 = true) (hn : Builtin.Range.rangeSize a₀ b₀ 1 = (n : Int)) (F : Fr h₀ env.locals s.heap m₀) (N : News h₀ env.locals s.heap news₀)
    (turn : ∀ (i : Nat) (k : Int) (I : Addr) (it : Obj) (u : PySem.Str → Option Value) (t : Tok) (h : Heap) (tk : Nat), i < n → k = a₀ + (i : Int) → (∀ p ∈ news₀, p.1 ≠ I) → Fr h₀ env.locals h (fun z => if z = x1 then u z else if z = x2 then u z else m₀ z) → News h₀ env.locals h ((I, it) :: news₀) →
      wpAny (model prog w) A (assign target env (.int k t)) (fun _ s₃ => wpAny (model prog w) A (execs body env) (UnrPost h₀ env.locals { s with heap := h, toks := tk } I it (fun m' n' => (∀ z, z ≠ x1 → z ≠ x2 → m' z = m₀ z) ∧ n' = news₀) Q) E s₃) E { s with heap := h, toks := tk })
    (done : ∀ (u : PySem.Str → Option Value) (h : Heap) (tk : Nat), Fr h₀ env.locals h (fun z => if z = x1 then u z else if z = x2 then u z else m₀ z) → News h₀ env.locals h news₀ → Q .next { s with heap := h, toks := tk }) :
    wpAny (model prog w) A (pyIter (.ref r)) (fun it s₂ => TurnsAt prog w A h₀ env target body Q E it s₂) E s := by
  refine iter_upT (fun i m nx => (∀ z, z ≠ x1 → z ≠ x2 → m z = m₀ z) ∧ nx = news₀) hh hr hsmall hn F N ⟨fun _ _ _ => rfl, rfl⟩ ?_ ?_
  · rintro i I it m₁ news₁ t h tk hi ⟨hm, rfl⟩ hc hne F₁ N₁
    rw [off_map hm] at F₁
    refine wpAny_mono (turn i _ I it m₁ t h tk hi rfl hne F₁ N₁) (fun _ s₃ h₃ => wpAny_mono h₃ (fun f s₂ pp => ?_) fun _ _ e => e) fun _ _ e => e
    have conv : UnrEnd h₀ env.locals { s with heap := h, toks := tk } I it (fun m' n' => (∀ z, z ≠ x1 → z ≠ x2 → m' z = m₀ z) ∧ n' = news₁) s₂ →
        UnrEnd h₀ env.locals { s with heap := h, toks := tk } I it (fun m' n' => (∀ p ∈ ([] : List (Addr × Obj)), p ∈ n') ∧ (∀ z, z ≠ x1 → z ≠ x2 → m' z = m₀ z) ∧ n' = news₁) s₂ := by
      rintro ⟨h', tk', m', n', e, F', N', o, j⟩
      exact ⟨h', tk', m', n', e, F', N', o, fun _ h => (nomatch h), j⟩
    cases f with
    | ret v => exact pp
    | brk => exact pp
    | next => exact conv pp
    | cont => exact conv pp
  · rintro m₁ news₁ h tk ⟨hm, rfl⟩ F₁ N₁
    rw [off_map hm] at F₁
    exact done m₁ h tk F₁ N₁
theorem KR.made {x1 x2 : PySem.Str} {m₀ m : PySem.Str → Option Value} {I L : Addr} {news₀ all : List (Addr × Obj)} {h : Heap} {tk : Nat} {it : Obj} (F : Fr h₀ L h m) (N : News h₀ L h all) (sub : ∀ p ∈ (I, it) :: news₀, p ∈ all) (hne : ∀ p ∈ news₀, p.1 ≠ I) (hm : ∀ z, z ≠ x1 → z ≠ x2 → m z = m₀ z) :
    UnrEnd h₀ L s I it (fun m' n' => (∀ z, z ≠ x1 → z ≠ x2 → m' z = m₀ z) ∧ n' = news₀) { s with heap := h, toks := tk } :=
  UnrEnd.intro F N news₀ sub hne ⟨hm, rfl⟩
/-- the steps of the law: what is due and what is told, a word more each turn -/
def STJ (kv : List Nat → Tok → Value) (p : List Nat) (kx px : PySem.Str) (m₀ : PySem.Str → Option Value) (T U : Addr) (rest : List (Addr × Obj)) (i : Nat) (m : PySem.Str → Option Value) (nx : List (Addr × Obj)) : Prop :=
  (∀ z, z ≠ kx → z ≠ px → m z = m₀ z) ∧ ∃ (us ts : List Value) (nu nt : Nat), nx = (T, W.listOf ts.toArray nt) :: (U, W.listOf us.toArray nu) :: rest ∧ Bears txt (wd p) (i + 1) us ∧ Bears kv (wd p) (i + 1) ts
theorem STJ.iter (kv : List Nat → Tok → Value) (p : List Nat) (kx px : PySem.Str) {T U : Addr} {us₀ ts₀ : List Value} {nu₀ nt₀ : Nat} {rest : List (Addr × Obj)}
    (X : (Mine.hd.heap_39 w.params).In h₀) (hh : A.handled = none) (F : Fr h₀ env.locals s.heap m₀) (N : News h₀ env.locals s.heap ((T, W.listOf ts₀.toArray nt₀) :: (U, W.listOf us₀.toArray nu₀) :: rest))
    (hu₀ : Bears txt (wd p) 1 us₀) (ht₀ : Bears kv (wd p) 1 ts₀)
    (turn : ∀ (i : Nat) (a : Addr) (ka kb : Nat) (ta tb : Tok) (I : Addr) (it : Obj) (us ts : List Value) (nu nt : Nat) (u : PySem.Str → Option Value) (h : Heap) (tk : Nat), i < 14 → kb ≤ i → IsTup h₀ a ([.int (ka : Int) ta, .int (kb : Int) tb] : List Value).toArray →
      twinI (ka : Int) (wd p kb) = wd p (i + 1) → Bears txt (wd p) (i + 1) us → Bears kv (wd p) (i + 1) ts → (∀ q ∈ (T, W.listOf ts.toArray nt) :: (U, W.listOf us.toArray nu) :: rest, q.1 ≠ I) →
      Fr h₀ env.locals h (fun z => if z = kx then u z else if z = px then u z else m₀ z) → News h₀ env.locals h ((I, it) :: (T, W.listOf ts.toArray nt) :: (U, W.listOf us.toArray nu) :: rest) →
      wpAny (model prog w) A (assign target env (.ref a)) (fun _ s₃ => wpAny (model prog w) A (execs body env) (UnrPost h₀ env.locals { s with heap := h, toks := tk } I it (STJ kv p kx px m₀ T U rest (i + 1)) Q) E s₃) E { s with heap := h, toks := tk })
    (done : ∀ (us ts : List Value) (nu nt : Nat) (u : PySem.Str → Option Value) (h : Heap) (tk : Nat), Bears txt (wd p) 15 us → Bears kv (wd p) 15 ts →
      Fr h₀ env.locals h (fun z => if z = kx then u z else if z = px then u z else m₀ z) → News h₀ env.locals h ((T, W.listOf ts.toArray nt) :: (U, W.listOf us.toArray nu) :: rest) → Q .next { s with heap := h, toks := tk }) :
    wpAny (model prog w) A (pyIter (.ref 163)) (fun it s₂ => TurnsAt prog w A h₀ env target body Q E it s₂) E s := by
  obtain ⟨lo, hlo, hc, k, hd⟩ := steps_tup X
  refine iter_tupT (vs := stepVals) (fun i m nx => STJ kv p kx px m₀ T U rest i m nx) hh F N hlo hc hd ⟨fun _ _ _ => rfl, us₀, ts₀, nu₀, nt₀, rfl, hu₀, ht₀⟩ ?_ ?_
  · rintro i v I it m₁ news₁ h tk hv ⟨hm, us, ts, nu, nt, rfl, hu, ht⟩ hc' hne F₁ N₁
    obtain ⟨hi, a, ka, kb, ta, tb, rfl, htu, he, hkb⟩ := step_at X i v hv
    rw [off_map hm] at F₁
    have hw := wd_step p i hi
    rw [← he] at hw
    refine wpAny_mono (turn i a ka kb ta tb I it us ts nu nt m₁ h tk hi hkb htu hw hu ht hne F₁ N₁) (fun _ s₃ h₃ => wpAny_mono h₃ (fun f s₂ pp => ?_) fun _ _ e => e) fun _ _ e => e
    have conv : UnrEnd h₀ env.locals { s with heap := h, toks := tk } I it (STJ kv p kx px m₀ T U rest (i + 1)) s₂ →
        UnrEnd h₀ env.locals { s with heap := h, toks := tk } I it (fun m' n' => (∀ p ∈ ([] : List (Addr × Obj)), p ∈ n') ∧ STJ kv p kx px m₀ T U rest (i + 1) m' n') s₂ := by
      rintro ⟨h', tk', m', n', e, F', N', o, j⟩
      exact ⟨h', tk', m', n', e, F', N', o, fun _ h => (nomatch h), j⟩
    cases f with
    | ret v => exact pp
    | brk => exact pp
    | next => exact conv pp
    | cont => exact conv pp
  · rintro m₁ news₁ h tk ⟨hm, us, ts, nu, nt, rfl, hu, ht⟩ F₁ N₁
    rw [off_map hm] at F₁
    exact done us ts nu nt m₁ h tk hu ht F₁ N₁
theorem STJ.made {kv : List Nat → Tok → Value} {p : List Nat} {kx px : PySem.Str} {m₀ m : PySem.Str → Option Value} {T U I L : Addr} {rest : List (Addr × Obj)} {h : Heap} {tk i : Nat} {it oT oU : Obj} {us ts : List Value} {au at' : Array Value} {nu nt : Nat} {l l' : List Nat} {t t' : Tok}
    (F : Fr h₀ L h m) (N : News h₀ L h ((I, it) :: (T, W.listOf at' nt) :: (U, W.listOf au nu) :: rest)) (hne : ∀ q ∈ (T, oT) :: (U, oU) :: rest, q.1 ≠ I)
    (eu : au = (us ++ [txt l t]).toArray) (et : at' = (ts ++ [kv l' t']).toArray) (hu : Bears txt (wd p) (i + 1) us) (ht : Bears kv (wd p) (i + 1) ts) (hl : l = wd p (i + 1)) (hl' : l' = wd p (i + 1)) (hm : ∀ z, z ≠ kx → z ≠ px → m z = m₀ z) :
    UnrEnd h₀ L s I it (STJ kv p kx px m₀ T U rest (i + 1)) { s with heap := h, toks := tk } :=
  UnrEnd.intro F N _ (fun _ hp => hp) (fun q hq => by
    rcases List.mem_cons.mp hq with rfl | hq
    · exact hne (T, oT) (.head _)
    · rcases List.mem_cons.mp hq with rfl | hq
      · exact hne (U, oU) (.tail _ (.head _))
      · exact hne q (.tail _ (.tail _ hq))) ⟨hm, us ++ [txt l t], ts ++ [kv l' t'], nu, nt, by rw [eu, et], hu.snoc hl, ht.snoc hl'⟩
end
end Mine
end

section
open PySem PySem.W PyProof.Rows PySem.Spec PySem.Calls PySem.Builtin
namespace Mine
set_option maxRecDepth 100000
abbrev refs (rv : List Addr) : List Value := rv.map Value.ref
/-- what stands between the turns of the law's outer loop -/
def OJ (ps : List (List Nat)) (R : Addr) (D5 C3 C2 C1 : Addr × Obj) (i : Nat) (m : PySem.Str → Option Value) (nx : List (Addr × Obj)) : Prop :=
  m (PySem.Str.ofString "rows") = some (.ref R) ∧ ∃ (rv : List Addr) (nn : Nat) (olds : List (Addr × Obj)), nx = (R, W.listOf (refs rv).toArray nn) :: C3 :: C2 :: C1 :: olds ∧ rv.length = i ∧ (∀ q ∈ olds, R < q.1) ∧ D5 ∈ olds ∧
    ∀ j, j < i → ∃ us no, (rv.getD j 0, W.listOf us.toArray no) ∈ olds ∧ Bears txt (wd (ps.getD j [])) 15 us
def OStep (R : Addr) (C3 C2 C1 : Addr × Obj) (rv : List Addr) (olds : List (Addr × Obj)) (p : List Nat) (m : PySem.Str → Option Value) (nx : List (Addr × Obj)) : Prop :=
  m (PySem.Str.ofString "rows") = some (.ref R) ∧ ∃ (U : Addr) (us : List Value) (nu nn : Nat), nx = (R, W.listOf (refs (rv ++ [U])).toArray nn) :: C3 :: C2 :: C1 :: (U, W.listOf us.toArray nu) :: olds ∧ R < U ∧ Bears txt (wd p) 15 us
theorem OStep.next {ps : List (List Nat)} {R : Addr} {D5 C3 C2 C1 : Addr × Obj} {i : Nat} {rv : List Addr} {olds : List (Addr × Obj)} {m : PySem.Str → Option Value} {nx : List (Addr × Obj)}
    (hl : rv.length = i) (ho : ∀ q ∈ olds, R < q.1) (h5 : D5 ∈ olds) (hr : ∀ j, j < i → ∃ us no, (rv.getD j 0, W.listOf us.toArray no) ∈ olds ∧ Bears txt (wd (ps.getD j [])) 15 us)
    (h : OStep R C3 C2 C1 rv olds (ps.getD i []) m nx) : OJ ps R D5 C3 C2 C1 (i + 1) m nx := by
  obtain ⟨hm, U, us, nu, nn, e, hlt, hb⟩ := h
  refine ⟨hm, rv ++ [U], nn, (U, W.listOf us.toArray nu) :: olds, e, by simp [hl], ?_, .tail _ h5, ?_⟩
  · intro q hq
    rcases List.mem_cons.mp hq with rfl | hq
    · exact hlt
    · exact ho q hq
  · intro j hj
    rcases Nat.lt_or_ge j i with h | h
    · obtain ⟨vs, no, h1, h2⟩ := hr j h
      refine ⟨vs, no, .tail _ ?_, h2⟩
      have : (rv ++ [U]).getD j 0 = rv.getD j 0 := by
        rw [List.getD_eq_getElem?_getD, List.getD_eq_getElem?_getD, List.getElem?_append_left (by omega)]
      rw [this]; exact h1
    · have : j = i := by omega
      subst this
      refine ⟨us, nu, ?_, hb⟩
      have : (rv ++ [U]).getD j 0 = U := by
        rw [List.getD_eq_getElem?_getD, List.getElem?_append_right (by omega), hl, Nat.sub_self]; rfl
      rw [this]; exact .head _
theorem map1 {m : PySem.Str → Option Value} {a : PySem.Str} {va : Option Value} (ha : m a = va) : m = fun z => if z = a then va else m z := by
  funext z
  by_cases h : z = a
  · rw [if_pos h, h, ha]
  · rw [if_neg h]
theorem News.rot {h₀ h : Heap} {L : Addr} {a b c : Addr × Obj} {r : List (Addr × Obj)} (N : News h₀ L h (c :: a :: b :: r)) : News h₀ L h (a :: b :: c :: r) := fun q hq => by
  simp only [List.mem_cons] at hq
  rcases hq with rfl | rfl | rfl | hq
  · exact N _ (.tail _ (.head _))
  · exact N _ (.tail _ (.tail _ (.head _)))
  · exact N _ (.head _)
  · exact N _ (.tail _ (.tail _ (.tail _ hq)))
section
variable {prog : Program} {w : World} {A : Around} {E : Value → Shared → Prop} {s : Shared} {env : Env} {h₀ : Heap} {target : PySem.Expr} {body : List Stmt} {Q : Flow → Shared → Prop} {m₀ : PySem.Str → Option Value}
theorem small_upto {b : Int} (hb : 0 ≤ b) (hb' : b < 2 ^ 62) : Builtin.Range.small 0 b 1 = true := by
  unfold Builtin.Range.small
  rw [rangeSize_nat]
  simp only [Builtin.Range.rangeFitsLong, Bool.and_eq_true, Bool.or_eq_true, decide_eq_true_eq, beq_iff_eq, show ((1 : Int) > 0) by decide, if_true]
  omega
theorem OJ.iter {xk : PySem.Str} (ps : List (List Nat)) {R : Addr} {D5 C3 C2 C1 : Addr × Obj} {vs5 : List Value} {n5 : Nat} {news₀ : List (Addr × Obj)}
    (hh : A.handled = none) (F : Fr h₀ env.locals s.heap m₀) (N : News h₀ env.locals s.heap news₀) (hR : (R, W.listOf #[] 0) ∈ news₀) (h3 : C3 ∈ news₀) (h2 : C2 ∈ news₀) (h1 : C1 ∈ news₀) (h5 : D5 ∈ news₀)
    (c5 : D5.2.cls = .type "list") (d5 : D5.2.data = .seq vs5.toArray n5) (hlt : R < D5.1) (hm : m₀ (PySem.Str.ofString "rows") = some (.ref R))
    (hb : Bears txt (fun j => ps.getD j []) ps.length vs5) (hps : ∀ p ∈ ps, Oct p ∧ p.length ≤ 100)
    (turn : ∀ (p : List Nat) (t : Tok) (I : Addr) (it : Obj) (rv : List Addr) (nn : Nat) (olds : List (Addr × Obj)) (u : PySem.Str → Option Value) (h : Heap) (tk : Nat), Oct p → p.length ≤ 100 → rv.length ≤ ps.length →
      (∀ q ∈ (R, W.listOf (refs rv).toArray nn) :: C3 :: C2 :: C1 :: olds, q.1 ≠ I) → (∀ q ∈ olds, R < q.1) →
      Fr h₀ env.locals h (fun z => if z = xk then some (.str (stx p) t) else if z = PySem.Str.ofString "rows" then some (.ref R) else u z) →
      News h₀ env.locals h ((I, it) :: (R, W.listOf (refs rv).toArray nn) :: C3 :: C2 :: C1 :: olds) →
      wpAny (model prog w) A (execs body env) (UnrPost h₀ env.locals { s with heap := h, toks := tk } I it (OStep R C3 C2 C1 rv olds p) Q) E { s with heap := h, toks := tk })
    (done : ∀ (rv : List Addr) (nn : Nat) (olds : List (Addr × Obj)) (u : PySem.Str → Option Value) (h : Heap) (tk : Nat), rv.length = ps.length → (∀ q ∈ olds, R < q.1) → (∀ j, j < ps.length → ∃ us no, (rv.getD j 0, W.listOf us.toArray no) ∈ olds ∧ Bears txt (wd (ps.getD j [])) 15 us) →
      Fr h₀ env.locals h (fun z => if z = PySem.Str.ofString "rows" then some (.ref R) else u z) → News h₀ env.locals h (C3 :: C2 :: (R, W.listOf (refs rv).toArray nn) :: C1 :: olds) → Q .next { s with heap := h, toks := tk }) :
    wpAny (model prog w) A (pyIter (.ref D5.1)) (fun it s₂ => LoopAtV prog w A h₀ env xk body Q E it s₂) E s := by
  have N' : News h₀ env.locals s.heap ((R, W.listOf #[] 0) :: C3 :: C2 :: C1 :: [D5]) := fun q hq => by
    simp only [List.mem_cons, List.not_mem_nil, or_false] at hq
    rcases hq with rfl | rfl | rfl | rfl | rfl
    · exact N _ hR
    · exact N _ h3
    · exact N _ h2
    · exact N _ h1
    · exact N _ h5
  have e5 : vs5.length = ps.length := hb.1
  refine iter_own (l := D5.1) (lo := D5.2) (vs := vs5) (fun i m nx => OJ ps R D5 C3 C2 C1 i m nx) hh F N' (.tail _ (.tail _ (.tail _ (.tail _ (.head _))))) c5 d5 ⟨hm, [], 0, [D5], rfl, rfl, ?_, .head _, fun j h => nomatch h⟩ ?_ ?_
  · intro q hq
    rw [List.mem_singleton.mp hq]; exact hlt
  · rintro i v I it m₁ news₁ h tk hv ⟨hm₁, rv, nn, olds, rfl, hl, ho, h5', hr⟩ hc hne F₁ N₁
    have hi : i < ps.length := by
      rcases Nat.lt_or_ge i vs5.length with q | q
      · omega
      · rw [List.getElem?_eq_none q] at hv; cases hv
    obtain ⟨t, ht⟩ := hb.2 i hi
    rw [hv] at ht
    have hv' : v = .str (stx (ps.getD i [])) t := Option.some.inj ht
    subst hv'
    have hp : ps.getD i [] ∈ ps := by
      rw [List.getD_eq_getElem?_getD, List.getElem?_eq_getElem hi]; exact List.getElem_mem hi
    have hp' := hps _ hp
    have hmap := map1 hm₁
    have e : (fun y => if y = xk then some (Value.str (stx (ps.getD i [])) t) else m₁ y) = fun z => if z = xk then some (Value.str (stx (ps.getD i [])) t) else if z = PySem.Str.ofString "rows" then some (.ref R) else m₁ z := by
      funext z
      by_cases hz : z = xk
      · rw [if_pos hz, if_pos hz]
      · rw [if_neg hz, if_neg hz]; exact congrFun hmap z
    rw [e] at F₁
    refine wpAny_mono (turn (ps.getD i []) t I it rv nn olds m₁ h tk hp'.1 hp'.2 (by omega) hne ho F₁ N₁) (fun f s₂ p => ?_) fun _ _ e => e
    have conv : UnrEnd h₀ env.locals { s with heap := h, toks := tk } I it (OStep R C3 C2 C1 rv olds (ps.getD i [])) s₂ →
        UnrEnd h₀ env.locals { s with heap := h, toks := tk } I it (fun m' n' => (∀ p ∈ [(D5.1, D5.2)], p ∈ n') ∧ OJ ps R D5 C3 C2 C1 (i + 1) m' n') s₂ := by
      rintro ⟨h', tk', m', n', e, F', N', o, j⟩
      refine ⟨h', tk', m', n', e, F', N', o, ⟨fun q hq => ?_, OStep.next hl ho h5' hr j⟩⟩
      obtain ⟨_, U, us, nu, n2, e2, _⟩ := j
      rw [e2, List.mem_singleton.mp hq]
      exact .tail _ (.tail _ (.tail _ (.tail _ (.tail _ h5'))))
    cases f with
    | ret v => exact p
    | brk => exact p
    | next => exact conv p
    | cont => exact conv p
  · rintro m₁ news₁ h tk ⟨hm₁, rv, nn, olds, rfl, hl, ho, h5', hr⟩ F₁ N₁
    rw [map1 hm₁] at F₁
    rw [e5] at hl hr
    exact done rv nn olds m₁ h tk hl ho hr F₁ (News.rot N₁)
theorem OStep.made {R U : Addr} {C3 C2 C1 : Addr × Obj} {rv : List Addr} {olds all : List (Addr × Obj)} {p : List Nat} {m : PySem.Str → Option Value} {L I : Addr} {it oR : Obj} {h : Heap} {tk nu nn : Nat} {us : List Value} {arr : Array Value}
    (F : Fr h₀ L h m) (N : News h₀ L h all) (hI : (I, it) ∈ all) (hR : (R, W.listOf arr nn) ∈ all) (h3 : C3 ∈ all) (h2 : C2 ∈ all) (h1 : C1 ∈ all) (hU : (U, W.listOf us.toArray nu) ∈ all) (ho : ∀ q ∈ olds, q ∈ all)
    (ha : arr = (refs rv ++ [Value.ref U]).toArray) (hlt : R < U) (hUI : U ≠ I) (hne : ∀ q ∈ (R, oR) :: C3 :: C2 :: C1 :: olds, q.1 ≠ I) (hb : Bears txt (wd p) 15 us) (hm : m (PySem.Str.ofString "rows") = some (.ref R)) :
    UnrEnd h₀ L s I it (OStep R C3 C2 C1 rv olds p) { s with heap := h, toks := tk } := by
  refine UnrEnd.intro F N ((R, W.listOf (refs (rv ++ [U])).toArray nn) :: C3 :: C2 :: C1 :: (U, W.listOf us.toArray nu) :: olds) (fun q hq => ?_) (fun q hq => ?_) ⟨hm, U, us, nu, nn, rfl, hlt, hb⟩
  · have e : refs (rv ++ [U]) = refs rv ++ [Value.ref U] := by simp [refs]
    rw [e, ← ha] at hq
    simp only [List.mem_cons] at hq
    rcases hq with rfl | rfl | rfl | rfl | rfl | rfl | hq
    · exact hI
    · exact hR
    · exact h3
    · exact h2
    · exact h1
    · exact hU
    · exact ho q hq
  · simp only [List.mem_cons] at hq
    rcases hq with rfl | rfl | rfl | rfl | rfl | hq
    · exact hne (R, oR) (.head _)
    · exact hne _ (.tail _ (.head _))
    · exact hne _ (.tail _ (.tail _ (.head _)))
    · exact hne _ (.tail _ (.tail _ (.tail _ (.head _))))
    · exact hUI
    · exact hne q (.tail _ (.tail _ (.tail _ (.tail _ hq))))
/-- the last loops: a number of pairs parted so far -/
def FJ (R A2 A3 : Addr) (base : List (Addr × Obj)) (P2 : Option Value → Prop) (n : Nat) (m : PySem.Str → Option Value) (nx : List (Addr × Obj)) : Prop :=
  m (PySem.Str.ofString "rows") = some (.ref R) ∧ (∃ t, m (PySem.Str.ofString "parted") = some (.int (n : Int) t)) ∧ ∃ (o2 o3 : Obj) (v2 v3 : Option Value), nx = (A3, o3) :: (A2, o2) :: base ∧ o2.data = .cell v2 ∧ o3.data = .cell v3 ∧ P2 v2
theorem FJ.map {R : Addr} {n : Nat} {m : PySem.Str → Option Value} {t : Tok} (h1 : m (PySem.Str.ofString "rows") = some (.ref R)) (h2 : m (PySem.Str.ofString "parted") = some (.int (n : Int) t)) :
    m = fun z => if z = PySem.Str.ofString "rows" then some (.ref R) else if z = PySem.Str.ofString "parted" then some (.int (n : Int) t) else m z := by
  funext z
  by_cases h : z = PySem.Str.ofString "rows"
  · rw [if_pos h, h, h1]
  · rw [if_neg h]
    by_cases h' : z = PySem.Str.ofString "parted"
    · rw [if_pos h', h', h2]
    · rw [if_neg h']
theorem FJ.iter {R A2 A3 r : Addr} {base : List (Addr × Obj)} (P2 : Option Value → Prop) (f : Nat → Nat) {b₀ : Int} {t₀ u₀ v₀ tp₀ : Tok} {n : Nat} {o2 o3 : Obj} {v2 v3 : Option Value}
    (hh : A.handled = none) (hr : IsRange s.heap r 0 b₀ 1 t₀ u₀ v₀) (hb0 : 0 ≤ b₀) (hb1 : b₀ < 2 ^ 62) (hn : b₀ = (n : Int)) (F : Fr h₀ env.locals s.heap m₀) (N : News h₀ env.locals s.heap ((A3, o3) :: (A2, o2) :: base))
    (d2 : o2.data = .cell v2) (d3 : o3.data = .cell v3) (hP : P2 v2) (e1 : m₀ (PySem.Str.ofString "rows") = some (.ref R)) (e2 : m₀ (PySem.Str.ofString "parted") = some (.int ((f 0 : Nat) : Int) tp₀))
    (turn : ∀ (i : Nat) (k : Int) (I : Addr) (it o2 o3 : Obj) (v2 v3 : Option Value) (tp : Tok) (u : PySem.Str → Option Value) (t : Tok) (h : Heap) (tk : Nat), i < n → k = (i : Int) → o2.data = .cell v2 → o3.data = .cell v3 → P2 v2 → (∀ p ∈ (A3, o3) :: (A2, o2) :: base, p.1 ≠ I) →
      Fr h₀ env.locals h (fun z => if z = PySem.Str.ofString "rows" then some (.ref R) else if z = PySem.Str.ofString "parted" then some (.int ((f i : Nat) : Int) tp) else u z) → News h₀ env.locals h ((I, it) :: (A3, o3) :: (A2, o2) :: base) →
      wpAny (model prog w) A (assign target env (.int k t)) (fun _ s₃ => wpAny (model prog w) A (execs body env) (UnrPost h₀ env.locals { s with heap := h, toks := tk } I it (FJ R A2 A3 base P2 (f (i + 1))) Q) E s₃) E { s with heap := h, toks := tk })
    (done : ∀ (o2 o3 : Obj) (v2 v3 : Option Value) (tp : Tok) (u : PySem.Str → Option Value) (h : Heap) (tk : Nat), o2.data = .cell v2 → o3.data = .cell v3 → P2 v2 →
      Fr h₀ env.locals h (fun z => if z = PySem.Str.ofString "rows" then some (.ref R) else if z = PySem.Str.ofString "parted" then some (.int ((f n : Nat) : Int) tp) else u z) → News h₀ env.locals h ((A3, o3) :: (A2, o2) :: base) → Q .next { s with heap := h, toks := tk }) :
    wpAny (model prog w) A (pyIter (.ref r)) (fun it s₂ => TurnsAt prog w A h₀ env target body Q E it s₂) E s := by
  have hz : Builtin.Range.rangeSize 0 b₀ 1 = (n : Int) := by
    rw [rangeSize_nat]; omega
  have hsm : Builtin.Range.small 0 b₀ 1 = true := small_upto hb0 hb1
  refine iter_upT (fun i m nx => FJ R A2 A3 base P2 (f i) m nx) hh hr hsm hz F N ⟨e1, ⟨tp₀, e2⟩, o2, o3, v2, v3, rfl, d2, d3, hP⟩ ?_ ?_
  · rintro i I it m₁ news₁ t h tk hi ⟨q1, ⟨tp, q2⟩, o2, o3, v2, v3, rfl, d2, d3, hP⟩ hc hne F₁ N₁
    rw [FJ.map q1 q2] at F₁
    have e0 : (0 : Int) + (i : Int) = (i : Int) := by omega
    rw [e0]
    refine wpAny_mono (turn i (i : Int) I it o2 o3 v2 v3 tp m₁ t h tk hi rfl d2 d3 hP hne F₁ N₁) (fun _ s₃ h₃ => wpAny_mono h₃ (fun f' s₂ pp => ?_) fun _ _ e => e) fun _ _ e => e
    have conv : UnrEnd h₀ env.locals { s with heap := h, toks := tk } I it (FJ R A2 A3 base P2 (f (i + 1))) s₂ →
        UnrEnd h₀ env.locals { s with heap := h, toks := tk } I it (fun m' n' => (∀ p ∈ ([] : List (Addr × Obj)), p ∈ n') ∧ FJ R A2 A3 base P2 (f (i + 1)) m' n') s₂ := by
      rintro ⟨h', tk', m', n', e, F', N', o, j⟩
      exact ⟨h', tk', m', n', e, F', N', o, fun _ h => (nomatch h), j⟩
    cases f' with
    | ret v => exact pp
    | brk => exact pp
    | next => exact conv pp
    | cont => exact conv pp
  · rintro m₁ news₁ h tk ⟨q1, ⟨tp, q2⟩, o2, o3, v2, v3, rfl, d2, d3, hP⟩ F₁ N₁
    rw [FJ.map q1 q2] at F₁
    exact done o2 o3 v2 v3 tp m₁ h tk d2 d3 hP F₁ N₁
theorem FJ.made {R A2 A3 I L : Addr} {base all : List (Addr × Obj)} {P2 : Option Value → Prop} {n tk : Nat} {m : PySem.Str → Option Value} {it o2 o3 o2' o3' : Obj} {v2 v3 : Option Value} {x : Int} {t : Tok} {h : Heap}
    (F : Fr h₀ L h m) (N : News h₀ L h all) (hI : (I, it) ∈ all) (h3 : (A3, o3) ∈ all) (h2 : (A2, o2) ∈ all) (hb : ∀ q ∈ base, q ∈ all) (hne : ∀ p ∈ (A3, o3') :: (A2, o2') :: base, p.1 ≠ I) (d2 : o2.data = .cell v2) (d3 : o3.data = .cell v3) (hP : P2 v2)
    (e1 : m (PySem.Str.ofString "rows") = some (.ref R)) (e2 : m (PySem.Str.ofString "parted") = some (.int x t)) (hx : x = (n : Int)) : UnrEnd h₀ L s I it (FJ R A2 A3 base P2 n) { s with heap := h, toks := tk } := by
  subst hx
  refine UnrEnd.intro F N ((A3, o3) :: (A2, o2) :: base) (fun q hq => ?_) (fun q hq => ?_) ⟨e1, ⟨t, e2⟩, o2, o3, v2, v3, rfl, d2, d3, hP⟩
  · simp only [List.mem_cons] at hq
    rcases hq with rfl | rfl | rfl | hq
    · exact hI
    · exact h3
    · exact h2
    · exact hb q hq
  · simp only [List.mem_cons] at hq
    rcases hq with rfl | rfl | hq
    · exact hne (A3, o3') (.head _)
    · exact hne (A2, o2') (.tail _ (.head _))
    · exact hne q (.tail _ (.tail _ hq))
end
def tri : Nat → Nat
  | 0 => 0
  | n + 1 => tri n + n
theorem tri15 : tri 15 = 105 := by decide
end Mine
end

section
open PySem PySem.W PyProof.Rows PySem.Spec PySem.Calls PySem.Builtin
namespace Mine
set_option maxRecDepth 100000
theorem off_use {R c : Addr} {olds : List (Addr × Obj)} (h : ∀ q ∈ olds, R < q.1) (hc : @LT.lt Nat _ c R) : ∀ q ∈ olds, q.1 ≠ c := fun q hq e => by
  have h1 : @LT.lt Nat _ R q.1 := h q hq
  have h2 : @Eq Nat q.1 c := e
  omega
def triJ (a j : Nat) : Nat := tri a + j
theorem triJ_next (a j : Nat) : ((triJ a j : Nat) : Int) + 1 = ((triJ a (j + 1) : Nat) : Int) := by unfold triJ; omega
theorem tri15' : ((tri 15 : Nat) : Int) = 105 := by decide
theorem oct_kv (w : World) {o : Obj} {b : Bool} (h : o.data = .cell (some (.bool b))) : ∃ oc kv, o.data = .cell (some (.bool oc)) ∧ KV w oc kv := by
  obtain ⟨kv, hk⟩ := kv_ex w b
  exact ⟨b, kv, h, hk⟩
theorem KV.ne' {w : World} {oc : Bool} {kv : List Nat → Tok → Value} (V : KV w oc kv) {prog : Program} {A : Around} {E : Value → Shared → Prop} {s : Shared} {Q : Value → Shared → Prop} {l l' : List Nat} {t u : Tok} (e : l = l') (h : Q (.bool false) s) :
    wpAny (model prog w) A (compareOp .NotEq (kv l t) (kv l' u)) Q E s := by
  subst e
  exact V.ne _ _ _ _ _ _ _ _ h
section
variable {prog : Program} {w : World} {A : Around} {E : Value → Shared → Prop} {s : Shared} {h₀ : Heap} {L : Addr} {m : PySem.Str → Option Value} {env : Env} {elt : PySem.Expr} {x : PySem.Str} {scope : Scope} {cl : List (PySem.Str × Addr)}
open LCg
theorem comp_words (kv : List Nat → Tok → Value) (g : Nat → List Nat) {k : Nat} {ax : Addr} {o : Obj} {vs : List Value} {n : Nat} {news : List (Addr × Obj)} {Q : Value → Shared → Prop}
    (hh : A.handled = none) (F : Fr h₀ L s.heap m) (N : News h₀ L s.heap news) (hm : (ax, o) ∈ news) (hc : o.cls = .type "list") (hd : o.data = .seq vs.toArray n) (hb : Bears txt g k vs) (hz : k ≤ 1000)
    (turn : ∀ i t I oI C oC D m₂ ys h tk (E' : Value → Shared → Prop), i < k → NsObj oC m₂ → m₂ x = some (.str (stx (g i)) t) → Fr h₀ L h m → News h₀ L h ((I, oI) :: (C, oC) :: (D, lst ys) :: news) → Off3 I C D news → ((@Ne Nat I C) ∧ (@Ne Nat I D) ∧ (@Ne Nat C D)) →
      wpAny (model prog w) A (eval elt (compEnvC scope cl C env)) (CompEnd h₀ L m { s with heap := h, toks := tk } I oI C oC D (lst ys) (fun _ => True) (fun y nw => nw = news ∧ ∃ t, y = kv (g i) t)) E' { s with heap := h, toks := tk })
    (fin : ∀ ys D h tk, Bears kv g k ys → Fr h₀ L h m → News h₀ L h ((D, lst ys) :: news) → (∀ p ∈ news, p.1 ≠ D) → Q (.ref D) { s with heap := h, toks := tk }) :
    CompSrc prog w A h₀ L m env elt x scope cl (fun s₂ => FinE h₀ L m s₂ Q) (.ref ax) s := by
  refine comp_own (fun i y => ∃ t, y = kv (g i) t) hh F N hm hc hd (by rw [hb.1]; exact hz) ?_ ?_
  · intro i v I oI C oC D m₂ ys h tk E' hv hC hx F' N' off ne
    have hi : i < k := by
      rcases Nat.lt_or_ge i vs.length with q | q
      · rw [← hb.1]; exact q
      · rw [List.getElem?_eq_none q] at hv; cases hv
    obtain ⟨t, ht⟩ := hb.2 i hi
    rw [hv] at ht
    rw [Option.some.inj ht] at hx
    exact turn i t I oI C oC D m₂ ys h tk E' hi hC hx F' N' off ne
  · intro ys D h tk hl hR F' N' o
    refine fin ys D h tk ⟨by rw [hl, hb.1], fun j hj => ?_⟩ F' N' o
    have hj' : j < ys.length := by rw [hl, hb.1]; exact hj
    obtain ⟨t, ht⟩ := hR j _ (List.getElem?_eq_getElem hj')
    exact ⟨t, by rw [List.getElem?_eq_getElem hj', ht]⟩
/-- the rows of the typed paths in a list -/
def Rows3 (news : List (Addr × Obj)) (vs : List Value) : Prop := vs.length = 3 ∧ ∀ j, j < 3 → ∃ r us no, vs[j]? = some (.ref r) ∧ (r, W.listOf us.toArray no) ∈ news ∧ Bears txt (wd (typed.getD j [])) 15 us
theorem comp_rows (a : Nat) {ax : Addr} {o : Obj} {vs : List Value} {n : Nat} {news : List (Addr × Obj)} {Q : Value → Shared → Prop}
    (hh : A.handled = none) (F : Fr h₀ L s.heap m) (N : News h₀ L s.heap news) (hm : (ax, o) ∈ news) (hc : o.cls = .type "list") (hd : o.data = .seq vs.toArray n) (hb : Rows3 news vs)
    (turn : ∀ i r us no I oI C oC D m₂ ys h tk (E' : Value → Shared → Prop), (r, W.listOf us.toArray no) ∈ news → Bears txt (wd (typed.getD i [])) 15 us → NsObj oC m₂ → m₂ x = some (.ref r) → Fr h₀ L h m → News h₀ L h ((I, oI) :: (C, oC) :: (D, lst ys) :: news) → Off3 I C D news → ((@Ne Nat I C) ∧ (@Ne Nat I D) ∧ (@Ne Nat C D)) →
      wpAny (model prog w) A (eval elt (compEnvC scope cl C env)) (CompEnd h₀ L m { s with heap := h, toks := tk } I oI C oC D (lst ys) (fun _ => True) (fun y nw => nw = news ∧ ∃ t, y = txt (wd (typed.getD i []) a) t)) E' { s with heap := h, toks := tk })
    (fin : ∀ ys D h tk, Bears txt (fun j => wd (typed.getD j []) a) 3 ys → Fr h₀ L h m → News h₀ L h ((D, lst ys) :: news) → (∀ p ∈ news, p.1 ≠ D) → Q (.ref D) { s with heap := h, toks := tk }) :
    CompSrc prog w A h₀ L m env elt x scope cl (fun s₂ => FinE h₀ L m s₂ Q) (.ref ax) s := by
  refine comp_own (fun i y => ∃ t, y = txt (wd (typed.getD i []) a) t) hh F N hm hc hd (by rw [hb.1]; decide) ?_ ?_
  · intro i v I oI C oC D m₂ ys h tk E' hv hC hx F' N' off ne
    have hi : i < 3 := by
      rcases Nat.lt_or_ge i vs.length with q | q
      · rw [← hb.1]; exact q
      · rw [List.getElem?_eq_none q] at hv; cases hv
    obtain ⟨r, us, no, ht, hmm, hbb⟩ := hb.2 i hi
    rw [hv] at ht
    rw [Option.some.inj ht] at hx
    exact turn i r us no I oI C oC D m₂ ys h tk E' hmm hbb hC hx F' N' off ne
  · intro ys D h tk hl hR F' N' o
    refine fin ys D h tk ⟨by rw [hl, hb.1], fun j hj => ?_⟩ F' N' o
    have hj' : j < ys.length := by rw [hl, hb.1]; exact hj
    obtain ⟨t, ht⟩ := hR j _ (List.getElem?_eq_getElem hj')
    exact ⟨t, by rw [List.getElem?_eq_getElem hj', ht]⟩
theorem Rows3.mono {n1 n2 : List (Addr × Obj)} {vs : List Value} (h : Rows3 n1 vs) (hs : ∀ q ∈ n1, q ∈ n2) : Rows3 n2 vs :=
  ⟨h.1, fun j hj => by obtain ⟨r, us, no, a, b, c⟩ := h.2 j hj; exact ⟨r, us, no, a, hs _ b, c⟩⟩
theorem rows3_of {rv : List Addr} {olds : List (Addr × Obj)} {p q : List Nat} (hl : rv.length = 5)
    (h : ∀ j, j < 5 → ∃ us no, (rv.getD j 0, W.listOf us.toArray no) ∈ olds ∧ Bears txt (wd (([p, q, [97, 46, 98], [97, 46, 98, 47], [47]] : List (List Nat)).getD j [])) 15 us) : Rows3 olds ((refs rv).drop 2) := by
  refine ⟨by simp [refs, hl], fun j hj => ?_⟩
  obtain ⟨us, no, h1, h2⟩ := h (j + 2) (by omega)
  refine ⟨rv.getD (j + 2) 0, us, no, ?_, h1, ?_⟩
  · have : j + 2 < rv.length := by omega
    rw [List.getElem?_drop, List.getElem?_map, Nat.add_comm 2 j, List.getElem?_eq_getElem this, List.getD_eq_getElem?_getD, List.getElem?_eq_getElem this]; rfl
  · match j, hj with
    | 0, _ => exact h2
    | 1, _ => exact h2
    | 2, _ => exact h2
    | n + 3, h => omega
theorem rows_slice {value slice : PySem.Expr} {l : Addr} {o : Obj} {n : Nat} {rv : List Addr} {vl : Value} {news : List (Addr × Obj)} {ops : List Value} {Q : Value → Shared → Prop}
    (F : Fr h₀ L s.heap m) (N : News h₀ L s.heap news) (hm : (l, o) ∈ news) (ho : o = W.listOf (refs rv).toArray n) (hl : rv.length = 5) (pl : IsPart vl (some 2))
    (h : ∀ D h', Fr h₀ L h' m → News h₀ L h' ((D, W.listOf ((refs rv).drop 2).toArray 0) :: news) → (∀ p ∈ news, p.1 < D) → Q (.ref D) { s with heap := h' })
    (hs : subscripted slice false (.ref l) (.ref s.heap.objs.size) = operate ops (getItem (.ref l) (.ref s.heap.objs.size)) := by with_unfolding_all rfl)
    (ht : ∀ r, letTemporaryGo value (.ref l) r = pure () := by intro _; with_unfolding_all rfl) :
    wpAny (model prog w) A (subscriptTail value slice (.ref l) (.ref s.heap.objs.size)) Q E { s with heap := s.heap.push { cls := .type "slice", data := .fields #[vl, .none, .none] } } := by
  subst ho
  have hL : s.heap.IsList l (refs rv).toArray := ⟨_, (N _ hm).1, rfl, n, rfl⟩
  refine slice_list3 F N hL pl .none .none (by decide) (fun h' F' N' => ?_) hs ht ?_
  · refine h _ h' F' ?_ fun p hp => Nat.lt_succ_of_lt (Heap.lt_size (N p hp).1)
    have e : slicePick (refs rv).toArray (some 2) none none = ((refs rv).drop 2).toArray := by
      have hz : (refs rv).toArray.size = 5 := by simp [refs, hl]
      have q := kmk_pick_nat (refs rv).toArray (lo := some 2) (hi := none) (a := 2) (b := 5) (by rw [hz]; rfl)
      rw [q]
      have : ((refs rv).drop 2).length ≤ 5 - 2 := by simp [refs, hl]
      rw [List.take_of_length_le (by simpa using this)]
    rw [e] at N'
    exact N'
  · rw [sizeLine_eq]; simp [refs, hl]
theorem len_rows {R : Addr} {nn : Nat} {arr : Array Value} {rv : List Addr} {x : Value} {news : List (Addr × Obj)} {Q : Value → Shared → Prop} (N : News h₀ L s.heap news) (hm : (R, W.listOf arr nn) ∈ news) (ha : arr = (refs rv).toArray.push x) (hz : rv.length ≤ 5)
    (h : ∀ t tk, Q (.int ((rv.length : Int) + 1) t) { s with toks := tk }) : wpAny (model prog w) A (call (.builtin "len") [.ref R]) Q E s := by
  subst ha
  have hl : s.heap.IsList R ((refs rv).toArray.push x) := ⟨_, (N _ hm).1, rfl, nn, rfl⟩
  have e : (((refs rv).toArray.push x).size : Int) = (rv.length : Int) + 1 := by simp [refs]
  refine kun_lenL hl e (by omega) (h _ _)
theorem typed_getD {f : List Nat → List Nat} : ∀ j, j < 3 → (typed.map f).getD j [] = f (typed.getD j [])
  | 0, _ => rfl
  | 1, _ => rfl
  | 2, _ => rfl
  | n + 3, h => absurd h (by omega)
theorem ne_rows {a b : Nat} (ha : a < 15) (hb : b < a) {x y : Addr} {ox oy : Obj} {nx ny : Nat} {us vs : List Value} {news : List (Addr × Obj)} {Q : Value → Shared → Prop}
    (N : News h₀ L s.heap news) (hx : (x, ox) ∈ news) (hy : (y, oy) ∈ news) (cx : ox.cls = .type "list") (cy : oy.cls = .type "list") (dx : ox.data = .seq us.toArray nx) (dy : oy.data = .seq vs.toArray ny)
    (hu : Bears txt (fun j => wd (typed.getD j []) a) 3 us) (hv : Bears txt (fun j => wd (typed.getD j []) b) 3 vs) (hr : A.units < cLine) (h : Q (.bool true) s) : wpAny (model prog w) A (compareOp .NotEq (.ref x) (.ref y)) Q E s := by
  refine ne_texts (cs := typed.map fun p => wd p a) (ds := typed.map fun p => wd p b) N hx hy cx cy dx dy ?_ ?_ ?_ (fun j hj => ?_) (fun j hj => ?_) hr ?_
  · rw [hu.1]; rfl
  · rw [hv.1]; rfl
  · rfl
  · have hj' : j < 3 := hj
    rw [typed_getD (f := fun p => wd p a) j hj']; exact hu.2 j hj'
  · have hj' : j < 3 := hj
    rw [typed_getD (f := fun p => wd p b) j hj']; exact hv.2 j hj'
  · rw [decide_eq_false (typed_part a ha b hb)]; exact h
end
end Mine
end

section
open PySem PySem.W PyProof.Rows PySem.Spec PySem.Calls
namespace Mine
local macro_rules | `(tactic| walk_at "UnrEnd") => `(tactic| k_dflt (k_extra "UnrEnd"))
set_option maxRecDepth 100000
set_option maxHeartbeats 8000000
/-- the pieces of a path, as far as they are made -/
def PJ (xk : PySem.Str) (m₀ : PySem.Str → Option Value) (nA : Addr) (rest : List (Addr × Obj)) (i : Nat) (m : PySem.Str → Option Value) (nx : List (Addr × Obj)) : Prop :=
  (∀ z, z ≠ xk → m z = m₀ z) ∧ ∃ (ys : List (PySem.Str × Tok)) (nn : Nat) (ps : List (List Nat)), nx = (nA, W.listOf (strValues ys).toArray nn) :: rest ∧ ys.map (·.1) = ps.map stx ∧ ps.length = i ∧ ∀ p ∈ ps, Oct p ∧ p.length ≤ 5
section
variable {prog : Program} {w : World} {A : Around} {E : Value → Shared → Prop} {s : Shared} {env : Env} {h₀ : Heap} {xk : PySem.Str} {body : List Stmt} {Q : Flow → Shared → Prop}
theorem PJ.iter {nA D : Addr} {vs : List Value} {ns : List Int} {nD : Nat} {rest : List (Addr × Obj)} {m₀ : PySem.Str → Option Value}
    (hN : News h₀ env.locals s.heap ((nA, W.listOf ([] : List Value).toArray 0) :: rest)) (hF : Fr h₀ env.locals s.heap m₀) (hh : A.handled = none) (hm : (D, ({ cls := .type "list", data := .seq vs.toArray nD } : Obj)) ∈ rest) (hvs : IntsAre vs ns)
    (turn : ∀ (I : Addr) (it : Obj) (nn : Nat) (ys : List (PySem.Str × Tok)) (ps : List (List Nat)) (h : Heap) (tk : Nat) (n : Int) (t : Tok), ps.length ≤ ns.length → ys.map (·.1) = ps.map stx → (∀ p ∈ ps, Oct p ∧ p.length ≤ 5) →
      @Ne Nat I nA → (∀ p ∈ (nA, W.listOf (strValues ys).toArray nn) :: rest, p.1 ≠ I) →
      Fr h₀ env.locals h (fun z => if z = xk then some (.int n t) else m₀ z) →
      News h₀ env.locals h ((I, it) :: (nA, W.listOf (strValues ys).toArray nn) :: rest) →
      wpAny (model prog w) A (execs body env) (UnrPost h₀ env.locals { s with heap := h, toks := tk } I it (PJ xk m₀ nA rest (ps.length + 1)) Q) E { s with heap := h, toks := tk })
    (done : ∀ (nn : Nat) (ys : List (PySem.Str × Tok)) (ps : List (List Nat)) (u : PySem.Str → Option Value) (h : Heap) (tk : Nat), ps.length = ns.length → ys.map (·.1) = ps.map stx → (∀ p ∈ ps, Oct p ∧ p.length ≤ 5) →
      Fr h₀ env.locals h (fun z => if z = xk then u z else m₀ z) → News h₀ env.locals h ((nA, W.listOf (strValues ys).toArray nn) :: rest) → Q .next { s with heap := h, toks := tk }) :
    wpAny (model prog w) A (pyIter (.ref D)) (fun it s₂ => LoopAtV prog w A h₀ env xk body Q E it s₂) E s := by
  refine iter_own (vs := vs) (PJ xk m₀ nA rest) hh hF hN (.tail _ hm) rfl rfl ⟨fun _ _ => rfl, [], 0, [], rfl, rfl, rfl, by simp⟩ ?_ ?_
  · rintro i v I it m₁ news₁ h tk hvi ⟨hm₁, ys, nn, ps, rfl, hys, rfl, hps⟩ hc hne F₁ N₁
    obtain ⟨n, t, rfl, hn⟩ := IntsAre.at hvs ps.length v hvi
    have e : (fun y => if y = xk then some (.int n t) else m₁ y) = fun z => if z = xk then some (.int n t) else m₀ z := by
      funext z
      by_cases hz : z = xk
      · rw [if_pos hz, if_pos hz]
      · rw [if_neg hz, if_neg hz, hm₁ z hz]
    rw [e] at F₁
    have hlt : ps.length < ns.length := by
      rcases Nat.lt_or_ge ps.length ns.length with h | h
      · exact h
      · rw [List.getElem?_eq_none h] at hn; cases hn
    have := turn I it nn ys ps h tk n t (Nat.le_of_lt hlt) hys hps (fun e => hne _ (.head _) e.symm) hne F₁ N₁
    refine wpAny_mono this (fun f s₂ p => ?_) fun _ _ e => e
    have conv : UnrEnd h₀ env.locals { s with heap := h, toks := tk } I it (PJ xk m₀ nA rest (ps.length + 1)) s₂ →
        UnrEnd h₀ env.locals { s with heap := h, toks := tk } I it (fun m' n' => (∀ p ∈ [(D, ({ cls := .type "list", data := .seq vs.toArray nD } : Obj))], p ∈ n') ∧ PJ xk m₀ nA rest (ps.length + 1) m' n') s₂ := by
      rintro ⟨h', tk', m', n', e, F', N', o, j⟩
      refine ⟨h', tk', m', n', e, F', N', o, ⟨fun p hp => ?_, j⟩⟩
      obtain ⟨_, ys', nn', ps', e', _⟩ := j
      rw [e', List.mem_singleton.mp hp]
      exact .tail _ hm
    cases f with
    | ret v => exact p
    | brk => exact p
    | next => exact conv p
    | cont => exact conv p
  · rintro m₁ news₁ h tk ⟨hm₁, ys, nn, ps, rfl, hys, hl, hps⟩ F₁ N₁
    refine done nn ys ps m₁ h tk (by rw [hl, hvs.length]) hys hps ?_ N₁
    have e : (fun z => if z = xk then m₁ z else m₀ z) = m₁ := by
      funext z
      by_cases hz : z = xk
      · rw [if_pos hz]
      · rw [if_neg hz, hm₁ z hz]
    rw [e]; exact F₁
theorem PJ.made {m₀ m : PySem.Str → Option Value} {nA I : Addr} {rest : List (Addr × Obj)} {h : Heap} {L : Addr} {tk : Nat} {it oA : Obj} {ys : List (PySem.Str × Tok)} {nn : Nat} {arr : Array Value} {ps : List (List Nat)} (p : List Nat) {y : PySem.Str} {tp : Tok}
    (F : Fr h₀ L h m) (N : News h₀ L h ((I, it) :: (nA, W.listOf arr nn) :: rest)) (he : arr = (strValues ys ++ [Value.str y tp]).toArray) (hne : ∀ p ∈ (nA, oA) :: rest, p.1 ≠ I) (hm : ∀ z, z ≠ xk → m z = m₀ z)
    (hy : ys.map (·.1) = ps.map stx) (hps : ∀ p ∈ ps, Oct p ∧ p.length ≤ 5) (hp : y = stx p ∧ Oct p ∧ p.length ≤ 5) :
    UnrEnd h₀ L s I it (PJ xk m₀ nA rest (ps.length + 1)) { s with heap := h, toks := tk } :=
  UnrEnd.intro F N _ (fun _ hp => hp) (fun p hp => by
    rcases List.mem_cons.mp hp with rfl | hp
    · exact hne (nA, oA) (.head _)
    · exact hne p (.tail _ hp)) ⟨hm, ys ++ [(y, tp)], nn, ps ++ [p], by rw [he]; simp [strValues], by simp [hy, hp.1], by simp, fun q hq => by
      rcases List.mem_append.mp hq with hq | hq
      · exact hps q hq
      · rw [List.mem_singleton.mp hq]; exact hp.2⟩
end
def pcs : List (List Nat) := [[97], [], [46], [46, 46], [46, 97], [97, 46], [97, 46, 98], [46, 46, 97, 46, 98], [46, 46, 46], [97, 98]]
theorem pcs_tab : ([PySem.Str.ofString "a", PySem.Str.ofString "", PySem.Str.ofString ".", PySem.Str.ofString "..", PySem.Str.ofString ".a", PySem.Str.ofString "a.", PySem.Str.ofString "a.b", PySem.Str.ofString "..a.b", PySem.Str.ofString "...", PySem.Str.ofString "ab"] : List PySem.Str) = pcs.map stx := by
  decide +kernel
theorem pcs_ok : ∀ p ∈ pcs, Oct p ∧ p.length ≤ 5 := by
  unfold Oct
  decide +kernel
theorem pcs_at {n : Int} (h : n.fmod 11 < 10) {y : PySem.Str} (e : y = ([PySem.Str.ofString "a", PySem.Str.ofString "", PySem.Str.ofString ".", PySem.Str.ofString "..", PySem.Str.ofString ".a", PySem.Str.ofString "a.", PySem.Str.ofString "a.b", PySem.Str.ofString "..a.b", PySem.Str.ofString "...", PySem.Str.ofString "ab"] : List PySem.Str).getD (n.fmod 11).toNat PySem.Str.empty) :
    y = stx (pcs.getD (n.fmod 11).toNat []) ∧ Oct (pcs.getD (n.fmod 11).toNat []) ∧ (pcs.getD (n.fmod 11).toNat []).length ≤ 5 := by
  have h0 : 0 ≤ n.fmod 11 := Int.fmod_nonneg_of_pos n (by decide)
  have hk : (n.fmod 11).toNat < pcs.length := by show _ < 10; omega
  generalize (n.fmod 11).toNat = k at hk e
  subst e
  rw [pcs_tab]
  have e2 : pcs.getD k [] = pcs[k] := by rw [List.getD_eq_getElem?_getD, List.getElem?_eq_getElem hk]; rfl
  have e1 : (pcs.map stx).getD k PySem.Str.empty = stx pcs[k] := by rw [List.getD_eq_getElem?_getD, List.getElem?_map, List.getElem?_eq_getElem hk]; rfl
  rw [e1, e2]
  exact ⟨rfl, pcs_ok _ (List.getElem_mem hk)⟩
theorem drawn_at {a b : Int} {y : PySem.Str} (e : y = ({ cps := #[(a.fmod 256).toNat] } : PySem.Str) ++ PySem.Str.ofString "." ++ ({ cps := #[(b.fmod 256).toNat] } : PySem.Str)) :
    y = stx [(a.fmod 256).toNat, 46, (b.fmod 256).toNat] ∧ Oct [(a.fmod 256).toNat, 46, (b.fmod 256).toNat] ∧ [(a.fmod 256).toNat, 46, (b.fmod 256).toNat].length ≤ 5 := by
  subst e
  have ha := Int.fmod_lt_of_pos a (b := 256) (by decide)
  have hb := Int.fmod_lt_of_pos b (b := 256) (by decide)
  refine ⟨by with_unfolding_all rfl, ?_, by show 3 ≤ 5; decide⟩
  intro c hc
  simp only [List.mem_cons, List.not_mem_nil, or_false] at hc
  rcases hc with rfl | rfl | rfl <;> omega
theorem ylen {ys : List (PySem.Str × Tok)} {ps : List (List Nat)} (h : ys.map (·.1) = ps.map stx) (h6 : ps.length ≤ 300) : (strValues ys).length ≤ 300 := by
  have h1 := congrArg List.length h
  rw [List.length_map, List.length_map] at h1
  unfold strValues
  rw [List.length_map]; omega
theorem jn_len5 : ∀ {ps : List (List Nat)}, (∀ p ∈ ps, Oct p ∧ p.length ≤ 5) → (jn ps).length ≤ 6 * ps.length
  | [], _ => by simp [jn]
  | [p], h => by
    have := (h p (.head _)).2
    show p.length ≤ 6
    omega
  | p :: q :: r, h => by
    have h1 := (h p (.head _)).2
    have h2 := jn_len5 (ps := q :: r) fun x hx => h x (.tail _ hx)
    rw [jn_cons p (by simp), List.length_append, List.length_cons, List.length_cons]
    omega
theorem jlen {y : PySem.Str} {ps : List (List Nat)} (e : stx (jn ps) = y) (hps : ∀ p ∈ ps, Oct p ∧ p.length ≤ 5) (h6 : ps.length ≤ 6) : y.length ≤ 90 := by
  rw [← e, stx_len]
  have h1 := jn_len5 hps
  omega
theorem path_fin {y : PySem.Str} {ps : List (List Nat)} {sl : Int} (h0 : 0 ≤ sl) (h5 : sl < 5) (e : stx (jn ps) = y) (hps : ∀ p ∈ ps, Oct p ∧ p.length ≤ 5) (h6 : ps.length ≤ 6) :
    ∃ p, Txt.mul (PySem.Str.ofString "/") sl ++ y = stx p ∧ Oct p ∧ p.length ≤ 100 := by
  refine ⟨List.replicate sl.toNat 47 ++ jn ps, ?_, ?_, ?_⟩
  · subst e
    obtain rfl | rfl | rfl | rfl | rfl : sl = 0 ∨ sl = 1 ∨ sl = 2 ∨ sl = 3 ∨ sl = 4 := by omega
    · exact (show Txt.mul (PySem.Str.ofString "/") 0 = stx [] by decide +kernel) ▸ (app_stx [] (jn ps))
    · exact (show Txt.mul (PySem.Str.ofString "/") 1 = stx [47] by decide +kernel) ▸ (app_stx [47] (jn ps))
    · exact (show Txt.mul (PySem.Str.ofString "/") 2 = stx [47, 47] by decide +kernel) ▸ (app_stx [47, 47] (jn ps))
    · exact (show Txt.mul (PySem.Str.ofString "/") 3 = stx [47, 47, 47] by decide +kernel) ▸ (app_stx [47, 47, 47] (jn ps))
    · exact (show Txt.mul (PySem.Str.ofString "/") 4 = stx [47, 47, 47, 47] by decide +kernel) ▸ (app_stx [47, 47, 47, 47] (jn ps))
  · intro c hc
    rcases List.mem_append.mp hc with hc | hc
    · rw [List.eq_of_mem_replicate hc]; decide
    · exact oct_jn (fun p hp => (hps p hp).1) c hc
  · have := jn_len5 hps
    rw [List.length_append, List.length_replicate]
    omega
theorem path_ret {h₀ h' : Heap} {L : Addr} {m : PySem.Str → Option Value} {news : List (Addr × Obj)} {s : Shared} {Q : Value → Shared → Prop} {t : Tok} {tk' : Nat} {x : PySem.Str} (hret : ∀ (p : List Nat) (t : Tok) (h' : Heap) (tk' : Nat), Oct p → p.length ≤ 100 → Fr h₀ L h' m → News h₀ L h' news → Q (.str (stx p) t) { s with heap := h', toks := tk' })
    (e : ∃ p, x = stx p ∧ Oct p ∧ p.length ≤ 100) (F : Fr h₀ L h' m) (N : News h₀ L h' news) : Q (.str x t) { s with heap := h', toks := tk' } := by
  obtain ⟨p, rfl, ho, hl⟩ := e
  exact hret p t h' tk' ho hl F N
abbrev SaysP (w : World) : Prop :=
  ∀ (mean : ExcName → Option Value) (mg mb : PySem.Str → Option Value) (dp un : Nat) (gd : Option (List Code)) (cn : PySem.Str) (cs : Scope) (a : Addr) (ccd : Value) (cl : List (PySem.Str × Addr)) (outer : List Env) (A₀ : Around) (base h₀ : Heap) (L : Addr) (m : PySem.Str → Option Value) (news : List (Addr × Obj)) (s : Shared) (Q E : Value → Shared → Prop)
    (D : Addr) (vs : List Value) (ns : List Int) (nD : Nat) (sl : Int) (ts : Tok),
    (D, ({ cls := .type "list", data := .seq vs.toArray nD } : Obj)) ∈ news → IntsAre vs ns → ns.length ≤ 6 → 0 ≤ sl → sl < 5 →
    Below A₀ base outer h₀ → Fr h₀ L s.heap m → (Mine.hd.heap_39 w.params).In h₀ → News h₀ L s.heap news → Tp mean mg mb h₀ → cs.kind = .function → dp + 1 < recursionLimit → un + 8 * 1 < cLine →
    (∀ (p : List Nat) (t : Tok) (h' : Heap) (tk' : Nat), Oct p → p.length ≤ 100 → Fr h₀ L h' m → News h₀ L h' news → Q (.str (stx p) t) { s with heap := h', toks := tk' }) →
    wpAny (model PySem.Challenge.rw_ab6013_01.row.prog w) (ktrTop dp un gd cn cs L a ccd cl outer) (call (.ref 186) [.ref D, .int sl ts]) Q E s
theorem says_path (w : World) : SaysP w := by
  unfold SaysP
  k_with_none
  w_top off
  k_fill
  intro mean mg mb dp un gd cn cs a ccd cl outer A₀ base h₀ L m news s Q E D vs ns nD sl ts hm iL hns h0 h5 B F X N T hk hd hu hret
  refine wpAny_call ?_
  k_dflt cell_enter
  (rename Fr _ _ _ _ => F1'); (replace F1' := frame2 F1' (by with_unfolding_all rfl)); (try dsimp only at F1')
  k_with "exec For Name Name cons nil" => ((rename Fr _ _ _ _ => lF'); (with_unfolding_all refine' For_invVF lF' ?k1 ?k2 ?_; (case k1 => exact rfl); (case k2 => exact rfl); k_whole))
  k_with "pyIter ref" => k_dflt (
    (rename Fr _ _ _ _ => hF)
    (rename News _ _ _ _ => hN)
    (with_unfolding_all refine PJ.iter hN hF (by rfl) hm iL ?g4 ?g5)
    (case' g4 => (
      intro I it nn ys ps h tk n t hlt hys hps hI9 hne F₁ N₁
      have hyl8 : (strValues ys).length ≤ 300 := ylen hys (by omega)))
    (case' g5 => (intro nn ys ps u h tk hlt hys hps F₁ N₁)))
  k_with "UnrEnd" => (first
    | exact PJ.made _ (by with_reducible assumption) (by with_reducible assumption) (List.push_toArray _ _) hne (fun z hz => if_neg hz) hys hps (pcs_at (by first | assumption | omega) rfl)
    | exact PJ.made _ (by with_reducible assumption) (by with_reducible assumption) (List.push_toArray _ _) hne (fun z hz => if_neg hz) hys hps (drawn_at rfl))
  k_with "call builtin:str.join" => k_dflt (
    refine join_s (ns := ps) (by k_asm) (by k_mem) rfl rfl hys (fun p hp => by have := (hps p hp).2; omega) (by omega) ?_
    intro yj tj kj hyj
    have hyj' : yj.length ≤ 90 := jlen hyj hps (by omega))
  k_steps
  all_goals first
    | exact path_ret (Q := Q) hret (path_fin h0 h5 hyj hps (by omega)) (by k_asm) (by first | with_reducible assumption | (refine' cb_drop ?cbN ?cbS; (case cbN => with_reducible assumption); (case cbS => kcj_all)))
end Mine
end

section
open PySem PySem.W PyProof.Rows PySem.Spec PySem.Calls
namespace Mine
set_option maxRecDepth 100000
def NumsP (h₀ : Heap) (L : Addr) (m : PySem.Str → Option Value) (news : List (Addr × Obj)) (s : Shared) (v : Value) (s' : Shared) : Prop :=
  ∃ (D : Addr) (vs : List Value) (ns : List Int) (nD : Nat) (h' : Heap) (tk : Nat), v = .ref D ∧ IntsAre vs ns ∧ ns.length ≤ 12 ∧ Fr h₀ L h' m ∧ News h₀ L h' ((D, W.listOf vs.toArray nD) :: news) ∧ (∀ p ∈ news, p.1 < D) ∧ s' = { s with heap := h', toks := tk }
theorem nums_join {M : Model} {A : Around} {E : Value → Shared → Prop} {s : Shared} {t : Sem Value} {Q : Value → Shared → Prop} {h₀ : Heap} {L : Addr} {m : PySem.Str → Option Value} {news : List (Addr × Obj)}
    (_F : Fr h₀ L s.heap m) (_N : News h₀ L s.heap news) (h1 : wpAny M A t (NumsP h₀ L m news s) E s)
    (h2 : ∀ D vs ns nD h' tk, IntsAre vs ns → ns.length ≤ 12 → Fr h₀ L h' m → News h₀ L h' ((D, W.listOf vs.toArray nD) :: news) → (∀ p ∈ news, p.1 < D) → Q (.ref D) { s with heap := h', toks := tk }) : wpAny M A t Q E s :=
  wpAny_mono h1 (fun v s' ⟨D, vs, ns, nD, h', tk, e, i, l, F, N, o, e'⟩ => by subst e e'; exact h2 D vs ns nD h' tk i l F N o) fun _ _ e => e
theorem NumsP.intro {h₀ h' : Heap} {L D : Addr} {m : PySem.Str → Option Value} {news : List (Addr × Obj)} {s : Shared} {vs : List Value} {ns : List Int} {nD tk : Nat} (N : News h₀ L h' ((D, W.listOf vs.toArray nD) :: news)) (F : Fr h₀ L h' m) (i : IntsAre vs ns) (l : ns.length ≤ 12) (o : ∀ p ∈ news, p.1 < D) :
    NumsP h₀ L m news s (.ref D) { s with heap := h', toks := tk } := ⟨D, vs, ns, nD, h', tk, rfl, i, l, F, N, o, rfl⟩
theorem SaysP.use {w : World} {mean : ExcName → Option Value} {mg mb : PySem.Str → Option Value} {dp un : Nat} {gd : Option (List Code)} {cn : PySem.Str} {cs : Scope} {a : Addr} {ccd : Value} {cl : List (PySem.Str × Addr)} {outer : List Env} {A₀ : Around} {base h₀ : Heap} {L : Addr} {m : PySem.Str → Option Value} {news : List (Addr × Obj)} {s : Shared} {Q E : Value → Shared → Prop}
    {D : Addr} {o : Obj} {vs : List Value} {ns : List Int} {nD : Nat} {sl : Int} {ts : Tok}
    (B : Below A₀ base outer h₀) (F : Fr h₀ L s.heap m) (X : (Mine.hd.heap_39 w.params).In h₀) (N : News h₀ L s.heap news) (T : Tp mean mg mb h₀) (hk : cs.kind = .function) (hd : dp + 1 < recursionLimit) (hu : un + 8 * 1 < cLine)
    (hm : (D, o) ∈ news) (ho : o = { cls := .type "list", data := .seq vs.toArray nD }) (hi : IntsAre vs ns) (hl : ns.length ≤ 6) (h0 : 0 ≤ sl) (h5 : sl < 5)
    (ret : ∀ (p : List Nat) (t : Tok) (h' : Heap) (tk' : Nat), Oct p → p.length ≤ 100 → Fr h₀ L h' m → News h₀ L h' news → Q (.str (stx p) t) { s with heap := h', toks := tk' }) :
    wpAny (model PySem.Challenge.rw_ab6013_01.row.prog w) (ktrTop dp un gd cn cs L a ccd cl outer) (call (.ref 186) [.ref D, .int sl ts]) Q E s := by
  subst ho
  exact says_path w mean mg mb dp un gd cn cs a ccd cl outer A₀ base h₀ L m news s Q E D vs ns nD sl ts hm hi hl h0 h5 B F X N T hk hd hu ret

theorem pick_half {ns : List Int} {a : Int} (h0 : 0 ≤ a) (h : ns.length ≤ 12) : (pickNums ns (some a) none (some 2)).length ≤ 6 := by
  unfold pickNums
  refine Nat.le_trans (List.length_filterMap_le _ _) ?_
  unfold sliceRange sliceBounds
  simp only [List.length_map, List.length_range, Option.getD_some]
  have e1 : (2 : Int) > 0 := by decide
  have e2 : ¬ a < 0 := by omega
  simp only [if_pos e1, if_neg e2]
  split
  · have h1 : (0 : Int) ≤ max 0 (min a (ns.length : Int)) := by omega
    generalize max 0 (min a (ns.length : Int)) = q at h1 ⊢
    omega
  · decide
section
variable {prog : Program} {w : World} {A : Around} {E : Value → Shared → Prop} {s : Shared} {h₀ : Heap} {L : Addr} {m : PySem.Str → Option Value} {news : List (Addr × Obj)}
theorem half_slice {value slice : PySem.Expr} {l : Addr} {o : Obj} {n : Nat} {vs : List Value} {ns : List Int} {vl vk : Value} {a : Int} {ops : List Value} {Q : Value → Shared → Prop}
    (F : Fr h₀ L s.heap m) (N : News h₀ L s.heap news) (hm : (l, o) ∈ news) (ho : o = W.listOf vs.toArray n) (hi : IntsAre vs ns) (h12 : ns.length ≤ 12) (pl : IsPart vl (some a)) (pk : IsPart vk (some 2)) (h0 : 0 ≤ a)
    (h : ∀ D us ms h', IntsAre us ms → ms.length ≤ 6 → Fr h₀ L h' m → News h₀ L h' ((D, W.listOf us.toArray 0) :: news) → (∀ p ∈ news, p.1 < D) → Q (.ref D) { s with heap := h' })
    (hs : subscripted slice false (.ref l) (.ref s.heap.objs.size) = operate ops (getItem (.ref l) (.ref s.heap.objs.size)) := by with_unfolding_all rfl)
    (ht : ∀ r, letTemporaryGo value (.ref l) r = pure () := by intro _; with_unfolding_all rfl) :
    wpAny (model prog w) A (subscriptTail value slice (.ref l) (.ref s.heap.objs.size)) Q E { s with heap := s.heap.push { cls := .type "slice", data := .fields #[vl, .none, vk] } } := by
  subst ho
  have hl : s.heap.IsList l vs.toArray := ⟨_, (N _ hm).1, rfl, n, rfl⟩
  refine slice_list3 F N hl pl .none pk (by decide) (fun h' F' N' => ?_) hs ht ?_
  · refine h _ (slicePick vs.toArray (some a) none (some 2)).toList _ h' (hi.pick (some a) none (some 2)) (pick_half h0 h12) F' ?_ fun p hp => Nat.lt_succ_of_lt (Heap.lt_size (N p hp).1)
    rw [Array.toArray_toList]; exact N'
  · rw [sizeLine_eq]; have := hi.length; simp; omega
end
theorem lt3 {a b c d : Nat} {x y z : Obj} (h : a < d ∧ b < d ∧ c < d) : ∀ p ∈ ([(a, x), (b, y), (c, z)] : List (Addr × Obj)), p.1 < d := by
  intro p hp
  simp only [List.mem_cons, List.not_mem_nil, or_false] at hp
  rcases hp with rfl | rfl | rfl
  · exact h.1
  · exact h.2.1
  · exact h.2.2

section
variable {prog : Program} {w : World} {A : Around} {E : Value → Shared → Prop} {s : Shared} {h₀ : Heap} {L : Addr} {m : PySem.Str → Option Value} {news : List (Addr × Obj)}
theorem typed_list {Q : Value → Shared → Prop} (X : (Mine.hd.heap_39 w.params).In h₀) (F : Fr h₀ L s.heap m) (N : News h₀ L s.heap news)
    (h : ∀ D c h' t1 t2 t3, Fr h₀ L h' m → News h₀ L h' ((D, W.listOf ([txt [97, 46, 98] t1, txt [97, 46, 98, 47] t2, txt [47] t3] : List Value).toArray c) :: news) → (∀ q ∈ news, q.1 < D) → Q (.ref D) { s with heap := h' }) :
    wpAny (model prog w) A (call (.type "list") [.ref 148]) Q E s := by
  obtain ⟨t1, t2, t3, ht⟩ := typed_tup X
  exact list_copyKT F N (IsTup.keeps ht F.keep) (fun D c h' F' N' o => h D c h' t1 t2 t3 F' N' o) (by rw [sizeLine_eq]; exact Nat.le_of_ble_eq_true rfl)
theorem five_list {Q : Value → Shared → Prop} {a b : Addr} {oa ob : Obj} {na nb : Nat} {x1 x2 y1 y2 y3 : Value} (F : Fr h₀ L s.heap m) (N : News h₀ L s.heap news) (ha : (a, oa) ∈ news) (hb : (b, ob) ∈ news) (da : oa = W.listOf #[x1, x2] na) (db : ob = W.listOf ([y1, y2, y3] : List Value).toArray nb)
    (h : ∀ D h', Fr h₀ L h' m → News h₀ L h' ((D, W.listOf ([x1, x2, y1, y2, y3] : List Value).toArray 0) :: news) → (∀ p ∈ news, p.1 < D) → Q (.ref D) { s with heap := h' }) :
    wpAny (model prog w) A (binaryOp .Add (.ref a) (.ref b)) Q E s := by
  subst da db
  exact kmk_add_lit F N ⟨_, (N _ ha).1, rfl, na, rfl⟩ ⟨_, (N _ hb).1, rfl, nb, rfl⟩ (zs := [x1, x2, y1, y2, y3]) rfl h (by rw [sizeLine_eq]; exact Nat.le_of_ble_eq_true rfl)
theorem five_bears {p q : List Nat} {t1 t2 t3 t4 t5 : Tok} : Bears txt (fun j => ([p, q, [97, 46, 98], [97, 46, 98, 47], [47]] : List (List Nat)).getD j []) 5 [txt p t1, txt q t2, txt [97, 46, 98] t3, txt [97, 46, 98, 47] t4, txt [47] t5] :=
  ⟨rfl, fun j hj => match j, hj with
    | 0, _ => ⟨_, rfl⟩
    | 1, _ => ⟨_, rfl⟩
    | 2, _ => ⟨_, rfl⟩
    | 3, _ => ⟨_, rfl⟩
    | 4, _ => ⟨_, rfl⟩
    | n + 5, h => absurd h (by omega)⟩
theorem five_ok {p q : List Nat} (hp : Oct p) (lp : p.length ≤ 100) (hq : Oct q) (lq : q.length ≤ 100) : ∀ x ∈ ([p, q, [97, 46, 98], [97, 46, 98, 47], [47]] : List (List Nat)), Oct x ∧ x.length ≤ 100 := by
  intro x hx
  simp only [List.mem_cons, List.not_mem_nil, or_false] at hx
  rcases hx with rfl | rfl | rfl | rfl | rfl
  · exact ⟨hp, lp⟩
  · exact ⟨hq, lq⟩
  · exact ⟨by unfold Oct; decide, by decide⟩
  · exact ⟨by unfold Oct; decide, by decide⟩
  · exact ⟨by unfold Oct; decide, by decide⟩
end
end Mine
end

section
open PySem PySem.W PyProof.Rows PySem.Spec PySem.Calls
namespace Mine
local macro_rules | `(tactic| walk_at "UnrEnd") => `(tactic| k_dflt (k_extra "UnrEnd"))
local macro_rules | `(tactic| walk_at "compareOp NotEq ref ref") => `(tactic| k_dflt (k_extra "compareOp NotEq ref ref"))
local macro_rules | `(tactic| walk_at "compareOp NotEq") => `(tactic| k_dflt (k_extra "compareOp NotEq"))
local macro_rules | `(tactic| walk_at "CompSrc") => `(tactic| k_dflt (k_extra "CompSrc"))
local macro_rules | `(tactic| walk_at "CompEnd") => `(tactic| k_dflt (k_extra "CompEnd"))
local macro_rules | `(tactic| walk_at "eval ListComp") => `(tactic| k_dflt (k_extra "eval ListComp"))
local macro_rules | `(tactic| walk_at "pyIter ref") => `(tactic| k_dflt (k_extra "pyIter ref"))
local macro_rules | `(tactic| walk_at "call ref") => `(tactic| k_dflt (k_extra "call ref"))
local macro_rules | `(tactic| walk_at "newList") => `(tactic| k_dflt (k_extra "newList"))
local macro_rules | `(tactic| walk_at "subscriptTail Name Name ref int") => `(tactic| k_dflt (k_extra "subscriptTail Name Name ref int"))
local macro_rules | `(tactic| walk_at "subscriptTail Subscript Name Name Name ref int") => `(tactic| k_dflt (k_extra "subscriptTail Subscript Name Name Name ref int"))
local macro_rules | `(tactic| walk_at "subscriptTail") => `(tactic| k_dflt (k_extra "subscriptTail"))
local macro_rules | `(tactic| walk_at "call type:list") => `(tactic| k_dflt (k_extra "call type:list"))
local macro_rules | `(tactic| walk_at "binaryOp Add ref ref") => `(tactic| k_dflt (k_extra "binaryOp Add ref ref"))
local macro_rules | `(tactic| walk_at "assign Tuple") => `(tactic| k_dflt (k_extra "assign Tuple"))
local macro_rules | `(tactic| walk_at "NumsP") => `(tactic| k_dflt (k_extra "NumsP"))
local macro_rules | `(tactic| walk_at "eval IfExp") => `(tactic| k_dflt (k_extra "eval IfExp"))
local macro_rules | `(tactic| walk_at "exec For Name Call cons nil") => `(tactic| k_dflt (k_extra "exec For Name Call cons nil"))
local macro_rules | `(tactic| walk_at "exec For Tuple Name cons nil") => `(tactic| k_dflt (k_extra "exec For Tuple Name cons nil"))
local macro_rules | `(tactic| walk_at "exec For Name BinOp cons nil") => `(tactic| k_dflt (k_extra "exec For Name BinOp cons nil"))
local macro_rules | `(tactic| walk_at "subscriptTail Name Slice ref ref") => `(tactic| k_dflt (k_extra "subscriptTail Name Slice ref ref"))
local macro_rules | `(tactic| walk_at "call builtin:len") => `(tactic| k_dflt (k_extra "call builtin:len"))
local macro_rules | `(tactic| walk_at "call builtin:list.append") => `(tactic| k_dflt (k_extra "call builtin:list.append"))
local macro_rules | `(tactic| k_all) => `(tactic| (refine off_use (by assumption) ?_; omega))
local macro_rules | `(tactic| k_all) => `(tactic| assumption)
set_option maxRecDepth 100000
set_option maxHeartbeats 4000000
theorem w5 : PySem.Challenge.rw_ab6013_01.Holds := by
  k_with_none
  w_top off
  refine hd ?_
  k_go0
  all_goals try k_fold
  (rename Fr _ _ _ _ => F1')
  k_with "pyIter ref" => (first
    | k_dflt (
      (with_reducible show wpAny _ _ (pyIter (Value.ref _)) (fun it s₂ => LoopAtV _ _ _ _ _ _ _ _ _ it s₂) _ _)
      (rename World => wld)
      (rename Obj.data _ = Data.cell (some (Value.bool _)) => hoct)
      (obtain ⟨oc, kv, hoc, hkv⟩ := oct_kv wld hoct)
      (clear hoct)
      (rename News _ _ _ _ => hN)
      (rename Fr _ _ _ _ => hF)
      (with_unfolding_all refine OJ.iter (D5 := (_, _)) [p9a, p9b, [97, 46, 98], [97, 46, 98, 47], [47]] (by rfl) hF hN (.tail _ (.tail _ (.head _))) (.tail _ (.tail _ (.tail _ (.tail _ (.tail _ (.tail _ (.tail _ (.head _)))))))) (.tail _ (.tail _ (.tail _ (.tail _ (.tail _ (.tail _ (.tail _ (.tail _ (.head _))))))))) (.tail _ (.tail _ (.tail _ (.tail _ (.tail _ (.tail _ (.tail _ (.tail _ (.tail _ (.head _)))))))))) (.head _) rfl rfl (by refine ltN ?_; omega) (by rfl) five_bears (five_ok hp9a hl9a hp9b hl9b) ?go4 ?go5)
      (case' go4 => (
        intro p tp I it rv nn olds u h tk hop hlp hrv hne hof F₁ N₁
        have hRI : @Ne Nat I _ := fun e => hne _ (.head _) e.symm
        have hofR : ∀ q ∈ olds, q.1 ≠ _ := fun q hq => Nat.ne_of_gt (hof q hq)
        have hrl : (refs rv).length ≤ 5 := by (rw [List.length_map]; exact hrv)))
      (case' go5 => (
        intro rv nn olds u h tk hrv hof hrows F₁ N₁
        have hr3 := rows3_of hrv hrows)))
    | k_dflt (
      (with_reducible show wpAny _ _ (pyIter (Value.ref _)) (fun it s₂ => TurnsAt _ _ _ _ _ (PySem.Expr.Tuple _ _ _) _ _ _ it s₂) _ _)
      (rename News _ _ _ _ => hN)
      (rename Fr _ _ _ _ => hF)
      (with_unfolding_all refine STJ.iter kv p (PySem.Str.ofString "k") (PySem.Str.ofString "parent") (by k_asm) (by rfl) hF hN (Bears.one rfl) (Bears.one rfl) ?gs4 ?gs5)
      (case' gs4 => (
        intro i a ka kb ta tb I2 it2 us ts nu nt u h tk hi hkb htu htw hus hts hne2 F₁ N₁
        obtain ⟨tu, eu0⟩ := hus.2 kb (by omega)
        obtain ⟨tt, et0⟩ := hts.2 kb (by omega)
        have eu : us[((kb : Nat) : Int).toNat]? = some (.str (stx (wd p kb)) tu) := by (rw [Int.toNat_natCast]; exact eu0)
        have et : ts[((kb : Nat) : Int).toNat]? = some (kv (wd p kb) tt) := by (rw [Int.toNat_natCast]; exact et0)
        have hul : us.length ≤ 15 := by (have := hus.1; omega)
        have htl : ts.length ≤ 15 := by (have := hts.1; omega)
        have hTI : @Ne Nat I2 _ := fun e => hne2 _ (.head _) e.symm
        have hUI : @Ne Nat I2 _ := fun e => hne2 _ (.tail _ (.head _)) e.symm))
      (case' gs5 => (
        intro us ts nu nt u h tk hus15 hts15 F₁ N₁)))
    | k_dflt (
      (with_reducible show wpAny _ _ (pyIter (Value.ref _)) (fun it s₂ => TurnsAt _ _ _ _ _ (PySem.Expr.Name (PySem.Str.ofString "w") _) _ _ _ it s₂) _ _)
      (rename IsRange _ _ _ _ _ _ _ _ => hR)
      (rename News _ _ _ _ => hN)
      (rename Fr _ _ _ _ => hF)
      (with_unfolding_all refine KR.iter (n := 15) (PySem.Str.ofString "w") (PySem.Str.ofString "k") (by rfl) hR (by decide) (by decide) hF hN ?gw4 ?gw5)
      (case' gw4 => (
        intro wi wk I3 it3 u tw h tk hwi hwk hne3 F₁ N₁
        obtain ⟨an, vn4, en0, htn, hln, hkn⟩ := next_row (by k_asm) wi hwi
        obtain ⟨tww, ew0⟩ := hts15.2 wi hwi
        have hwn : wk.toNat = wi := by omega
        have hw0 : 0 ≤ wk := by omega
        have hw1 : wk < 2 ^ 63 := by omega
        have ew : ts[wk.toNat]? = some (kv (wd p wi) tww) := by (rw [hwn]; exact ew0)
        have en : nextVals[wk.toNat]? = some (.ref an) := by (rw [hwn]; exact en0)))
      (case' gw5 => intro u h tk F₁ N₁))
    | k_dflt (
      (with_reducible show wpAny _ _ (pyIter (Value.ref _)) (fun it s₂ => TurnsAt _ _ _ _ _ (PySem.Expr.Name (PySem.Str.ofString "k") _) _ _ _ it s₂) _ _)
      (rename IsRange _ _ _ _ _ _ _ _ => hR)
      (rename News _ _ _ _ => hN)
      (rename Fr _ _ _ _ => hF)
      (with_unfolding_all refine KR.iter (n := 4) (PySem.Str.ofString "k") (PySem.Str.ofString "k") (by rfl) hR (by decide) (by decide) hF hN ?gk4 ?gk5)
      (case' gk4 => (
        intro ki kk I4 it4 u tkk h tk hki hkk hne4 F₁ N₁
        obtain ⟨tnk, enk0⟩ := hkn ki hki
        obtain ⟨t3, e3⟩ := hts15.2 _ (nexts_lt wi hwi ki hki)
        have hkn' : kk.toNat = ki := by omega
        have hk0 : 0 ≤ kk := by omega
        have hk1 : kk < 2 ^ 63 := by omega
        have hprod : twinI kk (wd p wi) = wd p ((nexts.getD wi []).getD ki 0) := by (have e9 : kk = (ki : Int) := by omega); rw [e9]; exact wd_next p hwi hki
        have hlt15 := nexts_lt wi hwi ki hki
        generalize hnx : (nexts.getD wi []).getD ki 0 = nx at enk0 e3 hprod hlt15
        have enk : vn4[kk.toNat]? = some (.int ((nx : Nat) : Int) tnk) := by (rw [hkn']; exact enk0)
        have e3' : ts[((nx : Nat) : Int).toNat]? = some (kv (wd p nx) t3) := by (rw [Int.toNat_natCast]; exact e3)))
      (case' gk5 => intro u h tk F₁ N₁))
    | k_dflt (
      (with_reducible show wpAny _ _ (pyIter (Value.ref _)) (fun it s₂ => TurnsAt _ _ _ _ _ (PySem.Expr.Name (PySem.Str.ofString "a") _) _ _ _ it s₂) _ _)
      (rename IsRange _ _ _ _ _ _ _ _ => hR)
      (rename News _ _ _ _ => hN)
      (rename Fr _ _ _ _ => hF)
      (with_unfolding_all refine FJ.iter (n := 15) (fun _ => True) tri (by rfl) hR (by decide) (by decide) rfl hF hN (by assumption) (by assumption) trivial (by rfl) (by rfl) ?ga4 ?ga5)
      (case' ga4 => (
        intro ai ak Ia ita oa2 oa3 va2 va3 tpa ua ta h tk hai hak hda2 hda3 hPa hnea F₁ N₁
        have hIa3 : @Ne Nat _ Ia := hnea _ (.head _)
        have hIa2 : @Ne Nat _ Ia := hnea _ (.tail _ (.head _))))
      (case' ga5 => (
        intro oz2 oz3 vz2 vz3 tpz uz h tk hdz2 hdz3 hPz F₁ N₁
        rw [tri15'] at F₁)))
    | k_dflt (
      (with_reducible show wpAny _ _ (pyIter (Value.ref _)) (fun it s₂ => TurnsAt _ _ _ _ _ (PySem.Expr.Name (PySem.Str.ofString "b") _) _ _ _ it s₂) _ _)
      (rename IsRange _ _ _ _ _ _ _ _ => hR)
      (rename News _ _ _ _ => hN)
      (rename Fr _ _ _ _ => hF)
      (with_unfolding_all refine FJ.iter (n := ai) (fun v => v = some (Value.int ak ta)) (triJ ai) (by rfl) hR (by omega) (by omega) hak hF (News.rot hN) (by assumption) (by assumption) rfl (by rfl) (by rfl) ?gb4 ?gb5)
      (case' gb4 => (
        intro bi bk Ib itb ob2 ob3 vb2 vb3 tpb ub tb h tk hbi hbk hdb2 hdb3 hPb hneb F₁ N₁
        subst hPb
        have hIb3 : @Ne Nat _ Ib := hneb _ (.head _)
        have hIb2 : @Ne Nat _ Ib := hneb _ (.tail _ (.head _))))
      (case' gb5 => intro oy2 oy3 vy2 vy3 tpy uy h tk hdy2 hdy3 hPy F₁ N₁)))
  k_with "call ref" => k_dflt (first
    | ((refine' SaysP.use ?k1 ?k2 ?k3 ?k4 ?k5 ?kK ?kd ?ku ?km ?ko ?ki ?kl ?k0 ?k55 ?_)
       (case k1 => k_asm); (case k2 => k_asm); (case k3 => k_asm); (case k4 => k_asm); (case k5 => k_asm); (case kK => first | exact rfl | assumption); (case kd => ktr_room); (case ku => ktr_units)
       (case km => k_mem); (case ko => exact rfl); (case ki => assumption); (case kl => assumption)
       (case k0 => exact Int.fmod_nonneg_of_pos _ (by decide)); (case k55 => exact Int.fmod_lt_of_pos _ (by decide))
       k_whole
       (first | (have hq9 := hp9a; clear hq9; intro p9b t9b h9b tk9b hp9b hl9b F9b N9b) | (intro p9a t9a h9a tk9a hp9a hl9a F9a N9a))
       (try dsimp only)
       (try k_fold))
    | ((refine' Says.use ?kC ?k1 ?k2 ?k3 ?k4 ?k5 ?kK ?kd ?ku ?_)
       (case kC => first
         | exact says_twin _ _ _ _ _ (wd_ok hlp hop _).1
         | exact hkv.deed _ _ _ _ (wd_ok hlp hop _).1 (wd_ok hlp hop _).2
         | exact hkv.kind _ _ (wd_ok hlp hop _).1 (wd_ok hlp hop _).2
         | exact hkv.kind _ _ (Nat.le_trans hlp (by decide)) hop)
       (case k1 => k_asm); (case k2 => k_asm); (case k3 => k_asm); (case k4 => k_asm); (case k5 => k_asm); (case kK => first | exact rfl | assumption); (case kd => ktr_room); (case ku => ktr_units)
       k_whole
       intro t9 h9 tk9 F9 N9
       (try dsimp only)
       (try k_fold)))
  k_with "exec For Name BinOp cons nil" => ((rename Fr _ _ _ _ => lF'); (with_unfolding_all refine' For_invVF lF' ?k1 ?k2 ?_; (case k1 => exact rfl); (case k2 => exact rfl); k_whole))
  k_with "exec For Name Call cons nil" => ((rename Fr _ _ _ _ => lF'); (with_unfolding_all refine' For_turns lF' ?_; k_whole))
  k_with "exec For Tuple Name cons nil" => ((rename Fr _ _ _ _ => lF'); (with_unfolding_all refine' For_turns lF' ?_; k_whole))
  k_with "assign Tuple" => k_dflt ((refine' unpackN_ ?F ?N ?t ?k1 ?k2 ?k3 ?_; (case F => k_asm); (case N => k_asm); (case t => exact IsTup.keeps htu (Fr.keep (by k_asm))); (case k1 => exact rfl); (case k2 => exact rfl); (case k3 => exact rfl)); intro hA FA NA; (try k_sweep))
  k_with "newList" => k_dflt (
    (have ho9 := hof; clear ho9)
    (refine' newList_K ?k1 ?k2 ?_; (case k1 => k_asm); (case k2 => k_asm); k_whole)
    intro lN hNN FN NN llN
    (have hofN : ∀ q ∈ olds, q.1 ≠ lN := fun q hq => Nat.ne_of_lt (llN q (by (repeat (first | exact hq | refine List.Mem.tail _ ?_)))))
    (try k_lt llN); (try k_sweep))
  k_with "call builtin:len" => k_dflt (
    (have ho9 := hof; clear ho9)
    (refine len_rows (rv := rv) (by k_asm) (by k_mem) rfl (by (rw [List.length_map] at hrl; exact hrl)) ?_)
    intro tl kl)
  k_with "eval ListComp" => k_dflt (refine LCg.ListComp_U (F₀ := by k_asm) (by with_unfolding_all rfl) (by decide) (by rfl) (by decide) (by rfl) ?_)
  k_with "CompSrc" => k_dflt (first
    | ((with_reducible show LCg.CompSrc _ _ _ _ _ _ _ (PySem.Expr.Subscript _ (PySem.Expr.Name (PySem.Str.ofString "a") _) _) _ _ _ _ _ _)
       (refine comp_rows ai (by rfl) (by k_asm) (by k_asm) (by k_mem) rfl rfl (Rows3.mono hr3 (fun q hq => by (repeat (first | exact hq | refine List.Mem.tail _ ?_)))) ?c4a ?c5a)
       (case' c4a => (
         intro ci rr us7 no7 I5 oI5 C5 oC5 D6 m6 ys6 h6 tk6 E6 hmm hbb hC6 hx6 F₁ N₁ off6 ne6
         obtain ⟨te, ee0⟩ := hbb.2 ai (by omega)
         have eea : us7[Int.toNat ak]? = some (.str (stx (wd (typed.getD ci []) ai)) te) := by (rw [show Int.toNat ak = ai by omega]; exact ee0)))
       (case' c5a => intro ysA DA hA tkA hysA F₁ N₁ neA))
    | ((with_reducible show LCg.CompSrc _ _ _ _ _ _ _ (PySem.Expr.Subscript _ (PySem.Expr.Name (PySem.Str.ofString "b") _) _) _ _ _ _ _ _)
       (refine comp_rows bi (by rfl) (by k_asm) (by k_asm) (by k_mem) rfl rfl (Rows3.mono hr3 (fun q hq => by (repeat (first | exact hq | refine List.Mem.tail _ ?_)))) ?c4b ?c5b)
       (case' c4b => (
         intro ci rr us7 no7 I5 oI5 C5 oC5 D6 m6 ys6 h6 tk6 E6 hmm hbb hC6 hx6 F₁ N₁ off6 ne6
         obtain ⟨te, ee0⟩ := hbb.2 bi (by omega)
         have eeb : us7[Int.toNat bk]? = some (.str (stx (wd (typed.getD ci []) bi)) te) := by (rw [show Int.toNat bk = bi by omega]; exact ee0)))
       (case' c5b => intro ysB DB hB tkB hysB F₁ N₁ neB))
    | (refine comp_words kv (wd p) (by rfl) (by k_asm) (by k_asm) (by k_mem) rfl rfl hus15 (by decide) ?c4 ?c5
       (case' c4 => intro ci ct I5 oI5 C5 oC5 D6 m6 ys6 h6 tk6 E6 hci hC6 hx6 F₁ N₁ off6 ne6)
       (case' c5 => (
         intro ys7 D7 h7 tk7 hys7 F₁ N₁ ne7
         have hRD7 : @Ne Nat _ D7 := ne7 _ (.tail _ (.tail _ (.tail _ (.head _))))))))
  k_with "compareOp NotEq ref ref" => k_dflt (first
    | refine ne_rows hai hbi (by k_asm) (by k_mem) (by k_mem) rfl rfl rfl rfl hysA hysB (by ke_room) ?_
    | refine ne_same hkv (by k_asm) (by k_mem) (by k_mem) rfl rfl rfl rfl hts15 hys7 (by ke_room) ?_)
  k_with "compareOp NotEq" => k_dflt (first
    | refine hkv.ne' hprod ?_)
  k_with "subscriptTail Name Name ref int" => k_dflt (first
    | refine item_known (by k_asm) (by (repeat (first | exact hmm | refine List.Mem.tail _ ?_))) rfl rfl (by omega) (by omega) eea ?_
    | refine item_known (by k_asm) (by (repeat (first | exact hmm | refine List.Mem.tail _ ?_))) rfl rfl (by omega) (by omega) eeb ?_
    | refine item_known (by k_asm) (by k_mem) rfl rfl (by omega) (by omega) eu ?_
    | refine item_known (by k_asm) (by k_mem) rfl rfl (by omega) (by omega) et ?_
    | refine item_K (by k_asm) (next_tup (by k_asm)) hw0 hw1 en ?_
    | refine item_known (by k_asm) (by k_mem) rfl rfl hw0 hw1 ew ?_)
  k_with "subscriptTail Subscript Name Name Name ref int" => k_dflt (refine item_K (by k_asm) htn hk0 hk1 enk ?_)
  k_with "subscriptTail" => k_dflt ((with_reducible show wpAny _ _ (subscriptTail (PySem.Expr.Name _ _) (PySem.Expr.Subscript _ _ _) (Value.ref _) (Value.int _ _)) _ _ _); refine item_known (by k_asm) (by k_mem) rfl rfl (by omega) (by omega) e3' ?_)
  k_with "CompEnd" => k_dflt (exact ⟨_, _, _, rfl, by k_asm, by k_asm, by assumption, trivial, rfl, _, rfl⟩)
  k_with "UnrEnd" => k_dflt (first
    | exact STJ.made (by k_asm) (by k_asm) hne2 (List.push_toArray _ _) (List.push_toArray _ _) hus hts htw htw (fun z h1 h2 => by simp only [if_neg h1, if_neg h2])
    | exact KR.made (by k_asm) (by k_asm) (fun q hq => hq) hne4 (fun z h1 h2 => (if_neg h1).trans ((if_neg h1).trans (if_neg h1)))
    | exact KR.made (by k_asm) (by k_asm) (fun q hq => hq) hne3 (fun z h1 h2 => (if_neg h2).trans ((if_neg h2).trans ((if_neg h1).trans ((if_neg h1).trans (if_neg h2)))))
    | exact FJ.made (by k_asm) (by k_asm) (by k_mem) (by k_mem) (by k_mem) (fun q hq => by (repeat (first | exact hq | refine List.Mem.tail _ ?_))) hneb (by assumption) (by assumption) rfl (by rfl) (by rfl) (triJ_next _ _)
    | exact FJ.made (by k_asm) (by k_asm) (by k_mem) (by k_mem) (by k_mem) (fun q hq => by (repeat (first | exact hq | refine List.Mem.tail _ ?_))) hnea (by assumption) (by assumption) trivial (by rfl) (by rfl) rfl
    | exact OStep.made (by k_asm) (by k_asm) (by k_mem) (by k_mem) (by k_mem) (by k_mem) (by k_mem) (by k_mem) (fun q hq => by (repeat (first | exact hq | refine List.Mem.tail _ ?_))) (List.push_toArray _ _) (by refine ltN ?_; omega) (by refine neN ?_; omega) hne hus15 (by rfl))
  k_with "eval IfExp" => k_dflt ((with_reducible show wpAny _ _ _ (fun _ _ => wpAny _ _ _ _ _ _) _ _); refine nums_join (by k_asm) (by k_asm) ?_ ?g2; case' g2 => (intro Dn vn ns nDn hn tkn hins hns12 Fn Nn ln; (try k_lt ln)))
  k_with "subscriptTail Name Slice ref ref" => k_dflt (first
    | ((with_reducible show wpAny _ _ (subscriptTail _ (PySem.Expr.Slice _ _ (some _) _) (Value.ref _) (Value.ref _)) _ _ _); refine' half_slice ?F ?N ?m ?o ?i ?l ?pl ?pk ?p0 ?_ ?s ?t; (case F => k_asm); (case N => k_asm); (case m => k_mem); (case o => exact rfl); (case i => assumption); (case l => assumption); (case pl => exact IsPart.int _ _); (case pk => exact IsPart.int _ _); (case p0 => decide); (case s => with_unfolding_all rfl); (case t => (intro _; with_unfolding_all rfl)); k_whole; intro Dh ush msh hh hih hlh Fh Nh lh; (try k_lt lh); (try k_sweep))
    | (refine' rows_slice (rv := rv) ?F ?N ?m ?o ?l ?pl ?_ ?s ?t; (case F => k_asm); (case N => k_asm); (case m => k_mem); (case o => exact rfl); (case l => exact hrv); (case pl => exact IsPart.int _ _); (case s => with_unfolding_all rfl); (case t => (intro _; with_unfolding_all rfl)); k_whole; intro Ds hs Fs Ns ls; (try k_lt ls); (try k_sweep)))
  k_with "call type:list" => k_dflt ((with_reducible show wpAny _ _ (call (Value.type _) [Value.ref _]) _ _ _); refine' typed_list ?k1 ?k2 ?k3 ?_; (case k1 => k_asm); (case k2 => k_asm); (case k3 => k_asm); k_whole; intro Dt ct ht t1t t2t t3t Ft Nt lt; (try k_lt lt); (try k_sweep))
  k_with "binaryOp Add ref ref" => k_dflt (refine' five_list ?k1 ?k2 ?k3 ?k4 ?k5 ?k6 ?_; (case k1 => k_asm); (case k2 => k_asm); (case k3 => k_mem); (case k4 => k_mem); (case k5 => exact rfl); (case k6 => exact rfl); k_whole; intro D5 h5' F5' N5' l5; (try k_lt l5); (try k_sweep))
  k_with "NumsP" => k_dflt (first
    | (refine' NumsP.intro ?n1 ?n2 ?n3 ?n4 ?n5; (case n1 => k_asm); (case n2 => k_asm); (case n3 => assumption); (case n4 => omega); (case n5 => exact lt3 (by assumption)))
    | (refine' NumsP.intro (vs := [_, _, _, _, _]) ?n1 ?n2 ?n3 ?n4 ?n5; (case n1 => k_asm); (case n2 => k_asm); (case n3 => l_ints); (case n4 => decide); (case n5 => exact lt3 (by assumption))))
  k_steps
end Mine
end

set_option maxRecDepth 100000 in
set_option maxHeartbeats 8000000 in
theorem PySem.Challenge.cw_ab6013_01_holds : PySem.Challenge.rw_ab6013_01.Holds := by
  exact Mine.w5
