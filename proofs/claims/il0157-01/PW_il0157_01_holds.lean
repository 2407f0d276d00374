import PyProof.Rows.All
import Wide.All
import OpenK.AllK
import Wide.FinOn
import PySem.Challenge.RW_il0157_01

section
open PySem PySem.W PyProof.Rows PySem.Calls
set_option Elab.async false
namespace Mine

/-- a look at the stack first: where the claim's caller stands on it the tree runs, else the answer is True at once -/
def under (t : Sem Fin) : Sem Fin := .stack fun st => if st.any (·.1.isCaller) then t else ret (.bool true)
def underV (t : Sem Value) : Sem Value := .stack fun st => if st.any (·.1.isCaller) then t else pure (.bool true)

theorem stub_step {c : ClaimW} {T : List Value → Sem Fin} {defs keeps : List Str} {writes : Bool}
    (H : c.HoldsOpenBy (fun vs => ⟨under (T vs), .builtin "claim.caller" {}, default, []⟩) defs keeps writes) :
    c.HoldsOpenBy (fun vs => ⟨T vs, .builtin "claim.caller" {}, default, []⟩) defs keeps writes := by
  obtain ⟨H1, H2, H3⟩ := H
  refine ⟨H1, H2, fun w => ⟨(H3 w).1, fun s hs => ?_⟩⟩
  obtain ⟨s₀, a, b, s₁, hT, d, e, f, g⟩ := (H3 w).2 s hs
  have hs' : AfterImport (opening c.prog) w s := hs
  have z0 : s₀.asleep := Shared.asleep_of_life (fence_lifeW a) hs'.life
  have z1 : s₁.asleep := Shared.asleep_of_life hT.2.1 z0
  refine ⟨s₀, a, b, s₁, hT, d, e, f, fun args h1 h2 ord h3 => ?_⟩
  obtain ⟨vs, s₂, l, n, o, s', r, rest⟩ := g args h1 h2 ord h3
  have z2 : s₂.asleep := Shared.asleep_of_life (layAllW_rest _ _ _ l).2.2.2 z1
  refine ⟨vs, s₂, l, ?_⟩
  cases n with
  | zero => cases r
  | succ n =>
    refine ⟨n, o, s', ?_, rest⟩
    have st : step (denote table) c.prog w s₂ ⟨under (T vs), .builtin "claim.caller" {}, default, []⟩ = .go s₂ ⟨T vs, .builtin "claim.caller" {}, default, []⟩ := by
      obtain ⟨hp, gs, dr, tk, os⟩ := s₂
      rfl
    have e1 : sstep (denote table) c.prog w (.single s₂ ⟨under (T vs), .builtin "claim.caller" {}, default, []⟩) = .go (.single s₂ ⟨T vs, .builtin "claim.caller" {}, default, []⟩) := by
      rcases sstep_single (denote table) c.prog w s₂ ⟨under (T vs), .builtin "claim.caller" {}, default, []⟩ rfl z2 with q | q
      · rw [q, st]; rfl
      · rw [st] at q; cases q
    simp only [schedN, e1] at r
    exact r

theorem PySem.W.holds_open {r : OpenRow} {q : Program} {loose : List Str} {Xt : Shared → Bool} {XP : (Str → Option Value) → Heap → Prop} {α : Type} {Yf : Shared → α} {Ya : World → α} {YP : World → Heap → Prop} {d : DefRec} {kwd : List (Str × Expr)} {N : Nat}
    (left : LeftO r.prog q loose Xt Yf Ya N) (hY : ∀ w s, Yf s = Ya w → YP w s.heap) (hYk : ∀ w h h', YP w h → (∀ b o, h.get? b = some o → h'.get? b = some o) → YP w h')
    (hX : ∀ s, Xt s = true → XP (s.heap.nsMap mainGlobals) s.heap) (hXk : ∀ mg h h', XP mg h → (∀ b o, h.get? b = some o → h'.get? b = some o) → XP mg h')
    (hdef : defOf q r.name = some (d, kwd)) (hp : r.prog.theDef r.name = some (d.params, d.body, d.scope)) (hk : kwWritten? d.params.kwonlyargs d.params.kw_defaults = some kwd) (hRf : ∀ s, Xt s = true → RecFacts r.records s.heap) (hwr : (!r.writes || r.records.isEmpty) = true)
    (k1 : r.wellSaid = true) (ok : (chainsOk q && opensWell r.prog && (frees r.toRowW && r.within.isEmpty)) = true) (hb : r.prog.bare) (hw : r.toRowW.promised)
    (call : WalkO q loose XP YP r.toRowW d kwd fun f vs => underV (PySem.call f vs)) : r.Holds := by
  refine ⟨k1, hw, stub_step (T := fun vs => do match ← nsGet mainNs r.name with
      | some f => do ret (← PySem.call f vs)
      | none => unsupported "claim.caller:no-such-global")
    (open_anyG (r := r.toRowW) (run := fun f vs => underV (PySem.call f vs)) left hY hYk hX hXk hRf hwr ok hb hw (fun vs w s mg f Q E hg hf h => ?_) (fun w s hg G n hn => ?_) fun w s₀ s₁ mg mb G Y args vs as hpre hlay L low => ?_)⟩
  · intro Γ p hΓ
    have h' := h Γ p hΓ
    simp only [under, underV, Sem.wp_stack] at h' ⊢
    split at h'
    · rename_i hc
      rw [if_pos hc]
      show Sem.wp _ Γ (nsGet mainGlobals r.name >>= _) _ _ p s
      rw [Sem.wp_bind', Sem.wp_nsGet _ Γ _ p s hg, hf]
      dsimp only
      rw [Sem.wp_bind']
      exact h'
    · rename_i hc
      rw [if_neg hc]
      exact h'
  · obtain rfl : n = r.name := by split at hn <;> simp_all
    exact pinned_of_view hg G hdef hp hk
  · obtain ⟨a, o, pm, cd, doc, dV, kV, h1, h2, h3, h4, h5⟩ := G.fn hdef
    exact ⟨.ref a, h1, call w s₀ s₁ mg mb G Y a o pm cd doc dV kV h2 h3 h4 h5 (defOf_name hdef ▸ h1) L.gens args vs as hpre hlay L.reads L.well (L.low low)⟩

/-- the law's text without the statements that the head leaves out -/
def viewQ : Program := { PySem.Challenge.pw_il0157_01 with main := { PySem.Challenge.pw_il0157_01.main with body := PySem.Challenge.pw_il0157_01.main.body.take 1 ++ (PySem.Challenge.pw_il0157_01.main.body.drop 2).take 2 ++ (PySem.Challenge.pw_il0157_01.main.body.drop 5).take 3 ++ PySem.Challenge.pw_il0157_01.main.body.drop 9 } }
local macro_rules | `(tactic| o_head $H) => do
  let hw := Lean.mkIdent `hw
  let hc := Lean.mkIdent `hc
  `(tactic| (refine PySem.W.holds_open (q := viewQ) (loose := [Str.ofString "_tuplegetter", Str.ofString "Pair"]) (Xt := fun s => xlAt viewQ [] s && recOk (RowW.records (OpenRow.toRowW PySem.Challenge.rw_il0157_01.row)) s) (XP := XL viewQ []) (Yf := Hook.obs $H) (Ya := Hook.val $H) (YP := Hook.says $H) (N := 4116) ?l (Hook.of $H) (Hook.keeps $H) (fun s e => xl_of s (Bool.and_eq_true_iff.mp e).1) XL.keeps (by rfl) (by rfl) (by rfl) (fun s e => recFacts_of (Bool.and_eq_true_iff.mp e).2) (by rfl) (by first | assumption | decide +kernel) (by decide +kernel) ⟨rfl, rfl, rfl, rfl, rfl, by decide +kernel⟩ ?$hw ?$hc; (case l => (intro w; unfold openEnds fencedOpening topFrom; rw [PySem.W.Fast.te10274390034422433532, PySem.W.Fast.te14082659384304107361, PySem.W.Fast.te14289696077712309145, PySem.W.Fast.te14364793385576792824, PySem.W.Fast.te4187177175401517315, PySem.W.Fast.te5923862056798008813]; kernel_rfl))))
set_option maxRecDepth 100000 in
set_option maxHeartbeats 8000000 in
open_top hd for PySem.Challenge.rw_il0157_01

end Mine
end


section
open PySem PySem.W PyProof.Rows
set_option Elab.async false
namespace Mine
/-- what a call of one of the text's own gives back, whatever frame calls it -/
def GivesR (r₀ : Nat) (prog : Program) (w : World) (f : Value) (vs : List Value) (Pre : List (Addr × Obj) → Prop) (Out : List (Addr × Obj) → Value → Prop) : Prop :=
  ∀ (p : Program) (loose : List Str) (mean : ExcName → Option Value) (mg mb : Str → Option Value)
    (dp un : Nat) (gd : Option (List Code)) (cn : Str) (cs : Scope) (a : Addr) (ccd : Value) (cl : List (Str × Addr)) (outer : List Env) (A₀ : Around) (base h₀ : Heap) (L : Addr) (m : Str → Option Value) (news : List (Addr × Obj)) (s : Shared) (Q E : Value → Shared → Prop),
    Below A₀ base outer h₀ → Fr h₀ L s.heap m → (hd.heap_39 w.params).In h₀ → News h₀ L s.heap news → Top p loose mean mg mb h₀ → cs.kind = .function → Pre news → dp + 10 * r₀ < recursionLimit → un + 80 * r₀ < cLine →
    (∀ (r : Value) (nw : List (Addr × Obj)) (h' : Heap) (tk' : Nat), Fr h₀ L h' m → News h₀ L h' (nw ++ news) → (∀ q ∈ nw, ∀ p ∈ news, p.1 ≠ q.1) → Out nw r → Q r { s with heap := h', toks := tk' }) →
    wpAny (model prog w) (ktrTop dp un gd cn cs L a ccd cl outer) (call f vs) Q E s
def Gives (prog : Program) (w : World) (f : Value) (vs : List Value) (Pre : List (Addr × Obj) → Prop) (Out : List (Addr × Obj) → Value → Prop) : Prop := GivesR 1 prog w f vs Pre Out
section
variable {prog : Program} {w : World} {f : Value} {vs : List Value} {Pre : List (Addr × Obj) → Prop} {Out : List (Addr × Obj) → Value → Prop} {p : Program} {loose : List Str} {mean : ExcName → Option Value} {mg mb : Str → Option Value}
    {dp un : Nat} {gd : Option (List Code)} {cn : Str} {cs : Scope} {a : Addr} {ccd : Value} {cl : List (Str × Addr)} {outer : List Env} {A₀ : Around} {base h₀ : Heap} {L : Addr} {m : Str → Option Value} {news : List (Addr × Obj)} {s : Shared} {Q E : Value → Shared → Prop}
theorem GivesR.use {r₀ : Nat} (C : GivesR r₀ prog w f vs Pre Out) (B : Below A₀ base outer h₀) (F : Fr h₀ L s.heap m) (X : (hd.heap_39 w.params).In h₀) (N : News h₀ L s.heap news) (T : Top p loose mean mg mb h₀) (hk : cs.kind = .function) (hp : Pre news) (hd : dp + 10 * r₀ < recursionLimit) (hu : un + 80 * r₀ < cLine)
    (h : ∀ (r : Value) (nw : List (Addr × Obj)) (h' : Heap) (tk' : Nat), Fr h₀ L h' m → News h₀ L h' (nw ++ news) → (∀ q ∈ nw, ∀ p ∈ news, p.1 ≠ q.1) → Out nw r → Q r { s with heap := h', toks := tk' }) :
    wpAny (model prog w) (ktrTop dp un gd cn cs L a ccd cl outer) (call f vs) Q E s := C _ _ _ _ _ _ _ _ _ _ _ _ _ _ _ _ _ _ _ _ _ _ _ B F X N T hk hp hd hu h
theorem Gives.use (C : Gives prog w f vs Pre Out) (B : Below A₀ base outer h₀) (F : Fr h₀ L s.heap m) (X : (hd.heap_39 w.params).In h₀) (N : News h₀ L s.heap news) (T : Top p loose mean mg mb h₀) (hk : cs.kind = .function) (hp : Pre news) (hd : dp + 10 * 1 < recursionLimit) (hu : un + 80 * 1 < cLine)
    (h : ∀ (r : Value) (nw : List (Addr × Obj)) (h' : Heap) (tk' : Nat), Fr h₀ L h' m → News h₀ L h' (nw ++ news) → (∀ q ∈ nw, ∀ p ∈ news, p.1 ≠ q.1) → Out nw r → Q r { s with heap := h', toks := tk' }) :
    wpAny (model prog w) (ktrTop dp un gd cn cs L a ccd cl outer) (call f vs) Q E s := GivesR.use C B F X N T hk hp hd hu h
end
end Mine
end


section
open PySem PySem.W PyProof.Rows PySem.Calls
set_option Elab.async false
set_option maxRecDepth 100000
namespace Mine

theorem map_entry_iter : entryFor table "map.__iter__" = some Builtin.«dict_keyiterator.__iter__» :=
  entryFor_alias (id' := "dict_keyiterator.__iter__") (by kernel_rfl) (by first | rfl | decide +kernel | (unfold String.splitOn; simp +decide [String.splitOnAux])) (by decide +kernel) (by kernel_rfl)
theorem map_slot_iter : Slot "map" "__iter__" "map.__iter__" :=
  .of (owner := "map") (n := "__iter__") (by rw [typeLookup_type, builtinLookup_eq_fast]; kernel_rfl) (by decide +kernel) (by decide +kernel) (by decide +kernel)
    (by first | exact .inl (by decide +kernel) | exact .inr (by decide +kernel)) (by rw [isSubtype_type]; kernel_rfl)
theorem map_slot_next : Slot "map" "__next__" "map.__next__" :=
  .of (owner := "map") (n := "__next__") (by rw [typeLookup_type, builtinLookup_eq_fast]; kernel_rfl) (by decide +kernel) (by decide +kernel) (by decide +kernel)
    (by first | exact .inl (by decide +kernel) | exact .inr (by decide +kernel)) (by rw [isSubtype_type]; kernel_rfl)
theorem map_slot_init : Slot "map" "__init__" "object.__init__" :=
  .of (owner := "object") (n := "__init__") (by rw [typeLookup_type, builtinLookup_eq_fast]; kernel_rfl) (by decide +kernel) (by decide +kernel) (by decide +kernel)
    (by first | exact .inl (by decide +kernel) | exact .inr (by decide +kernel)) (by rw [isSubtype_type]; kernel_rfl)
theorem map_entry_next : entryFor table "map.__next__" = some Builtin.«map.__next__» := entryFor_of_tree (by kernel_rfl)
theorem map_entry_new : entryFor table "map.__new__" = some Builtin.«map.__new__» := entryFor_of_tree (by kernel_rfl)
theorem map_args_iter (a : Value) : argsOk "map.__iter__" ⟨[a], []⟩ := by unfold argsOk; kernel_rfl
theorem map_args_next (a : Value) : argsOk "map.__next__" ⟨[a], []⟩ := by unfold argsOk; kernel_rfl
theorem map_mro : mroOf (.type "map") = pure [.type "map", .type "object"] := by rw [mroOf_type]; kernel_rfl
theorem map_lookup_new : typeLookup (.type "map") "__new__" = pure (some (.builtin "map.__new__")) := by rw [typeLookup_type, builtinLookup_eq_fast]; kernel_rfl
theorem map_called : TypeCalled "map" "map.__new__" "object.__init__" :=
  ⟨by decide +kernel, by decide +kernel, ⟨_, _, map_mro⟩, madeBy_type map_mro map_lookup_new (by decide +kernel), by decide +kernel, by rw [isSubtype_type]; kernel_rfl, map_slot_init⟩
theorem map_typeCall (a b : Value) : checkTypeCall "map" ⟨[a, b], []⟩ = pure () := by kernel_rfl
theorem map_newCall (a b : Value) : checkBuiltinCall "map.__new__" ⟨[.type "map", a, b], []⟩ = pure () := by kernel_rfl
theorem map_sub : isSubtype (.type "map") (.type "map") = pure true := by rw [isSubtype_type]; kernel_rfl
theorem map_nolen : typeLookup (.type "map") "__len__" = pure none := by rw [typeLookup_type, builtinLookup_eq_fast]; kernel_rfl
theorem map_nohint : typeLookup (.type "map") "__length_hint__" = pure none := by rw [typeLookup_type, builtinLookup_eq_fast]; kernel_rfl

abbrev IsMap (h : Heap) (z T : Addr) (f : Value) : Prop := h.get? z = some { cls := .type "map", dict := none, data := .fields #[.ref T, f], slots := #[] }
abbrev IsOne (h : Heap) (T I : Addr) : Prop := h.get? T = some { cls := .type "tuple", data := .seq #[.ref I] }

abbrev mapH1 (h : Heap) (l : Addr) : Heap := h.push { cls := .type "list_iterator", data := .fields #[.ref l, .int 0 0] }
abbrev mapH2 (h : Heap) (l : Addr) : Heap := (mapH1 h l).push { cls := .type "tuple", data := .seq #[.ref h.objs.size] }
abbrev mapH3 (h : Heap) (l : Addr) (f : Value) : Heap := (mapH2 h l).push { cls := .type "map", data := .fields #[.ref (mapH1 h l).objs.size, f] }

theorem meets_map_new (l : Addr) (xs : Array Value) (f : Value) :
    Meets (Builtin.«map.__new__» ⟨[.type "map", f, .ref l], []⟩) (fun _ R s => s.heap.IsList l xs ∧ R (.ok (.ret (.ref (mapH2 s.heap l).objs.size))) { s with heap := mapH3 s.heap l f }) :=
  .of_wp fun prog w A R s h => by
    obtain ⟨hp, g, d, tk, os⟩ := s; obtain ⟨hl, h⟩ := h
    have hsub := map_sub
    have hL1 : Heap.IsList (Shared.heap ⟨hp, g, d, tk, os⟩) l xs := hl
    wp_walk using wpAny_pyIter_list hL1
    exact ⟨_, rfl, h⟩

section
variable {prog : Program} {w : World} {A : Around} {E : Value → Shared → Prop} {s : Shared}
theorem call_map {l : Addr} {xs : Array Value} {f : Value} {Q : Value → Shared → Prop} (hl : s.heap.IsList l xs)
    (h : Q (.ref (s.heap.objs.size + 2)) { s with heap := mapH3 s.heap l f }) :
    wpAny (model prog w) A (call (.type "map") [f, .ref l]) Q E s := by
  refine callType_new map_called (by decide) (map_typeCall _ _) (map_newCall _ _) (fun obj => F.args_object_init_3 obj _ _) map_entry_new
    (meets_map_new l xs f) ⟨hl, ?_⟩
  have z1 : (mapH1 s.heap l).objs.size = s.heap.objs.size + 1 := Heap.size_push ..
  have z2 : (mapH2 s.heap l).objs.size = s.heap.objs.size + 2 := by rw [Heap.size_push, z1]
  have g5 : (mapH3 s.heap l f).get? (mapH2 s.heap l).objs.size = some _ := Heap.get?_push_size _ rfl
  rw [z2] at g5 ⊢
  exact ⟨⟨_, g5, rfl⟩, h⟩
end
end Mine
end


section
open PySem PySem.W PyProof.Rows PySem.Calls
set_option Elab.async false
set_option maxRecDepth 100000
namespace Mine
section
variable {prog : Program} {w : World} {A : Around} {E : Value → Shared → Prop} {s : Shared}

theorem map_next_item {z T I l : Addr} {k : Nat} {xs : Array Value} {x : Str} {t : Tok} {Q : Value → Shared → Prop}
    (hz : IsMap s.heap z T (.builtin "str.strip")) (hT : IsOne s.heap T I) (hi : s.heap.IsListIter I l k) (hl : s.heap.IsList l xs) (hx : xs[k]? = some (.str x t)) (hsz : x.length ≤ sizeLine) (hIz : z ≠ I)
    (hQ : ∀ h' t' tk, h'.IsListIter I l (k + 1) → Heap.SameBut I s.heap h' → Q (.str (Txt.strip x) t') { s with heap := h', toks := tk }) :
    wpAny (model prog w) A (Builtin.«map.__next__» ⟨[.ref z], []⟩) (fun fin s' => ∃ v, fin = .done (.ret v) ∧ Q v s') E s := by
  show wpAny _ _ (field (.ref z) 0 >>= _) _ _ _
  refine wpAny_bind (wpAny_field hz rfl (x := .ref T) rfl ?_)
  refine wpAny_bind (wpAny_seqItems hT rfl ?_)
  dsimp only
  rw [← Array.forIn_toList]
  refine wpAny_bind ?_
  rw [List.forIn_cons]
  refine wpAny_bind (wpAny_bind (wpAny_holding (wpAny_nextOf_list_item hi hl hx fun h₂ hi₂ hs₂ => wpAny_pure ?_)))
  simp only [List.forIn_nil]
  refine wpAny_pure ?_
  refine wpAny_bind (wpAny_field (hs₂.extBut _ _ hIz hz) rfl (x := .builtin "str.strip") rfl ?_)
  refine wpAny_bind (wpAny_holding ?_)
  refine SC.strip (fun t' k' => ?_) hsz
  refine wpAny_bind (wpAny_letGo ?_)
  exact wpAny_pure ⟨_, rfl, hQ _ _ _ hi₂ hs₂⟩

theorem map_next_end {z T I l : Addr} {k : Nat} {xs : Array Value} {f : Value} {Q : Fin → Shared → Prop} (hh : A.handled = none)
    (hz : IsMap s.heap z T f) (hT : IsOne s.heap T I) (hi : s.heap.IsListIter I l k) (hl : s.heap.IsList l xs) (hx : xs[k]? = none)
    (hE : ∀ h' e, Heap.ExtBut I s.heap h' → (∃ o, h'.get? e = some o ∧ o.cls = .type "StopIteration") → E (.ref e) { s with heap := h' }) :
    wpAny (model prog w) A (Builtin.«map.__next__» ⟨[.ref z], []⟩) Q E s := by
  show wpAny _ _ (field (.ref z) 0 >>= _) _ _ _
  refine wpAny_bind (wpAny_field hz rfl (x := .ref T) rfl ?_)
  refine wpAny_bind (wpAny_seqItems hT rfl ?_)
  dsimp only
  rw [← Array.forIn_toList]
  refine wpAny_bind ?_
  rw [List.forIn_cons]
  exact wpAny_bind (wpAny_bind (wpAny_holding (wpAny_nextOf_list_end hh hi hl hx hE)))

/-- the texts that a list holds, item by item -/
def TextsAt (xs : Array Value) (ts : List Str) : Prop := xs.size = ts.length ∧ ∀ (i : Nat) (x : Str), ts[i]? = some x → ∃ t : Tok, xs[i]? = some (Value.str x t)

theorem map_walks (hh : A.handled = none) {z T I l : Addr} (d1 : z ≠ I) (d2 : T ≠ I) (d3 : l ≠ I) {xs : Array Value} {ts : List Str} (hx : TextsAt xs ts) (hsz : ∀ x ∈ ts, x.length ≤ sizeLine) :
    Walks prog w A z [z, T, I, l] [I] ts.length (fun i v => ∃ x t, ts[i]? = some x ∧ v = .str (Txt.strip x) t)
      (fun i h => IsMap h z T (.builtin "str.strip") ∧ IsOne h T I ∧ h.IsListIter I l i ∧ h.IsList l xs) where
  sub := fun c hc => by simp at hc ⊢; simp [hc]
  frame := fun i h h' st hk => ⟨hk z (by simp) _ st.1, hk T (by simp) _ st.2.1, st.2.2.1.at fun o e => hk I (by simp) o e, st.2.2.2.at fun o e => hk l (by simp) o e⟩
  item := fun i s Q E hi st hQ => by
    obtain ⟨hz, hT, hI, hl⟩ := st
    obtain ⟨t, ht⟩ := hx.2 i ts[i] (by simp [hi])
    have hTy : s.TypeIs (.ref z) "map" := ⟨_, hz, rfl⟩
    unfold pyNext
    refine wpAny_bind (wpAny_attempt (wpAny_callSpecial?_slot (name := Str.ofString "__next__") hTy map_slot_next
      (wpAny_call_entry map_slot_next hTy map_entry_next
        (map_next_item hz hT hI hl ht (hsz _ (by simp)) d1 fun h' t' tk a1 a2 => wpAny_pure ?_) (map_args_next _))))
    exact hQ _ h' tk ⟨ts[i], t', by simp [hi], rfl⟩ ⟨a2.extBut _ _ d1 hz, a2.extBut _ _ d2 hT, a1, hl.extBut a2.extBut d3⟩ fun b o hb e => a2.extBut b o (fun q => hb (by simp [q])) e
  done := fun s Q E st hQ => by
    obtain ⟨hz, hT, hI, hl⟩ := st
    have hTy : s.TypeIs (.ref z) "map" := ⟨_, hz, rfl⟩
    unfold pyNext
    refine wpAny_bind (wpAny_attempt (wpAny_callSpecial?_slot (name := Str.ofString "__next__") hTy map_slot_next
      (wpAny_call_entry map_slot_next hTy map_entry_next
        (map_next_end (by exact hh) hz hT hI hl (Array.getElem?_eq_none (Nat.le_of_eq hx.1)) fun h' e hk he => ?_) (map_args_next _))))
    obtain ⟨o, ho, hc⟩ := he
    refine wpAny_bind (wpAny_isInstance (T := "StopIteration") (b := true) ⟨o, ho, hc⟩ isSubtype_stop ?_)
    exact wpAny_pure (hQ _ s.toks fun b o hb e => hk b o (fun q => hb (by simp [q])) e)
  self := fun i s Q E st hQ => by
    have hTy : s.TypeIs (.ref z) "map" := ⟨_, st.1, rfl⟩
    refine wpAny_pyIter_slot hTy map_slot_iter (wpAny_call_entry map_slot_iter hTy map_entry_iter ?_ (map_args_iter _))
    show wpAny _ _ (ret (.ref z)) _ _ s
    exact wpAny_pure ⟨_, rfl, "map", _, hTy, map_slot_next.lookup, hQ⟩

theorem collect_map {fp wr : List Addr} {G : Array GenState → Array GenState → Prop} {I : Addr} {n : Nat} {P : Nat → Value → Prop} {St : Nat → Shared → Prop} {Q : List Value → Shared → Prop}
    (W : WalksS prog w A.in1 I fp wr G n P St) (hT : ∀ i s, St i s → s.TypeIs (.ref I) "map") (hst : St 0 s) (hfp : ∀ b ∈ fp, b < s.heap.objs.size) (hI : I ∈ fp)
    (hQ : ∀ s' acc, Moved wr G s s' → ItemsOf P acc n → Q acc.toList s') (hn : n ≤ sizeLine) : wpAny (model prog w) A (collect (.ref I)) Q E s := by
  have nS : s.heap.objs.size ∉ fp := fun hm => Nat.lt_irrefl _ (hfp _ hm)
  have nI : s.heap.objs.size ≠ I := fun e => nS (e ▸ hI)
  generalize hH : s.heap.push { cls := .type "list", data := .seq ([] : List Value).toArray } = H
  have kH : ∀ b o, s.heap.get? b = some o → H.get? b = some o := fun b o e => hH ▸ Heap.get?_push_of_some _ e
  have atS : H.get? s.heap.objs.size = some { cls := .type "list", data := .seq ([] : List Value).toArray } := hH ▸ Heap.get?_push_size _ rfl
  have st1 : St 0 { s with heap := H } := W.frame 0 s H s.toks hst (Nat.le_refl _) fun b _ o e => kH b o e
  unfold collect
  refine wpAny_bind (wpAny_runValue (codeAny_builtin F.entry_proto_collect ?_))
  rw [Around.under_plainId F.plain_proto_collect _]
  show wpAny _ A.in1 (newList [] >>= fun l => again (.builtin "list.__iadd__" ⟨[l, .ref I], []⟩)) _ _ s
  refine wpAny_bind (wpAny_newObj_type ?_)
  rw [hH]
  refine wpAny_pure ⟨plainId_quiet F.plain_list_iadd _, codeAny_builtin F.entry_list_iadd ?_⟩
  rw [Around.under_plainId F.plain_list_iadd _]
  show wpAny _ A.in1 (Builtin.List.listExtendWith (.ref s.heap.objs.size) (.ref I) (.ref s.heap.objs.size)) _ _ _
  unfold Builtin.List.listExtendWith
  refine wpAny_bind (wpAny_typeOf (hT 0 _ st1) ?_)
  rw [if_neg (by simp [Builtin.List.listSameRef, nI])]
  refine wpAny_bind (W.self 0 _ _ _ st1 (wpAny_bind (wpAny_holding ?_)))
  unfold Builtin.List.listLengthHint
  refine wpAny_bind (wpAny_specialOf (hT 0 _ st1) map_nolen ?_)
  show wpAny _ A.in1 (specialOf (Value.ref I) (Str.ofString "__length_hint__") >>= _) _ _ _
  refine wpAny_bind (wpAny_specialOf (hT 0 _ st1) map_nohint ?_)
  refine wpAny_pure ?_
  show wpAny _ A.in1 (rule "list.extend.makes-room" >>= fun _ => Builtin.List.listTouch (.ref s.heap.objs.size) >>= fun _ =>
    again (.builtin "list.extend.loop" ⟨[.ref s.heap.objs.size, .ref I, .ref s.heap.objs.size], []⟩)) _ _ _
  refine wpAny_bind (wpAny_rule (wpAny_bind ?_))
  show wpAny _ A.in1 (updateSeq s.heap.objs.size (·.push .none) >>= fun _ => updateSeq s.heap.objs.size (·.pop)) _ _ _
  have at2 := Heap.get?_update_self (Obj.mapSeq (·.push Value.none)) atS rfl
  have at3 := Heap.get?_update_self (Obj.mapSeq (·.pop)) at2 rfl
  have off : ∀ b o, b ≠ s.heap.objs.size → H.get? b = some o → ((H.update s.heap.objs.size (Obj.mapSeq (·.push Value.none))).update s.heap.objs.size (Obj.mapSeq (·.pop))).get? b = some o :=
    fun b o hb e => (Heap.get?_update_other _ _ (Ne.symm hb)).trans ((Heap.get?_update_other _ _ (Ne.symm hb)).trans e)
  refine wpAny_bind (wpAny_updateSeq atS rfl (wpAny_updateSeq at2 rfl ?_))
  refine wpAny_pure ⟨plainId_quiet F.plain_extend_loop _, codeAny_extend_loopS W hn _ nS _ n 0 _ _ _ rfl (Nat.zero_le _)
    (W.frame 0 ({ s with heap := H } : Shared) _ s.toks st1 (Nat.le_refl _) fun b hb o e => off b o (fun q => nS (q ▸ hb)) e) at3 (ItemsOf.nil P) fun s' acc' c' hm atEnd hacc => ?_⟩
  show wpAny _ A (load s.heap.objs.size >>= _) _ _ s'
  refine wpAny_bind (wpAny_load atEnd (wpAny_pure (hQ s' acc' ?_ hacc)))
  refine ⟨fun b o hb e => hm.heap b o (fun q => ?_) (off b o ?_ (kH b o e)), hm.gens, hm.drawn, hm.os, hm.toks⟩
  · rcases List.mem_cons.mp q with q | q
    · exact Nat.lt_irrefl _ (q ▸ Heap.lt_size e)
    · exact hb q
  · exact Nat.ne_of_lt (Heap.lt_size e)
end

theorem items_strip {ts : List Str} {acc : Array Value} (h : ItemsOf (fun i v => ∃ x t, ts[i]? = some x ∧ v = .str (Txt.strip x) t) acc ts.length) : StrsAre acc.toList (ts.map Txt.strip) := by
  obtain ⟨h1, h2⟩ := h
  obtain ⟨l⟩ := acc
  simp only [List.size_toArray] at h1
  simp only [List.getElem?_toArray] at h2
  induction ts generalizing l with
  | nil => cases l with
    | nil => exact .nil
    | cons _ _ => simp at h1
  | cons x r ih => cases l with
    | nil => simp at h1
    | cons v vs =>
      obtain ⟨y, t, hy, rfl⟩ := h2 0 v (by simp)
      simp only [List.getElem?_cons_zero, Option.some.injEq] at hy
      subst hy
      refine .cons _ _ (ih vs (by simpa using h1) fun j u hj => ?_)
      simpa using h2 (j + 1) u (by simpa using hj)

section
variable {prog : Program} {w : World} {A : Around} {E : Value → Shared → Prop} {s : Shared}
/-- map(str.strip, ..) behind a star: the texts stripped -/
theorem star_map {h₀ : Heap} {L : Addr} {m : Str → Option Value} {news : List (Addr × Obj)} {l : Addr} {xs : Array Value} {ts : List Str} {Q : List Value → Shared → Prop} (hh : A.handled = none)
    (F : Fr h₀ L s.heap m) (N : News h₀ L s.heap news) (hl : s.heap.IsList l xs) (hx : TextsAt xs ts) (hsz : ∀ x ∈ ts, x.length ≤ sizeLine) (hn : ts.length ≤ sizeLine)
    (h : ∀ vs h' tk, StrsAre vs (ts.map Txt.strip) → Fr h₀ L h' m → News h₀ L h' news → Q vs { s with heap := h', toks := tk }) :
    wpAny (model prog w) A (call (.type "map") [.builtin "str.strip", .ref l]) (fun v s₁ => StarOf (model prog w) A E v Q s₁) E s := by
  refine call_map hl ?_
  obtain ⟨ol, hol, hlc, hld⟩ := hl
  have hlt : l < s.heap.objs.size := Heap.lt_size hol
  have hlt' := ltN hlt
  have z1 : (mapH1 s.heap l).objs.size = s.heap.objs.size + 1 := Heap.size_push ..
  have z2 : (mapH2 s.heap l).objs.size = s.heap.objs.size + 2 := by rw [Heap.size_push, z1]
  have z3 : (mapH3 s.heap l (.builtin "str.strip")).objs.size = s.heap.objs.size + 3 := by rw [Heap.size_push, z2]
  have g3 : (mapH3 s.heap l (.builtin "str.strip")).get? (mapH2 s.heap l).objs.size = some _ := Heap.get?_push_size _ rfl
  have g2 : (mapH3 s.heap l (.builtin "str.strip")).get? (mapH1 s.heap l).objs.size = some _ := Heap.get?_push_of_some _ (Heap.get?_push_size _ rfl)
  have g1 : (mapH3 s.heap l (.builtin "str.strip")).get? s.heap.objs.size = some _ := Heap.get?_push_of_some _ (Heap.get?_push_of_some _ (Heap.get?_push_size _ rfl))
  have up : ∀ b o, s.heap.get? b = some o → (mapH3 s.heap l (.builtin "str.strip")).get? b = some o := fun b o e => Heap.get?_push_of_some _ (Heap.get?_push_of_some _ (Heap.get?_push_of_some _ e))
  rw [z1] at g2
  rw [z2, z1] at g3
  generalize hH : mapH3 s.heap l (.builtin "str.strip") = H at g1 g2 g3 up z3 ⊢
  have hTy : Shared.TypeIs { s with heap := H } (.ref (s.heap.objs.size + 2)) "map" := ⟨_, g3, rfl⟩
  unfold StarOf notIterableAtAll
  refine wpAny_bind (wpAny_specialOf hTy map_slot_iter.lookup (wpAny_pure ⟨rfl, ?_⟩))
  have W : Walks prog w A.in1 (s.heap.objs.size + 2) [s.heap.objs.size + 2, s.heap.objs.size + 1, s.heap.objs.size, l] [s.heap.objs.size] ts.length (fun i v => ∃ x t, ts[i]? = some x ∧ v = .str (Txt.strip x) t)
      (fun i h => IsMap h (s.heap.objs.size + 2) (s.heap.objs.size + 1) (.builtin "str.strip") ∧ IsOne h (s.heap.objs.size + 1) s.heap.objs.size ∧ h.IsListIter s.heap.objs.size l i ∧ h.IsList l xs) :=
    map_walks (by exact hh) (neN (by omega)) (neN (by omega)) (Nat.ne_of_lt hlt) hx hsz
  refine collect_map W.toS (fun i s' st => ⟨_, st.1, rfl⟩) ⟨g3, g2, ⟨_, g1, rfl, rfl⟩, ⟨ol, up _ _ hol, hlc, hld⟩⟩ (fun b hb => ?_) (by simp) (fun s' acc hm hacc => ?_) hn
  · show b < H.objs.size
    rw [z3]
    simp only [List.mem_cons, List.not_mem_nil, or_false] at hb
    rcases hb with rfl | rfl | rfl | rfl <;> refine ltN ?_ <;> omega
  · obtain ⟨hp, gg, dd, tt, os⟩ := s'
    have e1 : gg = s.gens := hm.gens
    have e2 : dd = s.drawn := hm.drawn
    have e3 : os = s.os := hm.os
    subst e1 e2 e3
    have keep : ∀ b o, s.heap.get? b = some o → hp.get? b = some o := fun b o e => hm.heap b o (fun q => Nat.lt_irrefl _ ((List.mem_singleton.mp q) ▸ Heap.lt_size e)) (up b o e)
    exact h _ hp tt (items_strip hacc) (F.keeps keep) (fun p hp' => ⟨keep _ _ (N p hp').1, (N p hp').2⟩)
end
end Mine
end


section
open PySem PySem.W PyProof.Rows PySem.Calls Builtin Builtin.ObjectAttr
set_option Elab.async false
set_option maxRecDepth 100000
namespace Mine
theorem pk_made {M : Model} {h : Heap} (X : (hd.heap_39 M.w.params).In h) : Looks M h (Bind.madeBy (.ref 169)) none := Looks.of_peek X (by kernel_rfl)
theorem pk_static {M : Model} {h : Heap} (X : (hd.heap_39 M.w.params).In h) : Looks M h (Bind.staticBase (.ref 169)) (.type "tuple") := Looks.of_peek X (by kernel_rfl)
theorem pk_mro {M : Model} {h : Heap} (X : (hd.heap_39 M.w.params).In h) : Looks M h (mroOf (.ref 169)) [.ref 169, .ref 146, .type "tuple", .type "object"] := Looks.of_peek X (by kernel_rfl)
theorem pk_call {M : Model} {h : Heap} (X : (hd.heap_39 M.w.params).In h) : Looks M h (specialOf (.ref 169) "__call__") (some (.builtin "type.__call__")) := looks_specialIn X (by kernel_rfl)
theorem pk_inst {M : Model} {h : Heap} (X : (hd.heap_39 M.w.params).In h) : Looks M h (isInstance (.ref 169) (.type "type")) true := looks_instIn X (by kernel_rfl)
theorem pk_init {M : Model} {h : Heap} (X : (hd.heap_39 M.w.params).In h) : Looks M h (typeLookup (.ref 169) "__init__") (some (.builtin "object.__init__")) := looks_findIn X (by kernel_rfl)
theorem pk_self {M : Model} {h : Heap} (X : (hd.heap_39 M.w.params).In h) : Looks M h (isSubtype (.ref 169) (.ref 169)) true := looks_subIn X (by kernel_rfl)
theorem pk_obj {M : Model} {h : Heap} (X : (hd.heap_39 M.w.params).In h) : Looks M h (isSubtype (.ref 169) (.type "object")) true := looks_subIn X (by kernel_rfl)
theorem pk_tup {M : Model} {h : Heap} (X : (hd.heap_39 M.w.params).In h) : Looks M h (isSubtype (.ref 169) (.type "tuple")) true := looks_subIn X (by kernel_rfl)
end Mine
end


section
open PySem PySem.W PyProof.Rows PySem.Calls Builtin Builtin.ObjectAttr
set_option Elab.async false
set_option maxRecDepth 100000
namespace Mine
theorem pk_obj169 {w : World} {h : Heap} (X : (hd.heap_39 w.params).In h) : ∃ oc od cd sl, h.get? 169 = some ⟨oc, od, .cls cd, sl⟩ := by
  have hc : (clsIn (Mine.hd.heap_39 w.params) 169).isSome = true := by kernel_rfl
  unfold clsIn at hc
  split at hc
  · rename_i ho
    exact ⟨_, _, _, _, X _ _ ho⟩
  · cases hc

/-- what stands where Pair's own __new__ comes back -/
def NewBack (w : World) (vals : List Value) (R : Result → Shared → Prop) (r : Result) (s' : Shared) : Prop := match r with
  | .ok (.ret v) => (hd.heap_39 w.params).In s'.heap ∧ ∃ x o, v = .ref x ∧ s'.heap.get? x = some o ∧ o.cls = .ref 169 ∧ R (.ok (.ret (.ref x))) s'
  | .ok _ => False
  | .error e => R (.error e) s'

theorem oi_args3 (a b c : Value) : argsOk "object.__init__" ⟨[a, b, c], []⟩ := by unfold argsOk; kernel_rfl

section
variable {prog : Program} {w : World} {A : Around} {s : Shared} {h₀ : Heap} {L : Addr} {m : Str → Option Value} {R : Result → Shared → Prop} {vals : List Value}
theorem oi_list (vals : List Value) : (!vals.isEmpty || !([] : List (Str × Value)).isEmpty) = !vals.isEmpty := by cases vals <;> rfl
theorem init_pair {x : Addr} {o : Obj} (X : (hd.heap_39 w.params).In s.heap) (hx : s.heap.get? x = some o) (hc : o.cls = .ref 169) (ha : argsOk "object.__init__" ⟨.ref x :: vals, []⟩) (hR : R (.ok (.ret .none)) s) :
    codeAny (model prog w) A (.call (.builtin "object.__init__") ⟨.ref x :: vals, []⟩) R s := by
  have ty : Looks (model prog w) s.heap (typeOf (.ref x)) (.ref 169) := hc ▸ ((Looks.ld (part := none) hx).andThen .now)
  have i1 := pk_init (M := model prog w) X
  have i3 : Looks (model prog w) s.heap (isInstance (.ref x) (.type "object")) true := ty.andThen (pk_obj X)
  have made := pk_made (M := model prog w) X
  refine codeAny_call_builtin oi_plain entry_oi (@check_slot (model prog w) _ _ s "object.__init__" "object" "__init__" (.ref x) vals [] _ oi_kind oi_split i3 ha ?_)
  unfold Builtin.«object.__init__»
  dsimp only
  rw [oi_list]
  cases vals with
  | nil => exact wpAny_pure hR
  | cons v vs =>
    simp only [List.isEmpty_cons, Bool.not_false, if_true]
    refine wpAny_bind (ty.here (wpAny_bind (i1.here (wpAny_bind (made.here ?_)))))
    simp only [bne_self_eq_false, Bool.false_eq_true, if_false, Bool.false_or]
    rw [show (!((none : Option String) != some "object.__new__")) = false from rfl]
    simp only [Bool.false_eq_true, if_false]
    exact wpAny_pure hR
set_option maxHeartbeats 1000000 in
theorem pair_call (F : Fr h₀ L s.heap m) (X₀ : (hd.heap_39 w.params).In h₀) (ha : ∀ obj, argsOk "object.__init__" ⟨obj :: vals, []⟩)
    (h : codeAny (model prog w) (A.under (.builtin "type.__call__" ⟨.ref 169 :: vals, []⟩)) (.call (.ref 96) ⟨.ref 169 :: vals, []⟩) (NewBack w vals R) { s with toks := s.toks + 1 }) :
    codeAny (model prog w) A (.call (.ref 169) ⟨vals, []⟩) R s := by
  have X := X₀.keeps F.keep
  obtain ⟨oc, od, cd, sl, hC⟩ := pk_obj169 X
  have made := pk_made (M := model prog w) X
  have call := pk_call (M := model prog w) X
  have typ := pk_inst (M := model prog w) X
  have hm := pk_mro (M := model prog w) X
  refine codeAny_of_tree ?_
  show wpAny _ _ (callAny (.ref 169) _) _ _ _
  refine nd_load hC ?_
  show wpAny _ _ (callAny.viaDunder (.ref 169) _) _ _ _
  unfold callAny.viaDunder
  refine wpAny_bind (call.here ?_)
  dsimp only
  rw [tc_bind]
  refine wpAny_bind (wpAny_pure (wpAny_bind (wpAny_pure ?_)))
  refine wpAny_pure (a := Fin.again (.call (.builtin "type.__call__") ⟨.ref 169 :: vals, []⟩)) (And.intro rfl ?_)
  refine codeAny_call_builtin_at (Code.quiet_builtin _ (by decide +kernel)) entry_typeCall (@check_slot (model prog w) _ _ s "type.__call__" "type" "__call__" (.ref 169) vals [] _ tc_kind tc_split typ (tc_args _ _ _) ?_)
  unfold Builtin.«type.__call__»
  dsimp only
  show wpAny _ _ (mroOf (.ref 169) >>= _) _ _ _
  refine wpAny_bind (hm.here ?_)
  simp only [List.isEmpty_cons, Bool.false_eq_true, if_false]
  refine wpAny_bind (made.here ?_)
  dsimp only
  refine wpAny_bind ?_
  refine cls_sm (K := hd.heap_39 w.params) F X₀ (mc := .type "type") (p := 147) (f := .ref 96) (rest := []) (by kernel_rfl) (by kernel_rfl) (by kernel_rfl) (by kernel_rfl) (by kernel_rfl) ?_
  refine wpAny_bind (wpAny_holding (wpAny_call (codeAny_mono h fun r s' z => ?_)))
  rcases r with e | (v | _ | _ | v)
  · exact z
  · exact z.elim
  · exact z.elim
  · exact z.elim
  · obtain ⟨X', x, o, rfl, hx, hc, hR⟩ := z
    have ty : Looks (model prog w) s'.heap (typeOf (.ref x)) (.ref 169) := hc ▸ ((Looks.ld (part := none) hx).andThen .now)
    have i1 := pk_init (M := model prog w) X'
    have i2 : Looks (model prog w) s'.heap (isInstance (.ref x) (.ref 169)) true := ty.andThen (pk_self X')
    have i3 : Looks (model prog w) s'.heap (isInstance (.ref x) (.type "object")) true := ty.andThen (pk_obj X')
    refine wpAny_bind (i2.here ?_)
    simp only [Bool.not_true, Bool.false_eq_true, if_false]
    refine wpAny_bind (wpAny_holding ?_)
    unfold callSpecial? specialOf
    refine wpAny_bind (wpAny_bind (ty.here (i1.here (wpAny_holding ?_))))
    rw [oi_bind]
    refine wpAny_bind (wpAny_pure (wpAny_bind ?_))
    show wpAny _ _ (PySem.call (.builtin "object.__init__") (.ref x :: vals) []) _ _ _
    refine wpAny_call (init_pair X' hx hc (ha _) ?_)
    refine wpAny_pure ?_
    dsimp only
    simp only [bne_self_eq_false, Bool.false_eq_true, if_false]
    exact wpAny_pure hR
end
end Mine
end


section
open PySem PySem.W PyProof.Rows PySem.Calls Builtin Builtin.ObjectAttr
set_option Elab.async false
set_option maxRecDepth 100000
namespace Mine
theorem pk_isType {M : Model} {h : Heap} (X : (hd.heap_39 M.w.params).In h) : Looks M h (isType (.ref 169)) true := Looks.of_peek X (by kernel_rfl)
theorem pk_del {M : Model} {h : Heap} (X : (hd.heap_39 M.w.params).In h) : Looks M h (classHasDel 169) false := Looks.of_peek X (by kernel_rfl)
theorem tn_made : Bind.madeBy (.type "tuple") = pure (some "tuple.__new__") := F.called_tuple.made
theorem pk_here {M : Model} {h : Heap} (X : (hd.heap_39 M.w.params).In h) : Looks M h (Bind.madeHere "tuple.__new__" (.ref 169)) () :=
  (pk_static X).andThen ((Looks.of_pure tn_made).andThen (Looks.of_pure (by kernel_rfl)))
theorem tn_kind : builtinKind "tuple.__new__" = some .builtinFn := by decide +kernel
theorem tn_split : splitId "tuple.__new__" = some ("tuple", "__new__") := by decide +kernel
theorem tn_args (a b : Value) : argsOk "tuple.__new__" ⟨[a, b], []⟩ := by unfold argsOk; kernel_rfl
theorem tn_check {M : Model} {h : Heap} (X : (hd.heap_39 M.w.params).In h) (b : Value) : Looks M h (checkBuiltinCall "tuple.__new__" ⟨[.ref 169, b], []⟩) () := by
  intro A Q E s k q
  have X' := X.keeps k
  have t1 := pk_isType (M := M) X'
  have t2 := pk_tup (M := M) X'
  have t3 := pk_static (M := M) X'
  simp only [checkBuiltinCall, tn_kind, tn_split]
  show wpAny M A (isType (.ref 169) >>= _) Q E s
  refine wpAny_bind (t1.here ?_)
  simp only [Bool.not_true, Bool.false_eq_true, if_false]
  refine wpAny_bind (t2.here ?_)
  simp only [Bool.not_true, Bool.false_eq_true, if_false]
  refine wpAny_bind (t3.here ?_)
  rw [tn_made]
  refine wpAny_bind (wpAny_pure ?_)
  simp only [bne_self_eq_false, Bool.false_eq_true, if_false]
  have ha := tn_args (.ref 169) b
  cases hsig : Manifest.signature? "tuple.__new__" with
  | none => exact wpAny_pure q
  | some sig =>
    simp only [argsOk, hsig] at ha
    have h2 : Bind.checkArgs "tuple.__new__" sig ⟨[.ref 169, b], []⟩ = pure () := ha
    show wpAny M A (Bind.checkArgs "tuple.__new__" sig ⟨[.ref 169, b], []⟩) Q E s
    rw [h2]; exact wpAny_pure q

/-- an object of class Pair with its two places, its own dict at d -/
abbrev pairObj (a b : Value) (d : Addr) : Obj := { cls := .ref 169, dict := some d, data := .seq #[a, b] }
section
variable {prog : Program} {w : World} {A : Around} {E : Value → Shared → Prop} {s : Shared} {h₀ : Heap} {L : Addr} {m : Str → Option Value} {news : List (Addr × Obj)}
set_option maxHeartbeats 1000000 in
theorem tuple_new_pair {t : Addr} {a b : Value} {o : Obj} {n : Nat} {Q : Value → Shared → Prop} (F : Fr h₀ L s.heap m) (N : News h₀ L s.heap news) (X₀ : (hd.heap_39 w.params).In h₀)
    (ht : (t, o) ∈ news) (hc : o.cls = .type "tuple") (hd : o.data = .seq #[a, b] n)
    (h : ∀ x d h', Fr h₀ L h' m → News h₀ L h' ((x, pairObj a b d) :: (d, dictOf [] 0) :: news) → (∀ p ∈ news, p.1 < d) → d < x → Q (.ref x) { s with heap := h' }) :
    wpAny (model prog w) A (PySem.call (.builtin "tuple.__new__") [.ref 169, .ref t]) Q E s := by
  have X := X₀.keeps F.keep
  have c1 := tn_check (M := model prog w) X (.ref t)
  have t1 := pk_isType (M := model prog w) X
  have t2 := pk_tup (M := model prog w) X
  have t3 := pk_here (M := model prog w) X
  have t4 := pk_init (M := model prog w) X
  refine wpAny_call (codeAny_call_builtin PySem.F.plain_tuple_new PySem.F.entry_tuple_new (c1.here ?_))
  unfold Builtin.«tuple.__new__»
  dsimp only
  refine wpAny_bind (t1.here ?_)
  simp only [Bool.not_true, Bool.false_eq_true, if_false]
  refine wpAny_bind (t2.here ?_)
  simp only [Bool.not_true, Bool.false_eq_true, if_false]
  refine wpAny_bind (t3.here (wpAny_bind (t4.here ?_)))
  simp only [beq_self_eq_true, if_true]
  show wpAny _ _ (pure () >>= _) _ _ _
  refine wpAny_bind (wpAny_pure ?_)
  show wpAny _ _ (pure () >>= _) _ _ _
  refine wpAny_bind (wpAny_pure ?_)
  rw [show (Value.ref 169 == Value.type "tuple") = false from by decide]
  simp only [Bool.false_eq_true, if_false]
  with_reducible refine wpAny_bind ?_
  refine wpAny_collect_seq t (.inr rfl) (N _ ht).1 hc hd (fun h' hk => wpAny_bind (wpAny_pure ?_)) (by show 2 ≤ sizeLine; rw [sizeLine_eq]; omega)
  have F' := F.keeps hk
  have N' := N.grown hk
  have N₂ := N'.push F' emptyDict
  have N₃ := N₂.push (F'.push _) (pairObj a b h'.objs.size)
  rw [Heap.size_push] at N₃
  refine wpAny_bind (wpAny_alloc ?_)
  show wpAny _ _ (newObjAsIs _ _ _ >>= _) _ _ _
  unfold newObjAsIs
  have X₃ := X₀.keeps ((F'.push emptyDict).push (pairObj a b h'.objs.size)).keep
  refine wpAny_bind (wpAny_bind (wpAny_alloc (wpAny_bind ((pk_del (M := model prog w) X₃).here ?_))))
  simp only [Bool.false_eq_true, if_false]
  refine wpAny_pure (wpAny_pure ?_)
  show Q _ _
  rw [Heap.size_push]
  exact h _ _ _ ((F'.push _).push _) N₃ (fun p hp => Heap.lt_size (N' p hp).1) (Nat.lt_succ_self _)
end
end Mine
end


section
open PySem PySem.W PyProof.Rows PySem.Calls
set_option Elab.async false
namespace Mine
/-- the claim's caller stands below -/
def Low (Γ : Ctx) : Prop := Γ.below.any (·.1.isCaller) = true
def wpC {α : Type} (M : Model) (A : Around) (t : Sem α) (Q : α → Shared → Prop) (E : Value → Shared → Prop) (s : Shared) : Prop :=
  ∀ Γ p, Γ.In A → Low Γ → Sem.wp M Γ t (fun a _ s' => Q a s') (fun e _ s' => E e s') p s
def codeC (M : Model) (A : Around) (c : Code) (R : Result → Shared → Prop) (s : Shared) : Prop := ∀ Γ p, Γ.code = c → Γ.Below A → Low Γ → wpCode M Γ R p s

section
variable {α β : Type} {M : Model} {A : Around} {E : Value → Shared → Prop} {s : Shared}
theorem wpC.of {t : Sem α} {Q : α → Shared → Prop} (h : wpAny M A t Q E s) : wpC M A t Q E s := fun Γ p hΓ _ => h Γ p hΓ
theorem wpC_mono {t : Sem α} {Q Q' : α → Shared → Prop} {E' : Value → Shared → Prop} (h : wpC M A t Q E s) (hQ : ∀ a s, Q a s → Q' a s) (hE : ∀ e s, E e s → E' e s) : wpC M A t Q' E' s :=
  fun Γ p hΓ hl => Sem.wp_mono M Γ t (fun a _ s => hQ a s) (fun e _ s => hE e s) p s (h Γ p hΓ hl)
theorem wpC_bind {m : Sem α} {f : α → Sem β} {Q : β → Shared → Prop} (h : wpC M A m (fun a s' => wpC M A (f a) Q E s') E s) : wpC M A (m >>= f) Q E s := fun Γ p hΓ hl => by
  rw [Sem.wp_bind']
  exact Sem.wp_mono M Γ m (fun a p' s' h' => h' Γ p' hΓ hl) (fun _ _ _ h' => h') p s (h Γ p hΓ hl)
/-- the first part needs no caller -/
theorem wpC_pre {m : Sem α} {f : α → Sem β} {Q : β → Shared → Prop} (h : wpAny M A m (fun a s' => wpC M A (f a) Q E s') E s) : wpC M A (m >>= f) Q E s := wpC_bind (.of h)
theorem wpC_pure {a : α} {Q : α → Shared → Prop} (h : Q a s) : wpC M A (pure a) Q E s := fun _ _ _ _ => h
theorem wpC_holding {vs : List Value} {m : Sem α} {Q : α → Shared → Prop} (h : wpC M A m Q E s) : wpC M A (holding vs m) Q E s := fun Γ p hΓ hl => by rw [Sem.wp_holding]; exact h Γ p hΓ hl
theorem wpC_keep {vs : List Value} {m : Sem α} {Q : α → Shared → Prop} (h : wpC M A m Q E s) : wpC M A (m.keep vs) Q E s := fun Γ p hΓ hl => by rw [Sem.wp_keep]; exact h Γ p hΓ hl
theorem wpC_onRaise {m : Sem α} {k : Value → Sem Unit} {Q : α → Shared → Prop} (h : wpC M A m Q (fun e s' => wpAny M A (k e) (fun _ s'' => E e s'') E s') s) : wpC M A (m.onRaise k) Q E s := fun Γ p hΓ hl => by
  rw [Sem.wp_onRaise]
  exact Sem.wp_mono M Γ m (fun _ _ _ h' => h') (fun e p' s' h' => h' Γ p' hΓ) p s (h Γ p hΓ hl)
theorem wpC_attempt {m : Sem α} {Q : Except Value α → Shared → Prop} (h : wpC M A m (fun a => Q (.ok a)) (fun e => Q (.error e)) s) : wpC M A m.attempt Q E s := fun Γ p hΓ hl => by
  rw [Sem.wp_attempt]; exact h Γ p hΓ hl
theorem wpC_operate {vs : List Value} {m : Sem Value} {Q : Value → Shared → Prop} (h : wpC M A m Q E s) : wpC M A (operate vs m) Q E s := fun Γ p hΓ hl => by
  rw [Sem.wp_operate]; exact h Γ p hΓ hl
theorem low_enter {Γ : Ctx} (h : Low Γ) (c : Code) (hd : Option Value) (p : Pos) : Low (Γ.enter c hd p) := by
  show ((Γ.code, p) :: Γ.below).any (·.1.isCaller) = true
  have h' : Γ.below.any (·.1.isCaller) = true := h
  rw [List.any_cons, h', Bool.or_true]
theorem codeC.of {c : Code} {R : Result → Shared → Prop} (h : codeAny M A c R s) : codeC M A c R s := fun Γ p hc hΓ _ => h Γ p hc hΓ
theorem codeC_mono {c : Code} {R R' : Result → Shared → Prop} (h : codeC M A c R s) (hR : ∀ r s, R r s → R' r s) : codeC M A c R' s := fun Γ p hc hΓ hl => wpCode_mono hR (h Γ p hc hΓ hl)
theorem wpC_run {c : Code} {h : Option Value} {Q : Flow → Shared → Prop} (hc : codeC M (A.mark h) c (fun r s' => match r with | .ok f => Q f s' | .error e => E e s') s) (hnb : h ≠ some byPass := by intro x; cases x) :
    wpC M A (run c h) Q E s := fun Γ p hΓ hl => by rw [Sem.wp_run]; exact hc _ p rfl (hΓ.enter c h p hnb) (low_enter hl c h p)
theorem wpC_runValue {c : Code} {Q : Value → Shared → Prop} (hc : codeC M A c (fun r s' => match r with | .ok (.ret v) => Q v s' | .ok _ => False | .error e => E e s') s) : wpC M A (runValue c) Q E s :=
  fun Γ p hΓ hl => by rw [Sem.wp_runValue]; exact hc _ p rfl (hΓ.enter c none p (by intro x; cases x)) (low_enter hl c none p)
theorem wpC_call {f : Value} {pos : List Value} {kw : List (Str × Value)} {Q : Value → Shared → Prop}
    (hc : codeC M A (.call f ⟨pos, kw⟩) (fun r s' => match r with | .ok (.ret v) => Q v s' | .ok _ => False | .error e => E e s') s) : wpC M A (PySem.call f pos kw) Q E s := wpC_runValue hc
theorem codeC_of_tree {c : Code} {R : Result → Shared → Prop}
    (h : wpC M (A.under c) (M.den c) (fun fin s' => match fin with | .done f => R (.ok f) s' | .again c' => c'.quiet = true ∧ codeC M A c' R s') (fun e s' => R (.error e) s') s) : codeC M A c R s := fun Γ p hc hΓ hl => by
  rw [wpCode_iff_wp, hc]
  refine Sem.wp_mono M Γ _ (fun fin p' s' h' => ?_) (fun _ _ _ h' => h') p s (h Γ p (hc ▸ hΓ.in) hl)
  cases fin with
  | done f => exact h'
  | again c' => exact ⟨h'.1, h'.2 (Γ.goto c') p' rfl (hΓ.goto c') hl⟩

/-- where the claim calls: the caller is the one on the stack -/
theorem wpAny_underV {f : Value} {vs : List Value} {Q : Value → Shared → Prop} (hc : codeC M A (.call f ⟨vs, []⟩) (fun r s' => match r with | .ok (.ret v) => Q v s' | .ok _ => False | .error e => E e s') s) (ht : Q (.bool true) s) :
    wpAny M A (underV (PySem.call f vs)) Q E s := fun Γ p hΓ => by
  simp only [underV, Sem.wp_stack]
  split
  · rename_i hl
    show Sem.wp M Γ (runValue (.call f ⟨vs, []⟩)) _ _ p s
    rw [Sem.wp_runValue]
    exact hc _ p rfl (hΓ.enter _ none p (by intro x; cases x)) hl
  · exact ht

theorem not_marked {Γ : Ctx} (h : Low Γ) (own : List String) (p : Pos) : pythonCodeMadeTheCall own (((Γ.code, p) :: Γ.below).map (·.1)) = false := by
  have e : (((Γ.code, p) :: Γ.below).map (·.1)).any Code.isCaller = true := by
    have h' : Γ.below.any (·.1.isCaller) = true := h
    rw [List.any_map, List.any_cons]
    show (Γ.code.isCaller || Γ.below.any (·.1.isCaller)) = true
    rw [h', Bool.or_true]
  have e2 : ∀ f : Code → Bool, (∀ c, f c = c.isCaller) → (((Γ.code, p) :: Γ.below).map (·.1)).any f = true := fun f hf => by rw [show f = Code.isCaller from funext hf]; exact e
  unfold pythonCodeMadeTheCall
  rw [e2 _ ?_]
  · rfl
  · intro c; cases c <;> rfl
theorem wpC_mark {own : List String} {e : Value} {Q : Unit → Shared → Prop} (h : Q () s) : wpC M A (markTheRefusal own e) Q E s := fun Γ p _ hl => by
  unfold markTheRefusal
  rw [Sem.wp_bind']
  show Sem.wp M Γ (if pythonCodeMadeTheCall own (((Γ.code, p) :: Γ.below).map (·.1)) = true then _ else _) _ _ p s
  rw [not_marked hl]
  exact h

theorem wpC_refuses {msg : String} {Q : α → Shared → Prop} (hh : A.handled = none)
    (h : ∀ h' tk e, Heap.NewExc s.heap h' e "TypeError" → E (.ref e) { s with heap := h', toks := tk }) (hm : (msg : Str).length ≤ sizeLine) :
    wpC M A (theBinderRefuses msg : Sem α) Q E s := by
  unfold theBinderRefuses
  refine wpC_pre (wpAny_mkStr ?_ hm)
  refine wpC_pre ?_
  unfold newExc newTuple
  refine wpAny_bind (wpAny_newObj_type ?_)
  refine wpAny_bind (m := firstArgMember _ _) (wpAny_of_eq (a := Value.none) (by simp only [firstArgMember, typeError_no_first]; rfl) ?_)
  rw [ownMembersOf_TypeError]
  refine wpAny_newObj_type ?_
  refine wpC_bind (wpC_mark ?_)
  refine .of (wpAny_raiseNew_none hh ?_)
  exact h _ _ _ ⟨fun b o hb => Heap.get?_push_of_some _ (Heap.get?_push_of_some _ hb), Heap.get?_none_of_le (by simp), _, .ref s.heap.objs.size, Heap.get?_push_size _ rfl, rfl, by simp⟩
end
end Mine
end


section
open PySem PySem.W PyProof.Rows PySem.Calls
set_option Elab.async false
namespace Mine
/-- as Gives, the ledger's own part said -/
def GivesO (r₀ : Nat) (prog : Program) (w : World) (f : Value) (vs : List Value) (own : List (Addr × Obj)) (Out : List (Addr × Obj) → Value → Prop) : Prop :=
  ∀ (p : Program) (loose : List Str) (mean : ExcName → Option Value) (mg mb : Str → Option Value)
    (dp un : Nat) (gd : Option (List Code)) (cn : Str) (cs : Scope) (a : Addr) (ccd : Value) (cl : List (Str × Addr)) (outer : List Env) (A₀ : Around) (base h₀ : Heap) (L : Addr) (m : Str → Option Value) (news : List (Addr × Obj)) (s : Shared) (Q E : Value → Shared → Prop),
    Below A₀ base outer h₀ → Fr h₀ L s.heap m → (hd.heap_39 w.params).In h₀ → News h₀ L s.heap (own ++ news) → Top p loose mean mg mb h₀ → cs.kind = .function → dp + 10 * r₀ < recursionLimit → un + 80 * r₀ < cLine →
    (∀ (r : Value) (nw : List (Addr × Obj)) (h' : Heap) (tk' : Nat), Fr h₀ L h' m → News h₀ L h' (nw ++ (own ++ news)) → (∀ q ∈ nw, ∀ p ∈ own ++ news, p.1 ≠ q.1) → Out nw r → Q r { s with heap := h', toks := tk' }) →
    wpAny (model prog w) (ktrTop dp un gd cn cs L a ccd cl outer) (call f vs) Q E s
theorem GivesO.gives {r₀ : Nat} {prog : Program} {w : World} {f : Value} {vs : List Value} {own : List (Addr × Obj)} {Out : List (Addr × Obj) → Value → Prop} (H : GivesO r₀ prog w f vs own Out) : GivesR r₀ prog w f vs (fun news => ∀ q ∈ own, q ∈ news) Out := by
  unfold GivesR
  intro p loose mean mg mb dp un gd cn cs a ccd cl outer A₀ base h₀ L m news s Q E B F X N T hk hpre hdp hun hret
  refine H p loose mean mg mb dp un gd cn cs a ccd cl outer A₀ base h₀ L m news s Q E B F X (N.perm fun q hq => ?_) T hk hdp hun fun r nw h' tk' F' N' hne ho => hret r nw h' tk' F' (N'.perm fun q hq => ?_) (fun q hq p hp => hne q hq p (List.mem_append_right _ hp)) ho
  · rcases List.mem_append.mp hq with h | h
    · exact hpre q h
    · exact h
  · rcases List.mem_append.mp hq with h | h
    · exact List.mem_append_left _ h
    · exact List.mem_append_right _ (List.mem_append_right _ h)

theorem strs_pairs : ∀ {vs : List Value} {ts : List Str}, StrsAre vs ts → ∃ l : List (Str × Tok), vs = strValues l ∧ l.map (·.1) = ts
  | _, _, .nil => ⟨[], rfl, rfl⟩
  | _, _, .cons x t h => let ⟨l, e, f⟩ := strs_pairs h; ⟨(x, t) :: l, by rw [e]; rfl, by rw [← f]; rfl⟩
section
variable {prog : Program} {w : World} {A : Around} {E : Value → Shared → Prop} {s : Shared} {Q : Value → Shared → Prop}
theorem join_ts {D : Addr} {vs : List Value} {x : Str} {t : Tok} {texts : List Str} (hl : s.heap.IsList D vs.toArray) (ht : StrsAre vs texts) (hok : JoinOk x texts = true)
    (hq : ∀ t' k, Q (.str (Txt.join x texts) t') { s with toks := k }) : wpAny (model prog w) A (call (.builtin "str.join") [.str x t, .ref D]) Q E s := by
  obtain ⟨l, rfl, e⟩ := strs_pairs ht
  exact SC.join hl e hok hq
theorem rstrip_snd {b : Value} {x : Str} {t : Tok} (hsz : x.length ≤ sizeLine) (h : ∀ t' k, Q (.str (Txt.rstrip x) t') { s with toks := k }) : wpAny (model prog w) A (call (.builtin "str.rstrip") (b, [Value.str x t]).snd) Q E s := SC.rstrip h hsz
theorem strip_snd {b : Value} {x : Str} {t : Tok} (hsz : x.length ≤ sizeLine) (h : ∀ t' k, Q (.str (Txt.strip x) t') { s with toks := k }) : wpAny (model prog w) A (call (.builtin "str.strip") (b, [Value.str x t]).snd) Q E s := SC.strip h hsz
end
/-- few and short texts: a join of them fits -/
theorem joinOk_few' {x : Str} {ts : List Str} {n k b : Nat} (h1 : ts.length ≤ n) (h2 : ∀ a ∈ ts, a.length ≤ k) (h3 : x.length ≤ b) (h4 : n * k + n * b ≤ 16777216 := by decide) : JoinOk x ts = true := by
  unfold JoinOk
  rw [Bool.not_eq_true']
  refine StrLaws.joinFits h2 (Nat.le_trans (Nat.add_le_add (Nat.mul_le_mul_right _ h1) (Nat.mul_le_mul h1 h3)) h4)
theorem split_count (x y : Str) : (Txt.split x y).length ≤ x.length + 2 := by
  unfold Txt.split
  split
  · simp
  · split
    · simp
    · rw [StrLaws.partsBetween_eq]
      have : ∀ (cuts : List Nat) (a : Nat), (StrLaws.partsFrom x y.length a cuts).length = cuts.length + 1 := by
        intro cuts
        induction cuts with
        | nil => intro a; rfl
        | cons c r ih => intro a; simp [StrLaws.partsFrom, ih]
      rw [this]
      have := StrLaws.occ_length_le x y 0 x.length (x.length + 1)
      omega
theorem sizeLine_ge {n : Nat} (h : n ≤ 100000) : n ≤ sizeLine := by rw [sizeLine_eq]; omega
end Mine
namespace Mine
theorem len_at {ts : List Str} {k i : Nat} {y : Str} (h : ∀ a ∈ ts, a.length ≤ k) (e : ts[i]? = some y) : y.length ≤ k := h y (List.mem_of_getElem? e)
theorem len_rstrip (x : Str) : (Txt.rstrip x).length ≤ x.length := fact_rstrip x
end Mine
namespace Mine
theorem strs_drop : ∀ {vs : List Value} {ns : List Str}, StrsAre vs ns → ∀ k : Nat, StrsAre (vs.drop k) (ns.drop k)
  | _, _, h, 0 => h
  | _, _, .nil, _ + 1 => .nil
  | _, _, .cons _ _ h, k + 1 => strs_drop h k
theorem strs_take : ∀ {vs : List Value} {ns : List Str}, StrsAre vs ns → ∀ k : Nat, StrsAre (vs.take k) (ns.take k)
  | _, _, _, 0 => .nil
  | _, _, .nil, _ + 1 => .nil
  | _, _, .cons n t h, k + 1 => .cons n t (strs_take h k)
theorem strs_from {vs : List Value} {ns : List Str} (hi : StrsAre vs ns) {x : Int} (h0 : 0 ≤ x) : StrsAre (slicePick vs.toArray (some x) none none).toList (ns.drop x.toNat) := by
  have ex : x = (x.toNat : Int) := by omega
  rw [ex, slicePick_from' vs.toArray x.toNat]
  simpa [← ex] using strs_drop hi x.toNat
theorem strs_upto {vs : List Value} {ns : List Str} (hi : StrsAre vs ns) {y : Int} (h0 : 0 ≤ y) : StrsAre (slicePick vs.toArray none (some y) none).toList (ns.take y.toNat) := by
  have ey : y = (y.toNat : Int) := by omega
  rw [ey, slicePick_upto' vs.toArray y.toNat]
  simpa [← ey] using strs_take hi y.toNat
section
variable {prog : Program} {w : World} {A : Around} {E : Value → Shared → Prop} {s : Shared} {Q : Value → Shared → Prop}
theorem join_ar {D : Addr} {xs : Array Value} {x : Str} {t : Tok} {texts : List Str} (hl : s.heap.IsList D xs) (ht : StrsAre xs.toList texts) (hok : JoinOk x texts = true)
    (hq : ∀ t' k, Q (.str (Txt.join x texts) t') { s with toks := k }) : wpAny (model prog w) A (call (.builtin "str.join") [.str x t, .ref D]) Q E s :=
  join_ts (vs := xs.toList) (by simpa using hl) ht hok hq
end
theorem lines_ok {x y sep : Str} {l : List (Str × Tok)} (h1 : l.map (·.1) = Txt.split y sep) (h2 : ∀ a : Str, a ∈ l.map (·.1) → a.length ≤ y.length) (h3 : y.length ≤ x.length) (h4 : x.length ≤ 1000) : (l.map (·.1)).length ≤ 1002 ∧ ∀ a ∈ l.map (·.1), a.length ≤ 1000 := by
  refine ⟨?_, fun a ha => Nat.le_trans (h2 a ha) (Nat.le_trans h3 h4)⟩
  rw [h1]
  exact Nat.le_trans (split_count y sep) (by omega)
end Mine
namespace Mine
theorem News.keepHead {h₀ h : Heap} {L : Addr} {q : Addr × Obj} {rest news : List (Addr × Obj)} (N : News h₀ L h (q :: rest)) (hs : ∀ p ∈ news, p ∈ rest) : News h₀ L h ([q] ++ news) :=
  N.perm fun p hp => by
    rcases List.mem_append.mp hp with hp | hp
    · rw [List.mem_singleton.mp hp]; exact .head _
    · exact .tail _ (hs p hp)
theorem apart_of_lt {d : Addr} {l : List (Addr × Obj)} {o : Obj} (h : AllLt d l) : ∀ q ∈ [(d, o)], ∀ p ∈ l, p.1 ≠ q.1 := by
  intro q hq p hp
  rw [List.mem_singleton.mp hq]
  induction l with
  | nil => cases hp
  | cons r rest ih => rcases List.mem_cons.mp hp with rfl | hp
                      · exact Nat.ne_of_lt h.1
                      · exact ih h.2 hp
end Mine
namespace Mine
theorem meta_tuple : typeOf (.type "tuple") = pure (.type "type") := by kernel_rfl
theorem meta_str : typeOf (.type "str") = pure (.type "type") := by kernel_rfl
section
variable {prog : Program} {w : World} {A : Around} {E : Value → Shared → Prop} {s : Shared} {K : Frag} {h₀ : Heap} {L : Addr} {m : Str → Option Value} {name : Str} {v : Value}
theorem attr_type {T : String} {b : Bool} {Q : Value → Shared → Prop} (F : Fr h₀ L s.heap m) (X₀ : K.In h₀) (ht : typeOf (.type T) = pure (.type "type")) (hs : Manifest.isStub T = false)
    (e : findCls K (.type T) (.type "type") name = some (.val v)) (hh : handedIn v = true) (h : Q v { s with toks := s.toks + 1 }) : wpAny (model prog w) A (getAttr (.type T) name b) Q E s := by
  have X := X₀.keeps F.keep
  have hstub : opaqueClassAbove (.type T) = pure none := by unfold opaqueClassAbove; dsimp only; rw [hs]; rfl
  have L0 : Looks (model prog w) s.heap (typeOf (.type T)) (.type "type") := Looks.of_pure ht
  have hg : findIn K (.type "type") "__getattribute__" = some (some (.builtin "type.__getattribute__")) := type_tga
  have LO : Looks (model prog w) s.heap (opaqueClassAbove (.type T)) none := Looks.of_pure hstub
  refine cls_open X LO L0 hg (looks_hook X (r := none) (by rfl)) (by show subIn K _ _ = _; rfl) e
    (wpAny_pure (by show wpAny _ _ (handedOut v) _ _ _; rw [handedOut_of hh]; exact wpAny_pure h))
end
end Mine

namespace Mine
/-- as GivesR, of the call's code -/
def GivesC (r₀ : Nat) (prog : Program) (w : World) (f : Value) (vs : List Value) (Pre : List (Addr × Obj) → Prop) (Out : List (Addr × Obj) → Value → Prop) : Prop :=
  ∀ (p : Program) (loose : List Str) (mean : ExcName → Option Value) (mg mb : Str → Option Value)
    (dp un : Nat) (gd : Option (List Code)) (cn : Str) (cs : Scope) (a : Addr) (ccd : Value) (cl : List (Str × Addr)) (outer : List Env) (A₀ : Around) (base h₀ : Heap) (L : Addr) (m : Str → Option Value) (news : List (Addr × Obj)) (s : Shared) (R : Result → Shared → Prop),
    Below A₀ base outer h₀ → Fr h₀ L s.heap m → (hd.heap_39 w.params).In h₀ → News h₀ L s.heap news → Top p loose mean mg mb h₀ → cs.kind = .function → Pre news → dp + 10 * r₀ < recursionLimit → un + 80 * r₀ < cLine →
    (∀ (r : Value) (nw : List (Addr × Obj)) (h' : Heap) (tk' : Nat), Fr h₀ L h' m → News h₀ L h' (nw ++ news) → (∀ q ∈ nw, ∀ p ∈ news, p.1 ≠ q.1) → Out nw r → R (.ok (.ret r)) { s with heap := h', toks := tk' }) →
    codeAny (model prog w) (ktrTop dp un gd cn cs L a ccd cl outer) (.call f ⟨vs, []⟩) R s
section
variable {prog : Program} {w : World} {f : Value} {vs : List Value} {Pre : List (Addr × Obj) → Prop} {Out : List (Addr × Obj) → Value → Prop} {p : Program} {loose : List Str} {mean : ExcName → Option Value} {mg mb : Str → Option Value}
    {dp un : Nat} {gd : Option (List Code)} {cn : Str} {cs : Scope} {a : Addr} {ccd : Value} {cl : List (Str × Addr)} {outer : List Env} {A₀ : Around} {base h₀ : Heap} {L : Addr} {m : Str → Option Value} {news : List (Addr × Obj)} {s : Shared} {R : Result → Shared → Prop} {Q E : Value → Shared → Prop}
theorem GivesC.use {r₀ : Nat} (C : GivesC r₀ prog w f vs Pre Out) (B : Below A₀ base outer h₀) (F : Fr h₀ L s.heap m) (X : (hd.heap_39 w.params).In h₀) (N : News h₀ L s.heap news) (T : Top p loose mean mg mb h₀) (hk : cs.kind = .function) (hp : Pre news) (hd : dp + 10 * r₀ < recursionLimit) (hu : un + 80 * r₀ < cLine)
    (h : ∀ (r : Value) (nw : List (Addr × Obj)) (h' : Heap) (tk' : Nat), Fr h₀ L h' m → News h₀ L h' (nw ++ news) → (∀ q ∈ nw, ∀ p ∈ news, p.1 ≠ q.1) → Out nw r → R (.ok (.ret r)) { s with heap := h', toks := tk' }) :
    codeAny (model prog w) (ktrTop dp un gd cn cs L a ccd cl outer) (.call f ⟨vs, []⟩) R s := C _ _ _ _ _ _ _ _ _ _ _ _ _ _ _ _ _ _ _ _ _ _ B F X N T hk hp hd hu h
/-- called by way of a method object -/
theorem GivesC.meth {r₀ : Nat} {q : Addr} {f self : Value} {pos : List Value} (C : GivesC r₀ prog w f (self :: pos) Pre Out) (B : Below A₀ base outer h₀) (F : Fr h₀ L s.heap m) (X : (hd.heap_39 w.params).In h₀) (N : News h₀ L s.heap news) (hq : (q, methodObj f self) ∈ news) (T : Top p loose mean mg mb h₀) (hk : cs.kind = .function) (hp : Pre news) (hd : dp + 10 * r₀ < recursionLimit) (hu : un + 80 * r₀ < cLine)
    (h : ∀ (r : Value) (nw : List (Addr × Obj)) (h' : Heap) (tk' : Nat), Fr h₀ L h' m → News h₀ L h' (nw ++ news) → (∀ q ∈ nw, ∀ p ∈ news, p.1 ≠ q.1) → Out nw r → Q r { s with heap := h', toks := tk' }) :
    wpAny (model prog w) (ktrTop dp un gd cn cs L a ccd cl outer) (PySem.call (.ref q) pos) Q E s :=
  call_meth N hq (C.use B F X N T hk hp hd hu h)
end
end Mine
end


section
open PySem PySem.W PyProof.Rows PySem.Calls Builtin Builtin.ObjectAttr
set_option Elab.async false
set_option maxRecDepth 100000
namespace Mine
section
variable {prog : Program} {w : World} {A : Around} {s : Shared} {h₀ : Heap} {L : Addr} {m : Str → Option Value} {R : Result → Shared → Prop}
theorem codeC_call_builtin_at {id : String} {args : Args} {b : Builtin} (hq : (Code.builtin id args).quiet = true) (hb : entryFor table id = some b)
    (h : wpAny (model prog w) A.in1 (checkBuiltinCall id args) (fun _ s₁ => wpC (model prog w) (A.under (.builtin id args)) (b args)
      (fun fin s' => match fin with | .done f => R (.ok f) s' | .again c' => c'.quiet = true ∧ codeC (model prog w) A c' R s') (fun e s' => R (.error e) s') s₁)
      (fun e s' => R (.error e) s') s) : codeC (model prog w) A (.call (.builtin id) args) R s := by
  refine codeC_of_tree ?_
  show wpC _ A.in1 (do checkBuiltinCall id args; again (.builtin id args)) _ _ s
  refine wpC_pre (wpAny_mono h (fun _ s₁ h₁ => wpC_pure (And.intro hq (codeC_of_tree ?_))) fun _ _ h' => h')
  show wpC _ _ (match entryFor table id with | some b => b args | none => unsupported ((withoutEnding? id "#data").getD id)) _ _ s₁
  rw [hb]; exact h₁

abbrev refusal : String := "Pair.__new__() missing 1 required positional argument: 'value'"
theorem def_refuses {oc : Value} {od : Option Addr} {name qual : Str} {params : Arguments} {body : List Stmt} {scope : Scope} {dV kV doc pm cdv ct : Value} {an : Option Addr} {osl : Array (Option Value)} {f : Addr} {vs : List Value}
    (F : Fr h₀ L s.heap m) (X₀ : (hd.heap_39 w.params).In h₀)
    (ho : (hd.heap_39 w.params).lookup f = some ⟨oc, od, .func (fnOf name qual params body scope dV kV doc pm an cdv ct), osl⟩) (hcd : codeIn (hd.heap_39 w.params) cdv qual = true)
    (hb : wpC (model prog w) A.in1 (bindArgs (fnOf name qual params body scope dV kV doc pm an cdv ct) ⟨vs, []⟩) (fun _ _ => False) (fun e s' => R (.error e) s') s) :
    codeC (model prog w) A (.call (.ref f) ⟨vs, []⟩) R s := by
  have X := X₀.keeps F.keep
  obtain ⟨c, oco, cvs, tq, rfl, hoc, hdc, hq⟩ := codeRec_of X hcd
  refine codeC_of_tree ?_
  show wpC _ A.in1 (callAny (.ref f) _) _ _ s
  simp only [callAny]
  refine wpC_pre (wpAny_load (X _ _ ho) ?_)
  dsimp only
  unfold callFunction
  dsimp only
  refine wpC_pre (m := field (.ref c) 1) (wpAny_field hoc hdc hq (wpC_pre (wpAny_pure ?_)))
  exact wpC_bind (wpC_mono hb (fun _ _ x => x.elim) fun _ _ x => x)

theorem refuses_as {α : Type} {M : Model} {E : Value → Shared → Prop} {msg msg' : String} {Q : α → Shared → Prop} (e : msg = msg') (hm : (msg' : Str).length ≤ 1000) (hh : A.handled = none)
    (h : ∀ h' tk e, Heap.NewExc s.heap h' e "TypeError" → E (.ref e) { s with heap := h', toks := tk }) : wpC M A (theBinderRefuses msg : Sem α) Q E s := by
  subst e
  exact wpC_refuses hh h (Nat.le_trans hm (by rw [sizeLine_eq]; decide))
theorem wpC_if_so {α : Type} {M : Model} {E : Value → Shared → Prop} {c : Bool} {t e : Sem α} {Q : α → Shared → Prop} (hc : c = true) (h : wpC M A t Q E s) : wpC M A (if c = true then t else e) Q E s := by rw [if_pos hc]; exact h
theorem wpC_if_not {α : Type} {M : Model} {E : Value → Shared → Prop} {c : Bool} {t e : Sem α} {Q : α → Shared → Prop} (hc : c = false) (h : wpC M A e Q E s) : wpC M A (if c = true then t else e) Q E s := by rw [if_neg (by rw [hc]; exact Bool.false_ne_true)]; exact h
theorem wpC_pb {α β : Type} {M : Model} {E : Value → Shared → Prop} {a : α} {f : α → Sem β} {Q : β → Shared → Prop} (h : wpC M A (f a) Q E s) : wpC M A (pure a >>= f) Q E s := wpC_pre (wpAny_pure h)
theorem wpC_rb {β : Type} {M : Model} {E : Value → Shared → Prop} {r : String} {f : Unit → Sem β} {Q : β → Shared → Prop} (h : wpC M A (f ()) Q E s) : wpC M A (rule r >>= f) Q E s := wpC_pre (wpAny_rule h)
set_option maxHeartbeats 2000000 in
noncomputable def bindMissing : {f : FuncData → List Str → String // ∀ (prog : Program) (w : World) (A : Around) (s : Shared) (fd : FuncData) (vs : List Value) (ml : List Str) (Q : List (Str × Value) → Shared → Prop) (E : Value → Shared → Prop) (_ : fd.defaults = .none)
    (_ : (decide (vs.length > (fd.params.posonlyargs.map (·.arg) ++ fd.params.args.map (·.arg)).length) && fd.params.vararg.isNone) = false)
    (_ : (((fd.params.posonlyargs.map (·.arg) ++ fd.params.args.map (·.arg)).take ((fd.params.posonlyargs.map (·.arg) ++ fd.params.args.map (·.arg)).length - 0)).filter fun n => (((fd.params.posonlyargs.map (·.arg) ++ fd.params.args.map (·.arg)).zip vs).lookup n).isNone) = ml)
    (_ : ml.isEmpty = false)
    (_ : wpC (model prog w) A (theBinderRefuses (f fd ml) : Sem PUnit) (fun _ _ => False) E s),
    wpC (model prog w) A (bindArgs fd ⟨vs, []⟩) Q E s} := by
  apply Subtype.mk
  intro prog w A s fd vs ml Q E hdf h1 hml hne h
  unfold bindArgs
  dsimp only
  simp only [List.forIn_nil, hdf]
  refine wpC_pb ?_
  have e0 : seqItems? Value.none = pure none := rfl
  rw [e0]
  refine wpC_pb ?_
  simp only [Option.getD_none, List.drop_nil, List.length_nil, List.toList_toArray, hml]
  refine wpC_if_not h1 ?_
  refine wpC_if_so (by rw [hne]; rfl) ?_
  refine wpC_rb (wpC_bind ?_)
  exact wpC_mono h (fun _ _ x => x.elim) fun _ _ x => x
theorem new_refuses (F : Fr h₀ L s.heap m) (X₀ : (hd.heap_39 w.params).In h₀) (hh : A.handled = none) {v : Value} (h : ∀ h' tk e, Heap.NewExc s.heap h' e "TypeError" → R (.error (.ref e)) { s with heap := h', toks := tk }) :
    codeC (model prog w) A (.call (.ref 96) ⟨[.ref 169, v], []⟩) R s := by
  w_top off
  refine' def_refuses F X₀ ?ho ?hc ?hb
  case ho => k_is
  case hc => k_is
  case hb =>
    refine bindMissing.2 _ _ _ _ _ _ ["value"] _ _ (by kernel_rfl) (by kernel_rfl) (by kernel_rfl) (by kernel_rfl) ?_
    refine refuses_as (msg' := refusal) ?_ ?_ ?_ ?_
    · kernel_rfl
    · decide +kernel
    · exact hh
    · exact h

set_option maxHeartbeats 1000000 in
theorem pair_refuses (F : Fr h₀ L s.heap m) (X₀ : (hd.heap_39 w.params).In h₀) (hh : A.handled = none) {v : Value} (h : ∀ h' tk e, Heap.NewExc s.heap h' e "TypeError" → R (.error (.ref e)) { s with heap := h', toks := tk }) :
    codeC (model prog w) A (.call (.ref 169) ⟨[v], []⟩) R s := by
  have X := X₀.keeps F.keep
  obtain ⟨oc, od, cd, sl, hC⟩ := pk_obj169 X
  have made := pk_made (M := model prog w) X
  have call := pk_call (M := model prog w) X
  have typ := pk_inst (M := model prog w) X
  have hm := pk_mro (M := model prog w) X
  refine codeC_of_tree ?_
  show wpC _ A.in1 (callAny (.ref 169) _) _ _ _
  simp only [callAny]
  refine wpC_pre (wpAny_load hC ?_)
  show wpC _ _ (callAny.viaDunder (.ref 169) _) _ _ _
  unfold callAny.viaDunder
  refine wpC_pre (call.here ?_)
  dsimp only
  rw [tc_bind]
  refine wpC_bind (wpC_pure (wpC_bind (wpC_pure ?_)))
  refine wpC_pure (a := Fin.again (.call (.builtin "type.__call__") ⟨.ref 169 :: [v], []⟩)) (And.intro rfl ?_)
  refine codeC_call_builtin_at (Code.quiet_builtin _ (by decide +kernel)) entry_typeCall (@check_slot (model prog w) _ _ s "type.__call__" "type" "__call__" (.ref 169) [v] [] _ tc_kind tc_split typ (tc_args _ _ _) ?_)
  unfold Builtin.«type.__call__»
  dsimp only
  show wpC _ _ (mroOf (.ref 169) >>= _) _ _ _
  refine wpC_pre (hm.here ?_)
  simp only [List.isEmpty_cons, Bool.false_eq_true, if_false]
  refine wpC_pre (made.here ?_)
  dsimp only
  refine wpC_pre ?_
  refine cls_sm (K := hd.heap_39 w.params) F X₀ (mc := .type "type") (p := 147) (f := .ref 96) (rest := []) (by kernel_rfl) (by kernel_rfl) (by kernel_rfl) (by kernel_rfl) (by kernel_rfl) ?_
  refine wpC_bind (wpC_holding (wpC_call ?_))
  refine new_refuses (s := { s with toks := s.toks + 1 }) F X₀ (by exact hh) (fun h' tk e x => ?_)
  exact h h' tk e x
end
end Mine
end


section
open PySem PySem.W PyProof.Rows PySem.Calls
set_option Elab.async false
set_option maxRecDepth 100000
namespace Mine
section
variable {prog : Program} {w : World} {M : Model} {A : Around} {E : Value → Shared → Prop} {s : Shared} {env : Env}

theorem wpC_execs {st : Stmt} {rest : List Stmt} {Q : Flow → Shared → Prop} (h : wpC M A (exec st env) (fun f s' => match f with | .next => wpC M A (execs rest env) Q E s' | f => Q f s') E s) :
    wpC M A (execs (st :: rest) env) Q E s := by
  rw [execs_cons]
  refine wpC_bind (wpC_mono h (fun f s' h' => ?_) fun _ _ x => x)
  cases f <;> first | exact h' | exact wpC_pure h'
/-- a statement that needs no caller, ahead of the rest -/
theorem wpC_execsA {st : Stmt} {rest : List Stmt} {Q : Flow → Shared → Prop} (h : wpAny M A (exec st env) (fun f s' => match f with | .next => wpC M A (execs rest env) Q E s' | f => Q f s') E s) :
    wpC M A (execs (st :: rest) env) Q E s := wpC_execs (.of h)
theorem wpC_Assign {x : Str} {pos' pos : Pos} {value : Expr} {Q : Flow → Shared → Prop} (h : wpC M A (eval value env) (fun v s₁ => wpAny M A (storeName env x v) (fun _ => Q .next) E s₁) E s)
    (hs : swapsWith value (some (.Name x pos')) pos.line env = pure false := by rfl) : wpC M A (exec (.Assign [.Name x pos'] value pos) env) Q E s := by
  rw [exec_Assign_Name env x pos' value pos hs]
  refine wpC_pre (wpAny_standAt (wpC_bind (wpC_mono h (fun v s₁ h₁ => wpC.of (wpAny_bind (wpAny_standAt (wpAny_bind (wpAny_bindName (wpAny_mono h₁ (fun _ _ q => wpAny_pure q) fun _ _ x => x)))))) fun _ _ x => x)))
theorem wpC_Return {e : Expr} {pos : Pos} {Q : Flow → Shared → Prop} (h : wpC M A (eval e env) (fun v => Q (.ret v)) E s) : wpC M A (exec (.Return (some e) pos) env) Q E s := by
  rw [exec_Return_some]
  exact wpC_pre (wpAny_standAt (wpC_bind (wpC_mono h (fun _ _ q => wpC_pure q) fun _ _ x => x)))
theorem wpC_If {test : Expr} {body orelse : List Stmt} {pos : Pos} {Q : Flow → Shared → Prop} (h : wpC M A (isTrue test env (eval test env)) (fun b s₂ => if b = true then wpC M A (execs body env) Q E s₂ else wpC M A (execs orelse env) Q E s₂) E s) :
    wpC M A (exec (.If test body orelse pos) env) Q E s := by
  rw [exec_If]
  refine wpC_pre (wpAny_standAt (wpC_bind (wpC_mono h (fun b s₂ h₂ => ?_) fun _ _ x => x)))
  cases b with
  | false => simpa using h₂
  | true => simpa using h₂
theorem wpC_Compare1 {l r : Expr} {op : CmpOp} {pos : Pos} {whole : Sem Value} {Q : Bool → Shared → Prop}
    (h : wpC M A (eval l env) (fun a s₁ => wpAny M A (eval r env) (fun b s₂ => wpAny M A (compareOp op a b) (fun c s₃ => wpAny M A (truthy c) Q E s₃) E s₂) E s₁) E s)
    (hm : behindInMarks op r = false := by with_unfolding_all rfl) : wpC M A (isTrue (.Compare l [op] [r] pos) env whole) Q E s := by
  rw [isTrue_Compare1, markedBehindIn_of_false hm]
  refine wpC_bind (wpC_mono h (fun a s₁ h₁ => ?_) fun _ _ x => x)
  refine wpC.of (wpAny_bind (wpAny_holding (wpAny_mono h₁ (fun b s₂ h₂ => ?_) fun _ _ x => x)))
  exact wpAny_bind (wpAny_standAt (wpAny_bind (wpAny_operating (wpAny_mono h₂ (fun c s₃ h₃ => wpAny_holding h₃) fun _ _ x => x))))
theorem wpC_And2 {x y : Expr} {pos : Pos} {Q : Value → Shared → Prop}
    (h : wpC M A (eval x env) (fun v s₁ => wpAny M A (truthy v) (fun t s₂ => if t = true then wpC M A (eval y env) Q E s₂ else Q v s₂) E s₁) E s) : wpC M A (eval (.BoolOp .And [x, y] pos) env) Q E s := by
  show wpC M A (do
    let v ← eval x env
    standAt pos
    let t ← holding [v] (truthy v)
    match BoolOp.And, t with
    | .And, false | .Or, true => pure v
    | _, _ => boolOp pos .And [eval y env]) Q E s
  refine wpC_bind (wpC_mono h (fun v s₁ h₁ => wpC_pre (wpAny_standAt (wpC_pre (wpAny_holding (wpAny_mono h₁ (fun t s₂ h₂ => ?_) fun _ _ x => x))))) fun _ _ x => x)
  cases t with
  | false => exact wpC_pure h₂
  | true => exact h₂
theorem wpC_Call {func : Expr} {args : List Expr} {pos : Pos} {Q : Value → Shared → Prop} (h : wpAny M A (eval func env) (fun f s₁ => wpC M A (callWith pos f [] (backTo pos (starEach args env)) []) Q E s₁) E s)
    (he : eval (.Call func args [] pos) env = (do callWith pos (← eval func env) [] (backTo pos (starEach args env)) (backToKw pos (keywordEach [] env))) := by rfl) : wpC M A (eval (.Call func args [] pos) env) Q E s := by
  rw [he]; exact wpC_pre h
theorem wpC_callWith {P : Heap → Prop} {pos : Pos} {f : Value} {first : List Value} {Q : Value → Shared → Prop} {args : List (Bool × Sem Value)} {keywords : List (Option Str × Sem Value)} (hplain : (args.any (·.1) || keywords.any (·.1.isNone)) = false)
    (hk : ∀ h, P h → ∃ k, (k = Keeper.frame ∨ k = Keeper.machine ∨ k = Keeper.boundFrame) ∧ Looks M h (keeperOf f) k)
    (h : wpAny M A (evalArgs f true args keywords) (fun a s₁ => P s₁.heap ∧ wpC M A (call f (first ++ a.pos) a.kw) Q E s₁) E s) : wpC M A (callWith pos f first args keywords) Q E s := by
  unfold callWith
  refine wpC_pre (wpAny_holding (wpAny_mono h (fun a s₁ h₁ => wpC_pre (wpAny_standAt ?_)) fun _ _ x => x))
  obtain ⟨k, hk', L⟩ := hk _ h₁.1
  simp only [hplain]
  refine wpC_pre (L.here ?_)
  have tail : ∀ {t : Sem Value}, wpC M A t Q E s₁ → wpC M A (t >>= fun r => holding [r] point >>= fun _ => pure r) Q E s₁ :=
    fun ht => wpC_bind (wpC_mono ht (fun r s₂ hr => wpC_pre (wpAny_holding (wpAny_point (wpC_pure hr)))) fun _ _ x => x)
  have marked (mk : Value) : wpC M A (callMarked mk f (first ++ a.pos) a.kw) Q E s₁ := by unfold callMarked; exact wpC_keep h₁.2
  rcases hk' with rfl | rfl | rfl <;> dsimp only <;> first | exact tail h₁.2 | (split <;> first | exact tail h₁.2 | exact tail (marked _))
theorem wpC_callK {K : Frag} {h₀ : Heap} {pos : Pos} {f : Value} {first : List Value} {Q : Value → Shared → Prop} {e : Expr} {rest : List Expr} (_X : K.In h₀) (hk : keepIn K f = true) (h : wpAny M A (spliced (backTo pos (starEach (e :: rest) env))) (fun vs s₁ => K.In s₁.heap ∧ wpC M A (call f (first ++ vs)) Q E s₁) E s)
    (he : starEach (e :: rest) env = (false, eval e env) :: starEach rest env := by rfl) (hplain : (backTo pos (starEach rest env)).any (·.1) = false := by rfl) :
    wpC M A (callWith pos f first (backTo pos (starEach (e :: rest) env)) []) Q E s := by
  rw [he] at h ⊢
  exact wpC_callWith (by show ((false || (backTo pos (starEach rest env)).any (·.1)) || false) = false; rw [hplain]; rfl) (keeps_K hk) (evalArgs_plain h)
theorem wpC_callM {K : Frag} {h₀ : Heap} {L : Addr} {news : List (Addr × Obj)} {q g : Addr} {self : Value} {pos : Pos} {first : List Value} {Q : Value → Shared → Prop} {e : Expr} {rest : List Expr} (_X : K.In h₀) (_N : News h₀ L s.heap news) (_q : (q, methodObj (.ref g) self) ∈ news) (hf : fnIn K g = true)
    (h : wpAny M A (spliced (backTo pos (starEach (e :: rest) env))) (fun vs s₁ => MethP K q g self s₁.heap ∧ wpC M A (call (.ref q) (first ++ vs)) Q E s₁) E s)
    (he : starEach (e :: rest) env = (false, eval e env) :: starEach rest env := by rfl) (hplain : (backTo pos (starEach rest env)).any (·.1) = false := by rfl) :
    wpC M A (callWith pos (.ref q) first (backTo pos (starEach (e :: rest) env)) []) Q E s := by
  rw [he] at h ⊢
  exact wpC_callWith (by show ((false || (backTo pos (starEach rest env)).any (·.1)) || false) = false; rw [hplain]; rfl) (keeps_M hf) (evalArgs_plain h)
theorem wpC_methodCall {o : Expr} {name : Str} {apos pos : Pos} {args : List Expr} {pl : Sem Bool} {Q : Value → Shared → Prop}
    (h : wpAny M A (eval o env) (fun ov s₁ => wpAny M A (getMethod ov name pl) (fun fx s₂ => wpC M A (callWith pos fx.1 fx.2 (backTo pos (starEach args env)) []) Q E s₂) E s₁) E s)
    (he : eval (.Call (.Attribute o name apos) args [] pos) env = (do
      let ov ← eval o env
      standAt apos.atName
      let (f, first) ← holding [ov] (getMethod ov name pl)
      callWith pos f first (backTo pos (starEach args env)) (backToKw pos (keywordEach [] env))) := by rfl) :
    wpC M A (eval (.Call (.Attribute o name apos) args [] pos) env) Q E s := by
  rw [he]
  refine wpC_pre (wpAny_mono h (fun ov s₁ h₁ => wpC_pre (wpAny_standAt (wpC_pre (wpAny_holding (wpAny_mono h₁ (fun fx s₂ h₂ => ?_) fun _ _ x => x))))) fun _ _ x => x)
  exact h₂
theorem wpC_Try {body orelse : List Stmt} {h₀ : ExceptHandler} {hs : List ExceptHandler} {pos : Pos} {Q : Flow → Shared → Prop}
    (h : wpC M A (execs body env) (fun f s₁ => match f with | .next => wpAny M A (execs orelse env) Q E s₁ | f => Q f s₁)
      (fun e s₁ => wpAny M A (noteFrame e env) (fun _ s₂ => wpAny M A (setFlight e none) (fun _ s₃ => wpAny M A (handleBy e env (h₀ :: hs)) Q E s₃) E s₂) E s₁) s) :
    wpC M A (exec (.Try body (h₀ :: hs) orelse [] pos) env) Q E s := by
  rw [arm_exec_Try]
  refine wpC_pre (wpAny_standAt ?_)
  unfold tryStmt
  simp only [List.isEmpty_nil, if_true, List.isEmpty_cons, Bool.false_and, Bool.false_eq_true, if_false]
  refine wpC_bind (wpC_attempt (wpC_mono h (fun f s₁ h₁ => ?_) fun e s₁ h₁ => ?_))
  · cases f <;> first | exact wpC.of h₁ | exact wpC_pure h₁
  · exact wpC.of (wpAny_bind (wpAny_mono h₁ (fun _ _ h₂ => wpAny_bind h₂) fun _ _ x => x))
end
end Mine
end


section
open PySem PySem.W PyProof.Rows PySem.Calls
set_option Elab.async false
set_option maxRecDepth 100000
namespace Mine
section
variable {prog : Program} {w : World} {A A₀ : Around} {E : Value → Shared → Prop} {s : Shared} {env : Env} {R : Result → Shared → Prop}
theorem wpC_onRaiseF {α : Type} {M : Model} {t : Sem α} {k : Value → Sem Unit} {Q : α → Shared → Prop} (h : wpC M A t Q (fun _ _ => False) s) : wpC M A (t.onRaise k) Q E s := wpC_onRaise (wpC_mono h (fun _ _ q => q) fun _ _ (x : False) => x.elim)
theorem wpAny_onRaiseF {α : Type} {M : Model} {t : Sem α} {k : Value → Sem Unit} {Q : α → Shared → Prop} (h : wpAny M A t Q (fun _ _ => False) s) : wpAny M A (t.onRaise k) Q E s := wpAny_onRaise (wpAny_mono h (fun _ _ q => q) fun _ _ (x : False) => x.elim)
theorem codeC_func {body : List Stmt}
    (h : wpC (model prog w) (A.deeper env) (execs body env) (fun f s' => R (.ok (.ret (match f with | .ret v => v | _ => .none))) s')
      (fun e s' => wpAny (model prog w) (A.deeper env) (leaving env e) (fun _ s'' => R (.error e) s'') (fun e' s'' => R (.error e') s'') s') s) : codeC (model prog w) A (.func body env) R s := by
  refine codeC_of_tree ?_
  show wpC _ (A.deeper env) (do point; match ← (execs body env).onRaise (leaving env) with | .ret v => ret v | _ => ret .none) _ _ s
  refine wpC_pre (wpAny_point (wpC_bind ?_))
  refine fun Γ p hΓ hl => ?_
  rw [Sem.wp_onRaise]
  refine Sem.wp_mono _ Γ _ (fun f p' s' h' => ?_) (fun e p' s' h' => h' Γ p' hΓ) p s (h Γ p hΓ hl)
  cases f <;> exact (wpC_pure h' : wpC (model prog w) (A.deeper env) (pure _) _ (fun e s' => R (.error e) s') s')
theorem codeC_call_function {a : Addr} {args : Args} {o : Obj} {fd : FuncData} {body : List Stmt} (hroom : A.depth < recursionLimit) (ho : s.heap.get? a = some o)
    (hd' : o.data = .func fd) (hco : fd.scope.isCoroutine = false) (hgen : fd.scope.isGenerator = false) (hbody : fd.body = .stmts body) (hcd : s.heap.CodeRec fd.code fd.qualname)
    (h : wpAny (model prog w) A.in1 (bindArgs fd args) (fun binds s₁ =>
      wpAny (model prog w) A.in1 (newFunctionEnv fd.scope fd.globals fd.closure binds (fd.qualname ++ ".<locals>.") (some a) fd.code none fd.builtins)
        (fun env s₂ => s₂.heap.NoLimit ∧ codeC (model prog w) A (.func body env) R s₂) (fun e s' => R (.error e) s') s₁) (fun e s' => R (.error e) s') s) :
    codeC (model prog w) A (.call (.ref a) args) R s := by
  refine codeC_of_tree ?_
  show wpC _ A.in1 (callAny (.ref a) args) _ _ s
  simp only [callAny]
  refine wpC_pre (wpAny_load ho ?_)
  obtain ⟨c, oc, vs, tq, hc, hoc, hdc, hq⟩ := hcd
  simp only [hd', callFunction, hco, hgen, hbody, hc]
  rw [hc] at h
  refine wpC_pre (m := field (.ref c) 1) (wpAny_field hoc hdc hq (wpC_pre (wpAny_pure ?_)))
  exact wpC_pre (wpAny_mono h (fun binds s₁ h₁ => wpC_pre (wpAny_mono h₁ (fun env s₂ h₂ => wpC_pre (wpAny_enterFrame h₂.1 hroom
    (wpC_pure (And.intro rfl h₂.2)))) fun _ _ h' => h')) fun _ _ h' => h')
theorem methodC {p : Addr} {f self : Value} {pos : List Value} {kw : List (Str × Value)} (ho : s.heap.get? p = some (methodObj f self))
    (h : codeC (model prog w) A (.call f ⟨self :: pos, kw⟩) R s) : codeC (model prog w) A (.call (.ref p) ⟨pos, kw⟩) R s := by
  refine codeC_of_tree ?_
  show wpC _ _ (callAny (.ref p) _) _ _ _
  simp only [callAny]
  refine wpC_pre (wpAny_load ho ?_)
  cases f <;> exact wpC_pure ⟨rfl, h⟩
variable {K : Frag} {L : Addr} {h₀ base : Heap} {m mg mb : Str → Option Value} {news : List (Addr × Obj)} {p : Program} {loose : List Str} {mean : ExcName → Option Value}
theorem codeC_def {outer : List Env} {name qual : Str} {params : Arguments} {body : List Stmt} {scope : Scope} {dV kV doc pm cdv ct oc : Value} {an od : Option Addr} {osl : Array (Option Value)} {f : Addr} {args : Args} {binds : List (Str × Value)}
    (B : Below A₀ base outer h₀) (F : Fr h₀ L s.heap m) (X₀ : K.In h₀) (N : News h₀ L s.heap news) (T : Top p loose mean mg mb h₀) (hA : A.frames = some (env :: outer)) (hf : env.frame = some L) (hke : env.scope.kind = .function)
    (ho : K.lookup f = some ⟨oc, od, .func (fnOf name qual params body scope dV kV doc pm an cdv ct), osl⟩) (hcd : codeIn K cdv qual = true) (hroom : A.depth < recursionLimit)
    (hbind : BindsTo s (fnOf name qual params body scope dV kV doc pm an cdv ct) args binds) (hloc : ∀ y ∈ binds, scope.names.lookup y.1 = some .local)
    (h : ∀ g L' h₁, Fr h₀ L g m → Fr g L' h₁ (fun y => binds.reverse.lookup y) → News g L' h₁ news → Below A base (env :: outer) g → K.In g → Top p loose mean mg mb g →
      wpC (model prog w) (A.deeper (envOf qual scope L' f cdv)) (execs body (envOf qual scope L' f cdv))
        (fun fl s' => LeaveK h₀ L m g R (match fl with | .ret v => v | _ => .none) s')
        (fun e s' => wpAny (model prog w) (A.deeper (envOf qual scope L' f cdv)) (leaving (envOf qual scope L' f cdv) e) (fun _ s'' => R (.error e) s'') (fun e' s'' => R (.error e') s'') s')
        { s with heap := h₁, toks := s.toks + binds.length })
    (hco : scope.isCoroutine = false) (hgen : scope.isGenerator = false) (hk : scope.kind = .function)
    (hcell : ∀ x ∈ scope.names, x.2 ≠ .cell) : codeC (model prog w) A (.call (.ref f) args) R s := by
  obtain ⟨FG, BG, st, lv⟩ := groundX (R := R) B F N hA hf hke
  refine codeC_call_function (fd := fnOf name qual params body scope dV kV doc pm an cdv ct) (body := body) hroom ((X₀.keeps F.keep) _ _ ho) rfl hco hgen rfl (codeRec_of (X₀.keeps F.keep) hcd) ?_
  refine hbind _ _ _ _ ?_
  refine wpAny_newFunctionEnv hcell hloc (fun h₁ hns hsb => ⟨(T.nolimit.keeps F.keep).fresh _ hsb, codeC_func ?_⟩) hk
  have hk₁ : ∀ b o, s.heap.get? b = some o → h₁.get? b = some o := fun b o e => hsb.extBut b o (Nat.ne_of_lt (Heap.lt_size e)) (Heap.get?_push_of_some _ e)
  exact wpC_mono (h _ s.heap.objs.size h₁ FG ⟨hns, fun b o e => hk₁ b o (of_hideAll _ e), Nat.le_of_eq (hideAll_size _ _)⟩
    (fun p hp => ⟨hk₁ _ _ (N p hp).1, Nat.ne_of_lt (Heap.lt_size (N p hp).1), hideAll_none _ (List.mem_map_of_mem hp)⟩) BG (X₀.keeps st) (T.keeps st)) (fun fl s' hl => lv _ _ hl) fun _ _ y => y
/-- one turn of a for, under the caller -/
theorem codeC_forTurn {x : Str} {xp : Pos} {it : Value} {body : List Stmt}
    (h : wpAny (model prog w) A (pyNext it) (fun r s₁ => match r with
      | none => R (.ok .next) s₁
      | some v => wpAny (model prog w) A (storeName env x v) (fun _ s₂ => wpC (model prog w) A (execs body env) (fun f s₃ => match f with
            | .next | .cont => codeC (model prog w) A (.forLoop (.Name x xp) it body [] env) R s₃
            | .brk => R (.ok .next) s₃
            | .ret v => R (.ok (.ret v)) s₃) (fun _ _ => False) s₂) (fun _ _ => False) s₁) (fun _ _ => False) s) :
    codeC (model prog w) A (.forLoop (.Name x xp) it body [] env) R s := by
  refine codeC_of_tree ?_
  show wpC _ A ((forTurn (.Name x xp) it body [] env).onRaise (fun x => do noteFrame x env; theTreesLotGoes x)) _ _ s
  refine wpC_onRaiseF ?_
  simp only [forTurn]
  refine wpC_pre (wpAny_standAt (wpC_pre (wpAny_onRaiseF (wpAny_mono h (fun r s₁ h₁ => ?_) fun _ _ h' => h'))))
  cases r with
  | none => exact wpC_pure ⟨rfl, codeC.of (codeAny_block (wpAny_execs_nil h₁))⟩
  | some v =>
    refine wpC_pre (wpAny_of_eq (a := ()) rfl ?_)
    refine wpC_pre (wpAny_assign_Name (wpAny_mono h₁ (fun _ s₂ h₂ => wpC_bind (wpC_mono h₂ (fun f s₃ h₃ => ?_) fun _ _ h' => h')) fun _ _ h' => h'))
    cases f with
    | next => exact wpC_pure ⟨rfl, h₃⟩
    | cont => exact wpC_pure ⟨rfl, h₃⟩
    | brk => exact wpC_pure h₃
    | ret v => exact wpC_pure h₃
theorem wpC_For {target iter : Expr} {body : List Stmt} {pos : Pos} {Q : Flow → Shared → Prop}
    (h : wpAny (model prog w) A (eval iter env) (fun x s₁ => wpAny (model prog w) A (pyIter x) (fun it s₂ =>
      codeC (model prog w) A (.forLoop target it body [] env) (fun r s' => match r with | .ok f => Q f s' | .error _ => False) s₂) E s₁) E s)
    (hs : ∀ x, foldedSetIterable iter env x = pure x := by intro _; rfl) : wpC (model prog w) A (exec (.For target iter body [] pos) env) Q E s := by
  rw [exec_For]
  refine wpC_pre (wpAny_standAt (wpC_pre (wpAny_mono h (fun x s₁ h₁ => wpC_pre (wpAny_of_eq (hs x) (wpC_pre (wpAny_standAt (wpC_pre (wpAny_holding (wpAny_mono h₁ (fun it s₂ h₂ => ?_) fun _ _ h' => h'))))))) fun _ _ h' => h')))
  unfold runOwn
  refine wpC_onRaiseF (wpC_run (codeC_mono h₂ fun r s' q => ?_))
  cases r with
  | ok f => exact q
  | error e => exact q.elim
end
end Mine
end


section
open PySem PySem.W PyProof.Rows PySem.Calls
set_option Elab.async false
namespace Mine
abbrev white : Str := Str.ofString " \t\x0b\x0c\x0d\x1c\x1d\x1e\x1f\u0085\u00a0\u1680\u2000\u2001\u2002\u2003\u2004\u2005\u2006\u2007\u2008\u2009\u200a\u2028\u2029\u202f\u205f\u3000"
def tl (x : Str) : List Nat := x.cps.toList
theorem tl_ext {x y : Str} (h : tl x = tl y) : x = y := Str.ext' (Array.toList_inj.mp h)
theorem tl_append (x y : Str) : tl (x ++ y) = tl x ++ tl y := by
  unfold tl; rw [Str.cps_append, Array.toList_append]
theorem tl_length (x : Str) : (tl x).length = x.length := by simp [tl, Str.length]
theorem tl_mk (l : List Nat) : tl ⟨l.toArray⟩ = l := by simp [tl]
def rtrim (p : Nat → Bool) (l : List Nat) : List Nat := (l.reverse.dropWhile p).reverse
def trim (p : Nat → Bool) (l : List Nat) : List Nat := rtrim p (l.dropWhile p)
theorem dropWhile_at {p : Nat → Bool} : ∀ {l : List Nat} {i : Nat}, i ≤ l.length → (∀ k, k < i → p (l.getD k 0) = true) → (i = l.length ∨ p (l.getD i 0) = false) → l.dropWhile p = l.drop i
  | [], i, hi, _, _ => by simp at hi; subst hi; rfl
  | a :: r, 0, _, _, h => by
    rcases h with h | h
    · simp at h
    · rw [List.dropWhile_cons, if_neg (by simpa using h)]; rfl
  | a :: r, i + 1, hi, h1, h2 => by
    have ha := h1 0 (by omega)
    rw [List.dropWhile_cons, if_pos (by simpa using ha), List.drop_succ_cons]
    refine dropWhile_at (by simpa using hi) (fun k hk => ?_) ?_
    · have := h1 (k + 1) (by omega)
      simpa using this
    · rcases h2 with h | h
      · exact .inl (by simpa using h)
      · exact .inr (by simpa using h)
theorem rev_getD' (l : List Nat) (j : Nat) (h : j < l.length) : l.reverse.getD j 0 = l.getD (l.length - 1 - j) 0 := by
  simp [List.getD, List.getElem?_reverse h]
theorem rtrim_at {p : Nat → Bool} {l : List Nat} {j : Nat} (hj : j ≤ l.length) (h1 : ∀ k, j ≤ k → k < l.length → p (l.getD k 0) = true) (h2 : j = 0 ∨ p (l.getD (j - 1) 0) = false) : rtrim p l = l.take j := by
  unfold rtrim
  have e := dropWhile_at (p := p) (l := l.reverse) (i := l.length - j) (by simp) (fun k hk => by
      rw [rev_getD' _ _ (by omega)]
      exact h1 _ (by omega) (by omega)) (by
      rcases h2 with h | h
      · exact .inl (by rw [List.length_reverse]; omega)
      · by_cases hz : j = 0
        · exact .inl (by rw [List.length_reverse]; omega)
        · refine .inr ?_
          rw [rev_getD' _ _ (by omega)]
          have e : l.length - 1 - (l.length - j) = j - 1 := by omega
          rw [e]; exact h)
  rw [e, List.drop_reverse, List.reverse_reverse]
  congr 1
  omega
theorem trim_at {p : Nat → Bool} {l : List Nat} {i j : Nat} (hij : i ≤ j) (hj : j ≤ l.length) (h1 : ∀ k, k < i → p (l.getD k 0) = true) (h2 : ∀ k, j ≤ k → k < l.length → p (l.getD k 0) = true)
    (h3 : i = j ∨ (p (l.getD i 0) = false ∧ p (l.getD (j - 1) 0) = false)) : trim p l = (l.drop i).take (j - i) := by
  unfold trim
  rcases h3 with h | ⟨h, h'⟩
  · subst h
    rw [dropWhile_at (i := l.length) (Nat.le_refl _) (fun k hk => ?_) (.inl rfl)]
    · simp [rtrim]
    · by_cases hk' : k < i
      · exact h1 k hk'
      · exact h2 k (by omega) hk
  · by_cases hij' : i = j
    · subst hij'
      rw [dropWhile_at (i := l.length) (Nat.le_refl _) (fun k hk => ?_) (.inl rfl)]
      · simp [rtrim]
      · by_cases hk' : k < i
        · exact h1 k hk'
        · exact h2 k (by omega) hk
    · rw [dropWhile_at (by omega) h1 (.inr h)]
      have g : ∀ k, (l.drop i).getD k 0 = l.getD (i + k) 0 := fun k => by simp [List.getD]
      refine rtrim_at (by rw [List.length_drop]; omega) (fun k hk hk' => ?_) (.inr ?_)
      · rw [g]; rw [List.length_drop] at hk'; exact h2 _ (by omega) (by omega)
      · rw [g]; have e : i + (j - i - 1) = j - 1 := by omega
        rw [e]; exact h'

theorem tl_getD (x : Str) (k : Nat) : (tl x).getD k 0 = x.cps.getD k 0 := getD_list x k
theorem strip_eq (x : Str) : tl (Txt.strip x) = trim Unicode.isSpace (tl x) := by
  unfold Txt.strip
  rw [PyProof.Rows.stripBy_eq]
  obtain ⟨a1, a2, a3⟩ := lo_facts Unicode.isSpace x
  obtain ⟨b1, b2, b3, b4⟩ := hi_facts Unicode.isSpace x _ a1
  show (Builtin.Str.strSub x _ _).cps.toList = _
  rw [StrLaws.strSub_toList]
  refine (trim_at (l := tl x) b1 (by rw [tl_length]; exact b2) (fun k hk => ?_) (fun k hk hk' => ?_) ?_).symm
  · rw [tl_getD]; exact a2 k hk
  · rw [tl_getD]; exact b3 k hk (by rwa [tl_length] at hk')
  · rcases b4 with h | h
    · exact .inl h.symm
    · by_cases e : stripLo Unicode.isSpace true x = stripHi Unicode.isSpace true x (stripLo Unicode.isSpace true x)
      · exact .inl e
      · refine .inr ⟨?_, by rw [tl_getD]; exact h⟩
        rcases a3 with h' | h'
        · omega
        · rw [tl_getD]; exact h'
theorem rstrip_eq (x : Str) : tl (Txt.rstrip x) = rtrim Unicode.isSpace (tl x) := by
  unfold Txt.rstrip
  rw [PyProof.Rows.stripBy_eq]
  have e : stripLo Unicode.isSpace false x = 0 := rfl
  rw [e]
  obtain ⟨b1, b2, b3, b4⟩ := hi_facts Unicode.isSpace x 0 (Nat.zero_le _)
  show (Builtin.Str.strSub x _ _).cps.toList = _
  rw [StrLaws.strSub_toList]
  rw [rtrim_at (j := stripHi Unicode.isSpace true x 0) (by rw [tl_length]; exact b2) (fun k hk hk' => by rw [tl_getD]; exact b3 k hk (by rwa [tl_length] at hk')) (by rw [tl_getD]; exact b4)]
  rfl
def whiteL : List Nat := [32, 9, 11, 12, 13, 28, 29, 30, 31, 133, 160, 5760, 8192, 8193, 8194, 8195, 8196, 8197, 8198, 8199, 8200, 8201, 8202, 8232, 8233, 8239, 8287, 12288]
theorem white_eq : tl white = whiteL := by decide +kernel
def blank (c : Nat) : Bool := decide (c ∈ whiteL)
def rangeL (rs : List (Nat × Nat)) : List Nat := rs.flatMap fun p => List.range' p.1 (p.2 + 1 - p.1)
theorem mem_rangeL {rs : List (Nat × Nat)} {c : Nat} : c ∈ rangeL rs ↔ ∃ p ∈ rs, p.1 ≤ c ∧ c ≤ p.2 := by
  unfold rangeL
  rw [List.mem_flatMap]
  constructor
  · rintro ⟨p, hp, h⟩
    rw [List.mem_range'_1] at h
    exact ⟨p, hp, by omega⟩
  · rintro ⟨p, hp, h⟩
    exact ⟨p, hp, by rw [List.mem_range'_1]; omega⟩
theorem within_iff {c : Nat} : ∀ {rs : List (Nat × Nat)}, rs.Pairwise (fun p q => p.1 ≤ q.1) → (Unicode.within rs c = true ↔ ∃ p ∈ rs, p.1 ≤ c ∧ c ≤ p.2)
  | [], _ => ⟨fun h => (nomatch h), fun ⟨_, h, _⟩ => (nomatch h)⟩
  | (a, b) :: r, hs => by
    have ih := within_iff (c := c) (List.pairwise_cons.mp hs).2
    have h1 := (List.pairwise_cons.mp hs).1
    unfold Unicode.within
    split
    · rename_i hc
      refine ⟨fun h => (nomatch h), fun ⟨p, hp, h2, _⟩ => ?_⟩
      exfalso
      rcases List.mem_cons.mp hp with rfl | hp
      · exact Nat.lt_irrefl _ (Nat.lt_of_lt_of_le hc h2)
      · exact Nat.lt_irrefl _ (Nat.lt_of_lt_of_le hc (Nat.le_trans (h1 p hp) h2))
    · rename_i hc
      rw [Bool.or_eq_true, decide_eq_true_eq, ih]
      constructor
      · rintro (h | ⟨p, hp, h⟩)
        · exact ⟨(a, b), .head _, Nat.le_of_not_lt hc, h⟩
        · exact ⟨p, .tail _ hp, h⟩
      · rintro ⟨p, hp, h⟩
        rcases List.mem_cons.mp hp with rfl | hp
        · exact .inl h.2
        · exact .inr ⟨p, hp, h⟩
theorem space_mem (c : Nat) : Unicode.isSpace c = true ↔ c ∈ rangeL UnicodeData.space0 := by
  rw [mem_rangeL]
  exact within_iff (rs := UnicodeData.space0) (by decide)
theorem space_sub : ∀ c ∈ rangeL UnicodeData.space0, c ∈ whiteL ∨ c = 10 := by decide
theorem white_sub : ∀ c ∈ whiteL, c ∈ rangeL UnicodeData.space0 := by decide
theorem nl_sub : 10 ∈ rangeL UnicodeData.space0 := by decide
theorem space_eq (c : Nat) : Unicode.isSpace c = (blank c || c == 10) := by
  rw [Bool.eq_iff_iff, space_mem, Bool.or_eq_true, beq_iff_eq]
  unfold blank
  rw [decide_eq_true_eq]
  constructor
  · exact space_sub c
  · rintro (h | rfl)
    · exact white_sub c h
    · exact nl_sub
theorem white_facts : ∀ c ∈ whiteL, c ≠ 10 ∧ c < 1114112 ∧ c ≠ 61 := by decide
theorem white_not_nl : ∀ c ∈ whiteL, c ≠ 10 := fun c h => (white_facts c h).1
end Mine
end


section
open PySem PySem.W PyProof.Rows PySem.Calls
set_option Elab.async false
namespace Mine
theorem item_at {x : Str} {j : Int} (h0 : 0 ≤ j) (h1 : j < x.length) : Txt.item x j = ⟨#[(tl x).getD j.toNat 0]⟩ := by
  unfold Txt.item Txt.charAt
  rw [StrLaws.seqIndex_nonneg h0 h1, tl_getD]
  simp only [Option.bind_some]
  congr 2
  simp
theorem occ_at {x y : Str} {j : Int} (h0 : 0 ≤ j) (h1 : j < x.length) : (!(Builtin.Str.occurrences y (Txt.item x j) 0 y.length 1).isEmpty) = decide ((tl x).getD j.toNat 0 ∈ tl y) := by
  rw [item_at h0 h1, StrLaws.found_one]; rfl
theorem slice_eq {x : Str} {i j : Int} (h0 : 0 ≤ i) (h1 : i ≤ j) (h2 : j ≤ x.length) : tl (Txt.slice x (some i) (some j)) = ((tl x).drop i.toNat).take (j - i).toNat := by
  have h := slice_closesL (x := x) h0 h1 h2
  rw [eq_of_beq h]
  rfl
theorem ite_tf {c : Prop} [Decidable c] : (if c then true else false) = decide c := by by_cases h : c <;> simp [h]
theorem bare_of {x y : Str} {k2 k1 : Int} (h0 : 0 ≤ k2) (h0' : k2 ≤ max 0 (x.length : Int))
    (h1 : ∀ j : Int, 0 ≤ j → j < k2 → (if j < (x.length : Int) then (if (!(Builtin.Str.occurrences y (Txt.item x j) 0 y.length 1).isEmpty) = true then true else false) else false) = true)
    (h2 : (if k2 < (x.length : Int) then (if (!(Builtin.Str.occurrences y (Txt.item x k2) 0 y.length 1).isEmpty) = true then true else false) else false) = false)
    (h3 : k1 ≤ (x.length : Int)) (h4 : min (x.length : Int) k2 ≤ k1)
    (h5 : ∀ j : Int, k1 < j → j ≤ (x.length : Int) → (if k2 < j then (if (!(Builtin.Str.occurrences y (Txt.item x (j - 1)) 0 y.length 1).isEmpty) = true then true else false) else false) = true)
    (h6 : (if k2 < k1 then (if (!(Builtin.Str.occurrences y (Txt.item x (k1 - 1)) 0 y.length 1).isEmpty) = true then true else false) else false) = false) :
    tl (Txt.slice x (some k2) (some k1)) = trim (fun c => decide (c ∈ tl y)) (tl x) := by
  have hl : (tl x).length = x.length := tl_length x
  rw [slice_eq h0 (by omega) h3]
  have e : (k1 - k2).toNat = k1.toNat - k2.toNat := by omega
  rw [e]
  refine (trim_at (by omega) (by omega) (fun k hk => ?_) (fun k hk hk' => ?_) ?_).symm
  · have h := h1 (k : Int) (by omega) (by omega)
    rw [if_pos (by omega), ite_tf, occ_at (by omega) (by omega)] at h
    simpa using h
  · have h := h5 ((k : Int) + 1) (by omega) (by omega)
    by_cases hc : k2 < (k : Int) + 1
    · rw [if_pos hc, Int.add_sub_cancel, ite_tf, occ_at (by omega) (by omega)] at h
      simpa using h
    · rw [if_neg hc] at h; cases h
  · by_cases hc : k2 < k1
    · refine .inr ⟨?_, ?_⟩
      · rw [if_pos (by omega), ite_tf, occ_at (by omega) (by omega)] at h2
        simpa using h2
      · rw [if_pos hc, ite_tf, occ_at (by omega) (by omega)] at h6
        have e2 : (k1 - 1).toNat = k1.toNat - 1 := by omega
        rw [e2] at h6
        simpa using h6
    · exact .inl (by omega)
theorem rtrim_len (p : Nat → Bool) (l : List Nat) : (rtrim p l).length ≤ l.length := by
  unfold rtrim
  have h := (List.dropWhile_suffix (l := l.reverse) p).length_le
  rw [List.length_reverse] at h ⊢
  exact h
theorem trim_len (p : Nat → Bool) (l : List Nat) : (trim p l).length ≤ l.length := Nat.le_trans (rtrim_len p _) (List.dropWhile_suffix p).length_le
theorem item_ne {x : Str} (h : ∀ c ∈ tl x, c ≠ 10) (j : Int) : ∃ c, Txt.item x j = ⟨#[c]⟩ ∧ c ≠ 10 := by
  refine ⟨_, rfl, ?_⟩
  unfold Txt.charAt
  cases h1 : seqIndex? j x.length with
  | none => simp
  | some i =>
    simp only [Option.bind_some]
    cases h2 : x.cps[i]? with
    | none => simp
    | some c =>
      refine h c ?_
      have := Array.mem_of_getElem? h2
      simpa [tl] using this
theorem item_white (j : Int) : ∃ c, Txt.item white j = ⟨#[c]⟩ ∧ c ≠ 10 := item_ne (by rw [white_eq]; exact white_not_nl) j
theorem item_ab (j : Int) : ∃ c, Txt.item (Str.ofString "ab") j = ⟨#[c]⟩ ∧ c ≠ 10 := item_ne (by decide +kernel) j
end Mine
end


section
open PySem PySem.W PyProof.Rows PySem.Calls
set_option Elab.async false
namespace Mine
/-- what splitdoc gives -/
def sdoc (x : Str) : Str × Str :=
  if (Txt.split (Txt.strip x) "\n").length = 1 then ((Txt.split (Txt.strip x) "\n").getD 0 "", "") else
  if Txt.rstrip ((Txt.split (Txt.strip x) "\n").getD 1 "") = "" then ((Txt.split (Txt.strip x) "\n").getD 0 "", Txt.join "\n" ((Txt.split (Txt.strip x) "\n").drop 2)) else ("", Txt.join "\n" (Txt.split (Txt.strip x) "\n"))
def rep1 (x y z : Str) : Str := Txt.join z (Txt.split x y)
def cutStep (ts : List (List Nat)) (c : Nat) : List (List Nat) := if c = 61 then ts ++ [[]] else ts.dropLast ++ [ts.getLastD [] ++ [c]]
def cut (l : List Nat) : List (List Nat) := l.foldl cutStep [[]]
def namesL : Nat → Str → List Str
  | 0, _ => []
  | n + 1, y => match Txt.splitMax y "=" 1 with
    | [a, b] => Txt.strip a :: namesL n (Txt.strip b)
    | _ => [y]
def stepsL : Nat → Str → List (Str × Str)
  | 0, _ => []
  | n + 1, d => sdoc d :: (if (sdoc d).1 = "" then [] else stepsL n (sdoc d).2)
def loneOf (ts : List Str) (a : Str) : Str × Str := if Txt.strip a = "" then (ts.getD 0 Str.empty, Txt.join "\n" (ts.drop 2)) else ("", Txt.join "\n" ts)
end Mine
end


section
open PySem PySem.W PyProof.Rows PySem.Calls
set_option Elab.async false
namespace Mine
def wb (c : Nat) : Bool := decide (c ∈ tl white)
def bareS (x : Str) : Str := ⟨(trim wb (tl x)).toArray⟩
def solidB (ts : List Str) (k : Nat) : Bool := !(bareS (ts.getD k Str.empty) == Str.ofString "")
def solidS (ts : List Str) : List Nat := (List.range ts.length).filter (solidB ts)
def tailS (x : Str) : Str := ⟨((trim wb (124 :: tl x)).drop 1).toArray⟩
def bodyS (ts : List Str) (ks : List Nat) : List Str := match ks.getLast? with
  | none => []
  | some k => ts.take k ++ [tailS (ts.getD k Str.empty)]
def headS (b : Str) : Str := ⟨((trim wb (tl b ++ [124])).dropLast).toArray⟩
def headsS (body : List Str) (ks : List Nat) : List Str := ks.map fun k => headS (body.getD k Str.empty)
def restS (border : Str) (body : List Str) (k : Nat) : Str := Txt.join border (body.drop (k + 1))
theorem bareS_len (x : Str) : (bareS x).length ≤ x.length := by
  rw [← tl_length, ← tl_length x]
  show (tl ⟨(trim wb (tl x)).toArray⟩).length ≤ _
  rw [tl_mk]
  exact trim_len _ _
theorem cut_len (l : List Nat) : (cut l).length ≤ l.length + 1 := by
  have key : ∀ (l : List Nat) (ts : List (List Nat)), 1 ≤ ts.length → (l.foldl cutStep ts).length ≤ ts.length + l.length := by
    intro l
    induction l with
    | nil => intro ts _; exact Nat.le_refl _
    | cons c r ih =>
      intro ts h
      have h2 : (cutStep ts c).length ≤ ts.length + 1 ∧ 1 ≤ (cutStep ts c).length := by
        unfold cutStep
        split
        · simp
        · simp
      refine Nat.le_trans (ih _ h2.2) ?_
      simp only [List.length_cons]
      omega
  have := key l [[]] (by decide)
  simp only [List.length_cons, List.length_nil] at this
  unfold cut
  omega
theorem cut_mem (l : List Nat) : ∀ p ∈ cut l, p.length ≤ l.length := by
  have key : ∀ (l : List Nat) (ts : List (List Nat)) (b : Nat), (∀ p ∈ ts, p.length ≤ b) → ∀ p ∈ l.foldl cutStep ts, p.length ≤ b + l.length := by
    intro l
    induction l with
    | nil => intro ts b h p hp; exact h p hp
    | cons c r ih =>
      intro ts b h p hp
      have h2 : ∀ p ∈ cutStep ts c, p.length ≤ b + 1 := by
        intro p hp
        unfold cutStep at hp
        split at hp
        · rcases List.mem_append.mp hp with hp | hp
          · exact Nat.le_succ_of_le (h p hp)
          · rw [List.mem_singleton.mp hp]; exact Nat.zero_le _
        · rcases List.mem_append.mp hp with hp | hp
          · exact Nat.le_succ_of_le (h p (List.dropLast_subset _ hp))
          · rw [List.mem_singleton.mp hp, List.length_append]
            refine Nat.succ_le_succ ?_
            rw [List.getLastD_eq_getLast?]
            cases e : ts.getLast? with
            | none => exact Nat.zero_le _
            | some y => exact h y (List.mem_of_getLast? e)
      have := ih _ (b + 1) h2 p hp
      simp only [List.length_cons]
      omega
  have := key l [[]] 0 (by intro p hp; rw [List.mem_singleton.mp hp]; exact Nat.le_refl _)
  intro p hp
  have h := this p hp
  omega
theorem texts_few {ts : List Str} {x : Str} {n : Nat} (h : ts.map tl = cut (tl x)) (hx : x.length ≤ n) : ts.length ≤ n + 1 ∧ ∀ a ∈ ts, a.length ≤ n := by
  constructor
  · have h1 := cut_len (tl x)
    rw [← h, List.length_map, tl_length] at h1
    omega
  · intro a ha
    have h1 := cut_mem (tl x) (tl a) (by rw [← h]; exact List.mem_map_of_mem ha)
    rw [tl_length, tl_length] at h1
    omega
end Mine
end


section
open PySem PySem.W PyProof.Rows PySem.Calls
set_option Elab.async false
namespace Mine
theorem solid_lt {ts : List Str} : ∀ k ∈ solidS ts, k < ts.length := fun k hk => by
  have := (List.mem_filter.mp hk).1
  exact List.mem_range.mp this
theorem solid_len (ts : List Str) : (solidS ts).length ≤ ts.length := by
  have := List.length_filter_le (solidB ts) (List.range ts.length)
  rwa [List.length_range] at this
theorem solid_sorted (ts : List Str) : (solidS ts).Pairwise (· < ·) := List.Pairwise.filter _ List.pairwise_lt_range
theorem pw_last : ∀ {l : List Nat}, l.Pairwise (· < ·) → ∀ {k}, l.getLast? = some k → ∀ j ∈ l, j ≤ k
  | [a], _, k, e, j, hj => by
    rw [List.mem_singleton.mp hj]
    exact Nat.le_of_eq (Option.some.inj e)
  | a :: b :: r, h, k, e, j, hj => by
    rw [List.getLast?_cons_cons] at e
    rcases List.mem_cons.mp hj with rfl | hj
    · have h1 := (List.pairwise_cons.mp h).1 b (.head _)
      have h2 := pw_last (List.pairwise_cons.mp h).2 e b (.head _)
      omega
    · exact pw_last (List.pairwise_cons.mp h).2 e j hj
theorem body_at {ts : List Str} {ks : List Nat} {k : Nat} (e : ks.getLast? = some k) : bodyS ts ks = ts.take k ++ [tailS (ts.getD k Str.empty)] := by unfold bodyS; rw [e]
theorem body_lt {ts : List Str} : ∀ k ∈ solidS ts, k < (bodyS ts (solidS ts)).length := by
  intro j hj
  cases e : (solidS ts).getLast? with
  | none => rw [List.getLast?_eq_none_iff.mp e] at hj; cases hj
  | some k =>
    rw [body_at e, List.length_append, List.length_take]
    have h1 := pw_last (solid_sorted ts) e j hj
    have h2 := solid_lt k (List.mem_of_getLast? e)
    show j < min k ts.length + 1
    omega
theorem tailS_len (x : Str) : (tailS x).length ≤ x.length := by
  rw [← tl_length, ← tl_length x]
  show (tl ⟨((trim wb (124 :: tl x)).drop 1).toArray⟩).length ≤ _
  rw [tl_mk, List.length_drop]
  have := trim_len wb (124 :: tl x)
  rw [List.length_cons] at this
  omega
theorem headS_len (x : Str) : (headS x).length ≤ x.length := by
  rw [← tl_length, ← tl_length x]
  show (tl ⟨((trim wb (tl x ++ [124])).dropLast).toArray⟩).length ≤ _
  rw [tl_mk, List.length_dropLast]
  have := trim_len wb (tl x ++ [124])
  rw [List.length_append] at this
  simp only [List.length_cons, List.length_nil] at this
  omega
theorem getD_le {ts : List Str} {i b : Nat} (h : ∀ a ∈ ts, a.length ≤ b) : (ts.getD i Str.empty).length ≤ b := by
  rw [List.getD_eq_getElem?_getD]
  cases e : ts[i]? with
  | none => exact Nat.zero_le _
  | some y => exact h y (List.mem_of_getElem? e)
theorem body_few {ts : List Str} {n b : Nat} (h1 : ts.length ≤ n) (h2 : ∀ a ∈ ts, a.length ≤ b) : (bodyS ts (solidS ts)).length ≤ n ∧ ∀ a ∈ bodyS ts (solidS ts), a.length ≤ b := by
  cases e : (solidS ts).getLast? with
  | none =>
    have : bodyS ts (solidS ts) = [] := by unfold bodyS; rw [e]
    rw [this]
    exact ⟨Nat.zero_le _, fun _ h => nomatch h⟩
  | some k =>
    rw [body_at e]
    have h3 := solid_lt k (List.mem_of_getLast? e)
    constructor
    · rw [List.length_append, List.length_take]
      show min k ts.length + 1 ≤ n
      omega
    · intro a ha
      rcases List.mem_append.mp ha with ha | ha
      · exact h2 a (List.mem_of_mem_take ha)
      · rw [List.mem_singleton.mp ha]
        exact Nat.le_trans (tailS_len _) (getD_le h2)
theorem heads_few {body : List Str} {ks : List Nat} {b : Nat} (h2 : ∀ a ∈ body, a.length ≤ b) : ∀ a ∈ headsS body ks, a.length ≤ b := by
  intro a ha
  obtain ⟨k, _, rfl⟩ := List.mem_map.mp ha
  exact Nat.le_trans (headS_len _) (getD_le h2)
theorem slice_neg1 (x : Str) : tl (Txt.slice x none (some (-1))) = (tl x).dropLast := by
  have hl : (tl x).length = x.length := tl_length x
  by_cases h : x.length = 0
  · have e : tl x = [] := List.length_eq_zero_iff.mp (by omega)
    have e2 : x = ⟨#[]⟩ := tl_ext (by rw [e]; rfl)
    subst e2
    decide +kernel
  · have h1 := StrLaws.sliceText_to_neg (x := x) (j := -1) (by decide) (by omega)

    rw [show Txt.slice x none (some (-1)) = _ from h1, tl_mk, List.dropLast_eq_take]
    show List.take _ (List.drop 0 (tl x)) = _
    rw [List.drop_zero]
    congr 1
    omega
def rowsS (bd : List Str) (ks : List Nat) : List Str := match ks.head? with
  | none => [Str.ofString ""]
  | some k => (headsS bd ks).take 1 ++ bd.drop (k + 1)
def backS (b : Str) (hs : List Str) : Str := Txt.join (Str.ofString "") (hs.map fun h => b ++ h)
def pairsS (b : Str) (bd : List Str) (ks : List Nat) : List (Str × Str) := (ks.map fun k => (headS (bd.getD k Str.empty), restS b bd k)) ++ [(Str.ofString "", Str.ofString "")]
/-- what the law's walk asks of the plain side -/
structure PlainOK (x b : Str) (ts : List Str) (ks : List Nat) (bd : List Str) : Prop where
  r1 : (rep1 x "=" "==").length ≤ 1000
  r2 : (rep1 (rep1 x "=" "==") "==" b).length ≤ 1000
  b4 : b.length ≤ 4
  b0 : (b.length == 0) = false
  steps : stepsL 16 (rep1 (rep1 x "=" "==") "==" b) = pairsS b bd ks
  okh : ∀ h ∈ headsS bd ks, PyData.strOk h = true
  okr : ∀ k ∈ ks, PyData.strOk (restS b bd k) = true
  names1 : namesL 16 (Str.ofString " a =" ++ x) = Str.ofString "a" :: ts.map bareS
  okn : ∀ t ∈ ts, PyData.strOk (bareS t) = true
  k1 : (backS b (headsS bd ks)).length ≤ 1000
  k2 : (rep1 (backS b (headsS bd ks)) b "==").length ≤ 1000
  k3 : (rep1 (rep1 (backS b (headsS bd ks)) b "==") "==" "=").length ≤ 1000
  names2 : namesL 16 (rep1 (rep1 (backS b (headsS bd ks)) b "==") "==" "=") = Str.ofString "" :: (headsS bd ks).map bareS
  okb : ∀ h ∈ headsS bd ks, PyData.strOk (bareS h) = true
  l1 : (rep1 x "=" "\n").length ≤ 1000
  lone : ∃ a c, Txt.splitMax (Txt.join "=" ((rowsS bd ks).drop 1) ++ "=") "=" 1 = [a, c] ∧ sdoc (rep1 x "=" "\n") = loneOf (rowsS bd ks) a
  l2 : (Txt.join "=" ((rowsS bd ks).drop 1)).length ≤ 900
  okl : PyData.strOk (sdoc (rep1 x "=" "\n")).1 = true ∧ PyData.strOk (sdoc (rep1 x "=" "\n")).2 = true
theorem bareS_tl (x : Str) : tl (bareS x) = trim wb (tl x) := tl_mk _
theorem headS_tl (b : Str) : tl (headS b) = (trim wb (tl b ++ [124])).dropLast := tl_mk _
theorem tailS_tl (b : Str) : tl (tailS b) = (trim wb (124 :: tl b)).drop 1 := tl_mk _
end Mine
end


section
open PySem PySem.W PyProof.Rows PySem.Calls
set_option Elab.async false
namespace Mine
section
variable {prog : Program} {w : World} {A : Around} {E : Value → Shared → Prop} {Q : Flow → Shared → Prop} {s : Shared} {env : Env} {h₀ : Heap} {L : Addr}
theorem codeAny_turn {test : Expr} {body : List Stmt} {R : Result → Shared → Prop}
    (turn : wpAny (model prog w) A (isTrue test env (eval test env)) (fun b s₂ =>
        if b = true then wpAny (model prog w) A (execs body env) (fun f s₃ => f = .next ∧ codeAny (model prog w) A (.whileLoop test body [] env) R s₃) (notedBy (model prog w) A env fun e s' => R (.error e) s') s₂
        else R (.ok .next) s₂)
        (notedBy (model prog w) A env fun e s' => R (.error e) s') s) : codeAny (model prog w) A (.whileLoop test body [] env) R s := by
  refine codeAny_of_tree ?_
  show wpAny _ A ((whileTurn test body [] env).onRaise (fun x => do noteFrame x env; theTreesLotGoes x)) _ _ s
  refine wpAny_noted ?_
  simp only [whileTurn]
  refine wpAny_bind (wpAny_mono turn (fun b s₂ h₂ => ?_) fun _ _ h' => h')
  cases b with
  | false =>
    simp only [Bool.false_eq_true, if_false] at h₂ ⊢
    exact wpAny_bind (wpAny_execs_nil (wpAny_pure h₂))
  | true =>
    simp only [if_true] at h₂ ⊢
    refine wpAny_bind (wpAny_mono h₂ (fun f s₃ h₃ => ?_) fun _ _ h' => h')
    obtain ⟨rfl, h₃⟩ := h₃
    exact wpAny_pure ⟨rfl, h₃⟩
def WhileSt (prog : Program) (w : World) (A : Around) (env : Env) (test : Expr) (body : List Stmt) (Q : Flow → Shared → Prop) (E : Value → Shared → Prop) (s : Shared) : Prop :=
  codeAny (model prog w) A (.whileLoop test body [] env) (fun r s' => match r with | .ok f => Q f s' | .error e => cameBackBy (model prog w) A env E e s') s
theorem exec_While_of {test : Expr} {body : List Stmt} {pos : Pos} (h : WhileSt prog w A env test body Q E s) : wpAny (model prog w) A (exec (.While test body [] pos) env) Q E s := wpAny_While h
theorem whileSt_turn {test : Expr} {body : List Stmt} (hE : PassesOwn (model prog w) A env E)
    (turn : wpAny (model prog w) A (isTrue test env (eval test env)) (fun b s₂ =>
        if b = true then wpAny (model prog w) A (execs body env) (fun f s₃ => f = .next ∧ WhileSt prog w A env test body Q E s₃) E s₂
        else Q .next s₂) E s) : WhileSt prog w A env test body Q E s := by
  refine codeAny_turn (wpAny_mono turn (fun b s₂ h₂ => ?_) hE)
  cases b with
  | false => exact h₂
  | true =>
    simp only [if_true] at h₂ ⊢
    exact wpAny_mono h₂ (fun _ _ h => h) hE
end
end Mine
end


section
open PySem PySem.W PyProof.Rows PySem.Calls
set_option Elab.async false
namespace Mine
theorem split_ne (x y : Str) : Txt.split x y ≠ [] := by
  unfold Txt.split
  split
  · simp
  · split
    · simp
    · rw [StrLaws.partsBetween_eq]
      obtain ⟨p, r, e⟩ := StrLaws.partsFrom_ne x y.length 0 (Builtin.Str.occurrences x y 0 x.length (x.length + 1))
      rw [e]; simp
theorem str_nil {x : Str} (h : (x.length : Int) = 0) : x = "" := by
  obtain ⟨c⟩ := x
  have : c.size = 0 := by have h' : ((c.size : Nat) : Int) = 0 := h; omega
  have e : c = #[] := Array.eq_empty_of_size_eq_zero this
  subst e
  decide +kernel
section
variable {x y z : Str} {l : List (Str × Tok)}
theorem sdoc_one (hl : l.map (·.1) = Txt.split (Txt.strip x) "\n") (h1 : (l.length : Int) = 1) (hy : (l.map (·.1))[Int.toNat 0]? = some y) : sdoc x = (y, ("" : Str)) := by
  unfold sdoc
  rw [← hl, List.length_map, if_pos (by omega), List.getD_eq_getElem?_getD, show (l.map (·.1))[0]? = some y from hy]
  rfl
theorem sdoc_two (hl : l.map (·.1) = Txt.split (Txt.strip x) "\n") (h1 : (l.length : Int) ≠ 1) (hz : (l.map (·.1))[Int.toNat 1]? = some z) (h4 : ((Txt.rstrip z).length : Int) = 0) (hy : (l.map (·.1))[Int.toNat 0]? = some y) :
    sdoc x = (y, Txt.join "\n" ((l.map (·.1)).drop (Int.toNat 2))) := by
  unfold sdoc
  rw [← hl, List.length_map, if_neg (by omega), List.getD_eq_getElem?_getD, List.getD_eq_getElem?_getD, show (l.map (·.1))[0]? = some y from hy, show (l.map (·.1))[1]? = some z from hz]
  rw [Option.getD_some, Option.getD_some, if_pos (str_nil h4)]
  rfl
theorem sdoc_three (hl : l.map (·.1) = Txt.split (Txt.strip x) "\n") (h1 : (l.length : Int) ≠ 1) (hz : (l.map (·.1))[Int.toNat 1]? = some z) (h4 : ((Txt.rstrip z).length : Int) ≠ 0) :
    sdoc x = (("" : Str), Txt.join "\n" (l.map (·.1))) := by
  unfold sdoc
  rw [← hl, List.length_map, if_neg (by omega), List.getD_eq_getElem?_getD, List.getD_eq_getElem?_getD, show (l.map (·.1))[1]? = some z from hz]
  rw [Option.getD_some, if_neg (fun e => h4 (by rw [show Txt.rstrip z = "" from e]; decide +kernel))]
theorem sdoc_never {C : Prop} (hl : l.map (·.1) = Txt.split (Txt.strip x) "\n") (h1 : (l.length : Int) ≠ 1) (h2 : ¬ (2 : Int) ≤ l.length) : C := by
  have h0 : l.length = 0 := by omega
  have : l = [] := List.length_eq_zero_iff.mp h0
  rw [this] at hl
  exact absurd hl.symm (split_ne _ _)
end
theorem tup_out {D : Addr} {a b : Str} {t1 t2 : Tok} {pr : Str × Str} (e : pr = (a, b)) : ∃ (D' : Addr) (u1 u2 : Tok), Value.ref D = .ref D' ∧ [(D, ({ cls := .type "tuple", data := .seq #[.str a t1, .str b t2] } : Obj))] = [(D', { cls := .type "tuple", data := .seq #[.str pr.1 u1, .str pr.2 u2] })] := e ▸ ⟨D, t1, t2, rfl, rfl⟩
local macro_rules | `(tactic| walk_at "call builtin:str.rstrip") => `(tactic| (k_here; (with_reducible show wpAny _ _ (call (Value.builtin "str.rstrip") (Value.builtin "str.rstrip", [Value.str _ _]).snd) _ _ _); (have hy9 := len_at (by assumption) (by assumption)); (refine rstrip_snd (sizeLine_ge (by omega)) ?_); (intro t' k'; dsimp only)))
local macro_rules | `(tactic| walk_at "truthy str") => `(tactic| (k_here; (with_reducible show wpAny _ _ (PySem.truthy (Value.str (Txt.rstrip _) _)) _ _ _); (refine SBL.truthy (Int.lt_of_le_of_lt (Int.ofNat_le.mpr (Nat.le_trans (len_rstrip _) (Nat.le_trans (by assumption) (by assumption)))) (by omega)) ?_)))
local macro_rules | `(tactic| walk_at "call builtin:str.join") => `(tactic| (k_here; (with_reducible show wpAny _ _ (call (Value.builtin "str.join") [Value.str _ _, Value.ref _]) _ _ _); (refine join_ts (by is_list) (by assumption) (joinOk_few' (n := 1002) (k := 1000) (b := 1) (lines_ok (by assumption) (by assumption) (by assumption) (by assumption)).1 (lines_ok (by assumption) (by assumption) (by assumption) (by assumption)).2 (by decide)) ?_; (intro t' k'; dsimp only))))
local macro_rules | `(tactic| walk_at "call builtin:str.join") => `(tactic| (k_here; (with_reducible show wpAny _ _ (call (Value.builtin "str.join") [Value.str _ _, Value.ref _]) _ _ _); (refine join_ar (xs := slicePick _ _ _ _) (by is_list) (strs_from (by assumption) (by decide)) (joinOk_few' (n := 1002) (k := 1000) (b := 1) (Nat.le_trans (by rw [List.length_drop]; exact Nat.sub_le _ _) (lines_ok (by assumption) (by assumption) (by assumption) (by assumption)).1) (fun a ha => (lines_ok (by assumption) (by assumption) (by assumption) (by assumption)).2 a (List.mem_of_mem_drop ha)) (by decide)) ?_; (intro t' k'; dsimp only))))
theorem c_splitdoc {prog : Program} {w : World} (x : Str) (t : Tok) (hx : x.length ≤ 1000) :
   Gives prog w (.ref 28) [.str x t] (fun _ => True) (fun nw r => ∃ D' t1 t2, r = .ref D' ∧ nw = [(D', { cls := .type "tuple", data := .seq #[.str (sdoc x).1 t1, .str (sdoc x).2 t2] })]) := by
  w_top off
  unfold Gives
  intro p loose mean mg mb dp un gd cn cs a ccd cl outer A₀ base h₀ L m news s Q E B F X N T hk hpre hdp hun hret
  refine wpAny_call ?_
  k_dflt cell_enter
  k_steps
  all_goals first
    | exact sdoc_never (by assumption) (by assumption) (by assumption)
    | refine hret _ [(_, { cls := .type "tuple", data := .seq #[.str _ _, .str _ _] })] _ _ (by assumption) (Mine.News.keepHead (by assumption) (fun q hq => ?_)) ?_ (tup_out ?_)
  all_goals first
    | exact sdoc_one (by assumption) (by assumption) (by assumption)
    | exact sdoc_three (by assumption) (by assumption) (by assumption) (by assumption)
    | exact sdoc_two (by assumption) (by assumption) (by assumption) (by assumption) (by assumption)
    | exact apart_of_lt (And.right (by assumption))
    | exact apart_of_lt (And.right (And.right (by assumption)))
    | exact .tail _ hq
    | exact .tail _ (.tail _ hq)
end Mine
end


section
open PySem PySem.W PyProof.Rows PySem.Calls
set_option Elab.async false
namespace Mine
theorem joinOk_split {x y z : Str} {l : List (Str × Tok)} (h1 : l.map (·.1) = Txt.split x y) (h2 : ∀ a : Str, a ∈ l.map (·.1) → a.length ≤ x.length) (hx : x.length ≤ 1000) (hz : z.length ≤ 4) : JoinOk z (l.map (·.1)) = true :=
  joinOk_few' (n := 1002) (k := 1000) (b := 4) (by rw [h1]; exact Nat.le_trans (split_count x y) (by omega)) (fun a ha => Nat.le_trans (h2 a ha) hx) hz
theorem join_sp {prog : Program} {w : World} {A : Around} {E : Value → Shared → Prop} {s : Shared} {Q : Value → Shared → Prop} {D : Addr} {vs : List Value} {x y z : Str} {t : Tok} {l : List (Str × Tok)} (hl : s.heap.IsList D vs.toArray) (ht : StrsAre vs (l.map (·.1))) (e : l.map (·.1) = Txt.split x y) (hok : JoinOk z (l.map (·.1)) = true)
    (hq : ∀ t' k, Q (.str (rep1 x y z) t') { s with toks := k }) : wpAny (model prog w) A (call (.builtin "str.join") [.str z t, .ref D]) Q E s :=
  join_ts hl ht hok (by rw [e]; exact hq)
local macro_rules | `(tactic| walk_at "exec While Name cons nil") => `(tactic| (k_here; (refine exec_While_of (whileSt_turn (by passes_own) ?_))))
local macro_rules | `(tactic| walk_at "call builtin:str.join") => `(tactic| (k_here; (with_reducible show wpAny _ _ (call (Value.builtin "str.join") [Value.str _ _, Value.ref _]) _ _ _); (refine join_sp (by is_list) (by assumption) (by assumption) (joinOk_split (by assumption) (by assumption) (by assumption) (by assumption)) ?_; (intro t' k'; dsimp only))))
local macro_rules | `(tactic| walk_at "subscriptTail Name Slice ref ref") => `(tactic| (k_here; (with_reducible show wpAny _ _ (subscriptTail _ _ (Value.ref _) (Value.ref _)) _ _ _); (refine slice_tuple_from (a := 2) (by k_asm) (by k_asm) (News.isTup (by assumption) (by first | exact .head _ | exact .tail _ (.head _) | exact .tail _ (.tail _ (.head _)) | exact .tail _ (.tail _ (.tail _ (.head _))) | exact .tail _ (.tail _ (.tail _ (.tail _ (.head _)))))) (by decide) (Nat.le_of_ble_eq_true rfl) ?_); intro h' F' N'; (try simp only [List.toList_toArray, List.drop_succ_cons, List.drop_zero] at N'); (try dsimp only)))
set_option maxHeartbeats 1000000 in
theorem c_replace3 {prog : Program} {w : World} (x y z : Str) (t t1 t2 : Tok) (hx : x.length ≤ 1000) (hz : z.length ≤ 4) (hy1 : (y.length == 0) = false) :
   Gives prog w (.ref 35) [.str x t, .str y t1, .str z t2] (fun _ => True) (fun nw r => nw = [] ∧ ∃ t', r = .str (rep1 x y z) t') := by
  w_top off
  unfold Gives
  intro p loose mean mg mb dp un gd cn cs a ccd cl outer A₀ base h₀ L m news s Q E B F X N T hk hpre hdp hun hret
  refine wpAny_call ?_
  refine' kp_rest ?k1 ?k2 ?k3 ?k4 ?k5 ?kA ?kF ?kK ?k6 ?k7 ?k8 ?kV ?kP ?kG ?kB ?_ ?c2 ?c3 ?c4 ?c5
  case kA => exact rfl
  case kF => exact rfl
  case kK => assumption
  case k1 => k_asm
  case k2 => k_asm
  case k3 => k_asm
  case k4 => k_asm
  case k5 => k_asm
  case k6 => k_is
  case k7 => k_is
  case k8 => k_dflt ktr_room
  case kV => kl_lit
  case kP => exact rfl
  case kG => exact fun _ => rfl
  case kB => exact fun _ => locs rfl
  case c5 => decide
  case c2 => exact rfl
  case c3 => exact rfl
  case c4 => exact rfl
  k_whole
  intro D' g' L' h' l1 FG' F' N' B' X' T'
  try k_lt l1
  try dsimp only
  try k_lift B'
  try k_fold
  k_steps
  refine whileSt_turn (by passes_own) ?_
  k_steps
  refine hret _ [] _ _ (by assumption) (News.perm (by assumption) (fun q hq => ?_)) (fun _ h => nomatch h) ⟨rfl, _, rfl⟩
  repeat first | exact hq | apply List.Mem.tail
set_option maxHeartbeats 2000000 in
theorem c_replace5 {prog : Program} {w : World} (x y z y' z' : Str) (t t1 t2 t3 t4 : Tok) (hx : x.length ≤ 1000) (hz : z.length ≤ 4) (hy1 : (y.length == 0) = false)
    (hx1 : (rep1 x y z).length ≤ 1000) (hz' : z'.length ≤ 4) (hy1' : (y'.length == 0) = false) :
   Gives prog w (.ref 35) [.str x t, .str y t1, .str z t2, .str y' t3, .str z' t4] (fun _ => True) (fun nw r => nw = [] ∧ ∃ t', r = .str (rep1 (rep1 x y z) y' z') t') := by
  w_top off
  unfold Gives
  intro p loose mean mg mb dp un gd cn cs a ccd cl outer A₀ base h₀ L m news s Q E B F X N T hk hpre hdp hun hret
  refine wpAny_call ?_
  refine' kp_rest ?k1 ?k2 ?k3 ?k4 ?k5 ?kA ?kF ?kK ?k6 ?k7 ?k8 ?kV ?kP ?kG ?kB ?_ ?c2 ?c3 ?c4 ?c5
  case kA => exact rfl
  case kF => exact rfl
  case kK => assumption
  case k1 => k_asm
  case k2 => k_asm
  case k3 => k_asm
  case k4 => k_asm
  case k5 => k_asm
  case k6 => k_is
  case k7 => k_is
  case k8 => k_dflt ktr_room
  case kV => kl_lit
  case kP => exact rfl
  case kG => exact fun _ => rfl
  case kB => exact fun _ => locs rfl
  case c5 => decide
  case c2 => exact rfl
  case c3 => exact rfl
  case c4 => exact rfl
  k_whole
  intro D' g' L' h' l1 FG' F' N' B' X' T'
  try k_lt l1
  try dsimp only
  try k_lift B'
  try k_fold
  k_steps
  refine whileSt_turn (by passes_own) ?_
  k_steps
  refine whileSt_turn (by passes_own) ?_
  k_steps
  refine hret _ [] _ _ (by assumption) (News.perm (by assumption) (fun q hq => ?_)) (fun _ h => nomatch h) ⟨rfl, _, rfl⟩
  repeat first | exact hq | apply List.Mem.tail
end Mine
end


section
open PySem PySem.W PyProof.Rows PySem.Calls
set_option Elab.async false
namespace Mine
theorem item_P {P : Nat → Prop} {x : Str} (h0 : P 0) (h : ∀ c ∈ tl x, P c) (j : Int) : ∃ c, Txt.item x j = ⟨#[c]⟩ ∧ P c := by
  refine ⟨_, rfl, ?_⟩
  unfold Txt.charAt
  cases h1 : seqIndex? j x.length with
  | none => simpa using h0
  | some i =>
    simp only [Option.bind_some]
    cases h2 : x.cps[i]? with
    | none => simpa using h0
    | some c =>
      refine h c ?_
      have := Array.mem_of_getElem? h2
      simpa [tl] using this
/-- a sign that the law may draw -/
def SignOk (c : Nat) : Prop := c ≠ 10 ∧ c < 1114112
theorem white_ok : ∀ c ∈ whiteL, SignOk c := by
  intro c h
  exact ⟨(white_facts c h).1, (white_facts c h).2.1⟩
theorem item_white2 (j : Int) : ∃ c, Txt.item white j = ⟨#[c]⟩ ∧ SignOk c := item_P (by unfold SignOk; omega) (by rw [white_eq]; exact white_ok) j
theorem item_ab2 (j : Int) : ∃ c, Txt.item (Str.ofString "ab") j = ⟨#[c]⟩ ∧ SignOk c := item_P (by unfold SignOk; omega) (by unfold SignOk; decide +kernel) j
theorem sign_out {y : Str} {t : Tok} (h : ∃ c, y = ⟨#[c]⟩ ∧ SignOk c) : ([] : List (Addr × Obj)) = [] ∧ ∃ (c : Nat) (t' : Tok), Value.str y t = .str ⟨#[c]⟩ t' ∧ SignOk c := by
  obtain ⟨c, rfl, hc⟩ := h
  exact ⟨rfl, c, t, rfl, hc⟩
theorem c_sign {prog : Program} {w : World} (x : Int) (t t1 : Tok) :
   Gives prog w (.ref 179) [.int x t, .str (Str.ofString " \t\x0b\x0c\x0d\x1c\x1d\x1e\x1f\u0085\u00a0\u1680\u2000\u2001\u2002\u2003\u2004\u2005\u2006\u2007\u2008\u2009\u200a\u2028\u2029\u202f\u205f\u3000") t1] (fun _ => True) (fun nw r => nw = [] ∧ ∃ c t', r = .str ⟨#[c]⟩ t' ∧ SignOk c) := by
  w_top off
  unfold Gives
  intro p loose mean mg mb dp un gd cn cs a ccd cl outer A₀ base h₀ L m news s Q E B F X N T hk hpre hdp hun hret
  have hb1 := Int.fmod_lt_of_pos (x.fdiv 8) (show (0 : Int) < 1112064 by decide)
  have hb2 := Int.fmod_nonneg_of_pos (x.fdiv 8) (show (0 : Int) < 1112064 by decide)
  refine wpAny_call ?_
  k_dflt cell_enter
  k_steps
  all_goals refine hret _ [] _ _ (by assumption) (by assumption) (fun _ h => nomatch h) (sign_out ?_)
  all_goals first
    | exact ⟨61, by decide +kernel, by unfold SignOk; decide⟩
    | exact ⟨97, by decide +kernel, by unfold SignOk; decide⟩
    | exact item_white2 _
    | exact item_ab2 _
    | exact ⟨_, rfl, by unfold SignOk; omega⟩
end Mine
end


section
open PySem PySem.W PyProof.Rows PySem.Calls
set_option Elab.async false
namespace Mine
local macro_rules | `(tactic| walk_at "no such key") => `(tactic| skip)
theorem c_bare {prog : Program} {w : World} (x y : Str) (t t1  : Tok) (hx : x.length ≤ 1000) (hy : y.length ≤ 100) :
   Gives prog w (.ref 186) [.str x t, .str y t1] (fun _ => True) (fun nw r => nw = [] ∧ ∃ z t', r = .str z t' ∧ tl z = trim (fun c => decide (c ∈ tl y)) (tl x) ∧ z.length ≤ x.length) := by
  w_top off
  unfold Gives
  intro p loose mean mg mb dp un gd cn cs a ccd cl outer A₀ base h₀ L m news s Q E B F X N T hk hpre hdp hun hret
  refine wpAny_call ?_
  k_dflt cell_enter
  k_steps
  refine hret _ [] _ _ (by assumption) (by assumption) (fun _ h => nomatch h) ⟨rfl, _, _, rfl, ?_, by assumption⟩
  exact bare_of (by assumption) (by assumption) (by assumption) (by assumption) (by assumption) (by assumption) (by assumption) (by assumption)
end Mine
end


section
open PySem PySem.W PyProof.Rows PySem.Calls
set_option Elab.async false
namespace Mine
theorem white_len : (white : Str).length ≤ 100 := by decide +kernel
theorem c_bareS {prog : Program} {w : World} (x : Str) (t t1 : Tok) (hx : x.length ≤ 1000) :
   Gives prog w (.ref 186) [.str x t, .str white t1] (fun _ => True) (fun nw r => nw = [] ∧ ∃ t', r = .str (bareS x) t') := by
  have H := c_bare (prog := prog) (w := w) x white t t1 hx white_len
  unfold Gives GivesR at H ⊢
  intro p loose mean mg mb dp un gd cn cs a ccd cl outer A₀ base h₀ L m news s Q E B F X N T hk hpre hdp hun hret
  refine H p loose mean mg mb dp un gd cn cs a ccd cl outer A₀ base h₀ L m news s Q E B F X N T hk hpre hdp hun fun r nw h' tk' F' N' hne ho => hret r nw h' tk' F' N' hne ?_
  obtain ⟨rfl, z, t', rfl, hz, _⟩ := ho
  have e : z = bareS x := tl_ext (by rw [hz]; exact (tl_mk _).symm)
  exact ⟨rfl, t', by rw [e]⟩
end Mine
end


section
open PySem PySem.W PyProof.Rows PySem.Calls
set_option Elab.async false
namespace Mine
structure PS where
  ws : List Value
  y : Str
  t : Tok
  n : Nat
  ts : List Str
def PInv (pre : List Int) (c : PS) : Prop := StrsAre c.ws c.ts ∧ (c.ts ++ [c.y]).map tl = cut (pre.map Int.toNat) ∧ c.ts.length ≤ pre.length ∧ c.y.length ≤ pre.length
abbrev pLed (D : Addr) (news : List (Addr × Obj)) (c : PS) : List (Addr × Obj) := (D, listOf (c.ws ++ [Value.str c.y c.t]).toArray c.n) :: news
section
variable {prog : Program} {w : World} {A : Around} {E : Value → Shared → Prop} {s : Shared} {h₀ : Heap} {L D : Addr} {m : Str → Option Value} {news news' : List (Addr × Obj)} {ws : List Value} {y v : Value} {n : Nat}
theorem set_last {t : Tok} {Q : Unit → Shared → Prop} (F : Fr h₀ L s.heap m) (N : News h₀ L s.heap news) (U : Upd D (listOf (ws ++ [y]).toArray n) (listOf (ws ++ [v]).toArray n) news news')
    (h : ∀ h', Fr h₀ L h' m → News h₀ L h' news' → Q () { s with heap := h' }) : wpAny (model prog w) A (setItem (.ref D) (.int (-1) t) v) Q E s := by
  obtain ⟨pre, post, rfl, rfl, a, b'⟩ := U.split
  have z := N (D, listOf (ws ++ [y]).toArray n) (List.mem_append.mpr (.inr (.head _)))
  have e : (-1 + ((ws ++ [y]).toArray.size : Int)).toNat = ws.length := by simp; omega
  refine ki_setBack z.1 (by decide) (by simp; omega) (by decide) (h _ (F.change (Heap.SameBut.update ..) z.2.1 z.2.2) (ki_turn _ N a b' ?_ ?_))
  · rw [e]
    apply Array.toList_inj.mp
    simp
  · simp
theorem item_last {value slice : Expr} {u : Tok} {Q : Value → Shared → Prop} (hl : s.heap.IsList D (ws ++ [y]).toArray) (h : Q y s)
    (hs : subscripted slice false (.ref D) (.int (-1) u) = operate [.ref D, .int (-1) u] (getItem (.ref D) (.int (-1) u)) := by with_unfolding_all rfl) (hg : ∀ r, letTemporaryGo value (.ref D) r = pure () := by intro _; with_unfolding_all rfl) :
    wpAny (model prog w) A (subscriptTail value slice (.ref D) (.int (-1) u)) Q E s := by
  have e : (-1 + ((ws ++ [y]).toArray.size : Int)).toNat = ws.length := by simp; omega
  exact subscriptTail_builtin hl.typeIs slot_list_getitem.lookup (wpAny_getItem_list_neg hl (by decide) (by simp; omega) (by decide) (by rw [e]; simp) h) hs hg
theorem pieces_end {g : Heap} {L' : Addr} {own : List (Addr × Obj)} {h' : Heap} {tk : Nat} {s₁ : Shared} {m₀ : Str → Option Value} {u : Str → Option Value} {vv : Option Value} {pre : List Int} {c₀ c' : PS} {x : Str}
    (F' : Fr g L' h' (fun y => if y = x then vv else kstB (fun z => if ([] : List Str).contains z then u z else m₀ z) [] y)) (N' : News g L' h' (pLed D news c' ++ own)) (hp : PInv pre c') :
    InvEndN g L' (KstS (pLed D news) (fun _ => []) (fun _ => True) x [] m₀ PInv pre) own ((pLed D news c₀).map (·.1)) s₁ { s₁ with heap := h', toks := tk } := by
  refine InvEndN.intro F' N' ⟨c', rfl, trivial, (fun _ h => nomatch h), (fun z hz _ _ => by show (if z = x then vv else _) = m₀ z; rw [if_neg hz]; rfl), hp⟩ rfl (fun p hp => List.mem_append_left _ hp) (fun p hp => List.mem_append_right _ hp)
end
theorem tl_empty : tl "" = [] := by decide +kernel
theorem pinv_start {tk : Tok} : PInv [] ⟨[], "", tk, 0, []⟩ := ⟨.nil, by show [tl ""] = cut []; rw [tl_empty]; rfl, Nat.le_refl _, by show (Str.ofString "").length ≤ 0; decide +kernel⟩
theorem cut_snoc (l : List Nat) (c : Nat) : cut (l ++ [c]) = cutStep (cut l) c := by unfold cut; rw [List.foldl_append]; rfl
theorem pinv_eq {pre : List Int} {c : PS} {t : Tok} {n : Nat} (h : PInv pre c) : PInv (pre ++ [61]) ⟨c.ws ++ [Value.str c.y c.t], "", t, n, c.ts ++ [c.y]⟩ := by
  obtain ⟨h1, h2, h3, h4⟩ := h
  refine ⟨strsAre_append h1 (.cons _ _ .nil), ?_, by simpa using h3, Nat.zero_le _⟩
  show ((c.ts ++ [c.y]) ++ [Str.ofString ""]).map tl = cut ((pre ++ [61]).map Int.toNat)
  rw [List.map_append (l₁ := pre)]
  show _ = cut (pre.map Int.toNat ++ [61])
  rw [cut_snoc, ← h2, List.map_append (l₁ := c.ts ++ [c.y])]
  show _ ++ [tl ""] = _
  rw [tl_empty]
  rfl
theorem pinv_ne {pre : List Int} {c : PS} {t : Tok} {n k : Nat} (hk : k ≠ 61) (h : PInv pre c) : PInv (pre ++ [(k : Int)]) ⟨c.ws, c.y ++ ⟨#[k]⟩, t, n, c.ts⟩ := by
  obtain ⟨h1, h2, h3, h4⟩ := h
  refine ⟨h1, ?_, ?_, ?_⟩
  · show (c.ts ++ [c.y ++ (⟨#[k]⟩ : Str)]).map tl = cut ((pre ++ [(k : Int)]).map Int.toNat)
    rw [List.map_append (l₁ := pre)]
    show _ = cut (pre.map Int.toNat ++ [k])
    rw [cut_snoc, ← h2]
    simp [cutStep, hk, tl_append, show tl ⟨#[k]⟩ = [k] from rfl]
  · show c.ts.length ≤ (pre ++ [(k : Int)]).length
    rw [List.length_append]; omega
  · show (c.y ++ (⟨#[k]⟩ : Str)).length ≤ (pre ++ [(k : Int)]).length
    rw [← tl_length, tl_append, List.length_append, List.length_append, tl_length]
    show c.y.length + 1 ≤ _
    simp only [List.length_cons, List.length_nil]
    omega
section
variable {prog : Program} {w : World} {A : Around} {E : Value → Shared → Prop} {s : Shared} {h₀ : Heap} {L D : Addr} {m : Str → Option Value} {news own : List (Addr × Obj)} {c c₀ : PS}
theorem pl_apart (l1 : ∀ p ∈ news, p.1 < D) (off : OwnOff own ((pLed D news c₀).map (·.1))) : ∀ p ∈ news ++ own, p.1 ≠ D := by
  intro p hp
  rcases List.mem_append.mp hp with hp | hp
  · exact Nat.ne_of_lt (l1 p hp)
  · exact off p hp D (.head _)
theorem pl_append {y : Str} {t : Tok} {Q : Value → Shared → Prop} (F : Fr h₀ L s.heap m) (N : News h₀ L s.heap (pLed D news c ++ own)) (l1 : ∀ p ∈ news, p.1 < D) (off : OwnOff own ((pLed D news c₀).map (·.1))) (hz : c.ws.length ≤ 1000)
    (h : ∀ h', Fr h₀ L h' m → News h₀ L h' (pLed D news ⟨c.ws ++ [Value.str c.y c.t], y, t, c.n + 1, c.ts ++ [c.y]⟩ ++ own) → Q .none { s with heap := h' }) :
    wpAny (model prog w) A (call (.builtin "list.append") [.ref D, .str y t]) Q E s := by
  refine append_K F N (Upd.head (pl_apart l1 off)) (fun h' F' N' => h h' F' ?_) (by rw [sizeLine_eq]; simp; omega)
  rw [List.push_toArray] at N'
  exact N'
theorem pl_set {y : Str} {t tk : Tok} {Q : Unit → Shared → Prop} (F : Fr h₀ L s.heap m) (N : News h₀ L s.heap (pLed D news c ++ own)) (l1 : ∀ p ∈ news, p.1 < D) (off : OwnOff own ((pLed D news c₀).map (·.1)))
    (h : ∀ h', Fr h₀ L h' m → News h₀ L h' (pLed D news ⟨c.ws, y, t, c.n, c.ts⟩ ++ own) → Q () { s with heap := h' }) :
    wpAny (model prog w) A (setItem (.ref D) (.int (-1) tk) (.str y t)) Q E s :=
  set_last (ws := c.ws) (y := .str c.y c.t) F N (Upd.head (pl_apart l1 off)) h
theorem pl_list (N : News h₀ L s.heap (pLed D news c ++ own)) : s.heap.IsList D (c.ws ++ [Value.str c.y c.t]).toArray := News.isList N (.head _)
end
theorem pinv_len {x : Str} {pre post : List Int} {k : Int} {c : PS} (e : KStt.codes x = pre ++ k :: post) (h : PInv pre c) (hx : x.length ≤ 100) : c.ws.length ≤ 1000 ∧ c.y.length ≤ 100 := by
  obtain ⟨h1, h2, h3, h4⟩ := h
  have l := KStt.codes_length x
  rw [e, List.length_append] at l
  have := h1.length
  omega
theorem pl_fit {y : Str} {k : Nat} (h : y.length ≤ 100) : y.length + (⟨#[k]⟩ : Str).length ≤ sizeLine := by
  rw [sizeLine_eq]
  show y.length + 1 ≤ _
  omega
theorem sign_eq {k : Nat} (h : ((⟨#[k]⟩ : Str) == "=") = true) : k = 61 := by
  have e : (⟨#[k]⟩ : Str) = "=" := eq_of_beq h
  have e2 : tl ⟨#[k]⟩ = tl "=" := by rw [e]
  have e3 : tl "=" = [61] := by decide +kernel
  rw [e3] at e2
  exact (List.cons.inj e2).1
theorem sign_ne {k : Nat} (h : ((⟨#[k]⟩ : Str) == "=") = false) : k ≠ 61 := by
  rintro rfl
  exact absurd h (by decide +kernel)
theorem pinv_eq' {pre : List Int} {c : PS} {t : Tok} {n k : Nat} (hk : ((⟨#[k]⟩ : Str) == "=") = true) (h : PInv pre c) : PInv (pre ++ [(k : Int)]) ⟨c.ws ++ [Value.str c.y c.t], "", t, n, c.ts ++ [c.y]⟩ := by
  rw [sign_eq hk]; exact pinv_eq h
theorem codes_tl (x : Str) : (KStt.codes x).map Int.toNat = tl x := by
  unfold KStt.codes
  rw [List.map_map]
  exact (List.map_congr_left (g := _root_.id) fun c _ => Int.toNat_natCast c).trans (List.map_id _)
/-- a list of texts, made in the call -/
def TextsOut (P : List Str → Prop) (nw : List (Addr × Obj)) (r : Value) : Prop := ∃ (D : Addr) (vs : List Value) (n : Nat) (ts : List Str), r = .ref D ∧ nw = [(D, listOf vs.toArray n)] ∧ StrsAre vs ts ∧ P ts
theorem pieces_out {x : Str} {c : PS} {D : Addr} (h : PInv (KStt.codes x) c) : TextsOut (fun ts => ts.map tl = cut (tl x)) [(D, listOf (c.ws ++ [Value.str c.y c.t]).toArray c.n)] (.ref D) := by
  obtain ⟨h1, h2, h3, h4⟩ := h
  rw [codes_tl] at h2
  exact ⟨D, _, _, _, rfl, rfl, strsAre_append h1 (.cons _ _ .nil), h2⟩
end Mine
end


section
open PySem PySem.W PyProof.Rows PySem.Calls
set_option Elab.async false
namespace Mine
local macro_rules | `(tactic| walk_at "pyIter str") => `(tactic| (k_here; (with_reducible show wpAny _ _ (pyIter (Value.str _ _)) _ _ _); (with_unfolding_all refine' KStt.kst_text (σ := PS) (pLed _ _) (fun _ => []) (fun _ => True) [] PInv ⟨[], "", _, 0, []⟩ (by rfl) (by assumption) ?kn ?kf ?kk ?kp ?kt ?kd); (case kn => assumption); (case kf => trivial); (case kk => exact fun _ h => nomatch h); (case kp => exact pinv_start)))
local macro_rules | `(tactic| walk_at "exec For Name Name cons nil") => `(tactic| (k_here; (rename Fr _ _ _ _ => lF'); (with_unfolding_all refine' For_invVF lF' ?k1 ?k2 ?_; (case k1 => exact rfl); (case k2 => exact rfl); k_whole)))
local macro_rules | `(tactic| walk_at "call builtin:list.append") => `(tactic| (k_here; (refine pl_append (by assumption) (by assumption) (by assumption) (by assumption) (pinv_len (by assumption) (by assumption) (by assumption)).1 ?_); intro h' F' N'))
local macro_rules | `(tactic| walk_at "setItem ref int") => `(tactic| (k_here; (refine pl_set (by assumption) (by assumption) (by assumption) (by assumption) ?_); intro h' F' N'))
local macro_rules | `(tactic| walk_at "subscriptTail") => `(tactic| (k_here; (with_reducible show wpAny _ _ (subscriptTail _ _ (Value.ref _) (Value.int (-1) _)) _ _ _); (refine item_last (pl_list (by assumption)) ?_)))
local macro_rules | `(tactic| walk_at "binaryOp Add str str") => `(tactic| (k_here; (with_reducible show wpAny _ _ (binaryOp Operator.Add (Value.str (PS.y _) _) (Value.str _ _)) _ _ _); (refine SB.add (fun t' k => ?_) (pl_fit (pinv_len (by assumption) (by assumption) (by assumption)).2); (try dsimp only))))
set_option maxHeartbeats 2000000 in
theorem c_pieces {prog : Program} {w : World} (x : Str) (t : Tok) (hx : x.length ≤ 100) :
   Gives prog w (.ref 193) [.str x t] (fun _ => True) (TextsOut fun ts => ts.map tl = cut (tl x)) := by
  w_top off
  unfold Gives
  intro p loose mean mg mb dp un gd cn cs a ccd cl outer A₀ base h₀ L m news s Q E B F X N T hk hpre hdp hun hret
  refine wpAny_call ?_
  k_dflt cell_enter
  k_steps
  · exact pieces_end (by assumption) (by assumption) (pinv_eq' (by assumption) (by assumption))
  · exact pieces_end (by assumption) (by assumption) (pinv_ne (sign_ne (by assumption)) (by assumption))
  · refine hret _ [(_, listOf (PS.ws _ ++ [Value.str (PS.y _) (PS.t _)]).toArray (PS.n _))] _ _ (by assumption) (by assumption) (fun q hq p hp => by rw [List.mem_singleton.mp hq]; exact Nat.ne_of_lt ((by assumption : ∀ p ∈ news, p.1 < _) p hp)) (pieces_out (by assumption))
end Mine
end


section
open PySem PySem.W PyProof.Rows PySem.Calls
set_option Elab.async false
namespace Mine
set_option maxHeartbeats 1000000 in
theorem c_body0 {prog : Program} {w : World} (P S : Addr) (vs : List Value) (n n' : Nat) (y : Str) (t : Tok) :
   GivesO 1 prog w (.ref 200) [.ref P, .ref S, .str y t] [(P, listOf vs.toArray n), (S, listOf #[] n')] (TextsOut fun ts => ts = []) := by
  w_top off
  unfold GivesO
  intro p loose mean mg mb dp un gd cn cs a ccd cl outer A₀ base h₀ L m news s Q E B F X N T hk hdp hun hret
  refine wpAny_call ?_
  k_dflt cell_enter
  k_steps
  refine hret _ [(_, listOf #[] 0)] _ _ (by assumption) (Mine.News.keepHead (by assumption) (fun q hq => ?_)) ?_ ⟨_, [], _, [], rfl, rfl, .nil, rfl⟩
  · repeat first | exact hq | apply List.Mem.tail
  · exact apart_of_lt (And.right (by assumption))
end Mine
end


section
open PySem PySem.W PyProof.Rows PySem.Calls
set_option Elab.async false
namespace Mine
theorem solid_eq {prog : Program} {w : World} {A : Around} {E : Value → Shared → Prop} {s : Shared} {Q : Value → Shared → Prop} {a b : Addr} {xs : List Value} {ns : List Int} (ha : s.heap.IsList a xs.toArray) (hb : s.heap.IsList b #[]) (hi : IntsAre xs ns) (hn : ns ≠ []) (hu : A.units + 64 < cLine) (h : Q (.bool false) s) :
    wpAny (model prog w) A (compareOp .Eq (.ref a) (.ref b)) Q E s :=
  ke_eq_ints (ys := []) (ms := []) ha hb hi .nil hu (by rw [decide_eq_false hn]; exact h)
local macro_rules | `(tactic| walk_at "compareOp Eq ref ref") => `(tactic| (k_here; (refine solid_eq (by is_list) (by is_list) (by assumption) (by assumption) (by ktr_units) ?_)))
local macro_rules | `(tactic| walk_at "subscriptTail") => `(tactic| (k_here; (with_reducible show wpAny _ _ (subscriptTail _ _ (Value.ref _) (Value.int (-1) _)) _ _ _); (refine item_last (by is_list) ?_)))
theorem getD_len {ts : List Str} {i b : Nat} (h : ∀ a ∈ ts, a.length ≤ b) : (ts.getD i Str.empty).length ≤ b := by
  rw [List.getD_eq_getElem?_getD]
  cases e : ts[i]? with
  | none => exact Nat.zero_le _
  | some y => exact h y (List.mem_of_getElem? e)
theorem bar_len (y : Str) : ("|" ++ y : Str).length = y.length + 1 := by
  rw [← tl_length, tl_append, List.length_append, tl_length]
  have e : (Str.ofString "|").length = 1 := by decide +kernel
  rw [tl_length, e]
  omega
theorem bar_fit {y : Str} (h : y.length ≤ 100) : (Str.ofString "|").length + y.length ≤ sizeLine := by
  rw [sizeLine_eq]
  have : (Str.ofString "|").length = 1 := by decide +kernel
  omega
local macro_rules | `(tactic| walk_at "binaryOp Add str str") => `(tactic| (k_here; (with_reducible show wpAny _ _ (binaryOp Operator.Add (Value.str _ _) (Value.str (List.getD _ _ _) _)) _ _ _); (refine SB.add (fun t' k => ?_) (bar_fit (getD_len (by assumption))); (try dsimp only))))
local macro_rules | `(tactic| walk_at "call ref") => `(tactic| (k_here; (with_reducible show wpAny _ _ (PySem.call (Value.ref _) [Value.str _ _, Value.str _ _]) _ _ _); (refine Gives.use (c_bare _ _ _ _ (by rw [bar_len]; exact Nat.succ_le_succ (Nat.le_trans (getD_len (by assumption)) (by decide))) (by assumption)) (by k_asm) (by k_asm) (by k_asm) (by k_asm) (by k_asm) (by rfl) trivial (by ktr_room) (by ktr_units) ?_); intro r' nw' h' tk' F' N' hne' ho'; obtain ⟨e1', z', t', e2', hz', hlz'⟩ := ho'; subst e1'; subst e2'; (try simp only [List.nil_append] at N')))
local macro_rules | `(tactic| walk_at "subscriptTail") => `(tactic| (k_here; (with_reducible show wpAny _ _ (subscriptTail _ (Expr.Slice (some _) none none _) (Value.str _ _) (Value.ref _)) _ _ _); (refine slice_strN_sn_len (hsz := ?hz) (by k_asm) (by k_asm) ?_; (case hz => exact sizeLine_ge (Nat.le_trans (by assumption) (by rw [bar_len]; exact Nat.le_trans (Nat.succ_le_succ (getD_len (by assumption))) (by decide)))); intro h' t' k' F' N' hls'; (try dsimp only))))
theorem slice_tail (x : Str) : tl (Txt.slice x (some 1) none) = (tl x).drop 1 := by
  by_cases h : (1 : Int) ≤ x.length
  · rw [slice_from_eq (b := x.length) (by decide) h rfl]
    show List.take _ (List.drop 1 (tl x)) = _
    rw [List.take_of_length_le]
    rw [List.length_drop, tl_length]
    omega
  · rw [slice_beyond (by omega)]
    have h0 : (tl x).length = 0 := by rw [tl_length]; omega
    rw [List.length_eq_zero_iff.mp h0]
    rfl
theorem body_fit {vs : List Value} {ts : List Str} {k : Nat} {v : Value} (hv : StrsAre vs ts) (h : ts.length ≤ 30) : (slicePick vs.toArray none (some (k : Int)) none).toList.length + (#[v] : Array Value).toList.length ≤ sizeLine := by
  have h1 := (strs_upto hv (y := (k : Int)) (by omega)).length
  rw [h1, sizeLine_eq]
  simp
  omega
theorem body_out {vs : List Value} {ts : List Str} {k : Nat} {z y : Str} {t : Tok} {D : Addr} (hv : StrsAre vs ts) (hz : tl z = trim (fun c => decide (c ∈ tl y)) (tl ("|" ++ ts.getD (k : Int).toNat Str.empty))) :
    TextsOut (fun out => ∃ z, out = ts.take k ++ [z] ∧ tl z = (trim (fun c => decide (c ∈ tl y)) (124 :: tl (ts.getD k Str.empty))).drop 1)
      [(D, listOf ((slicePick vs.toArray none (some (k : Int)) none).toList ++ (#[Value.str (Txt.slice z (some 1) none) t] : Array Value).toList).toArray 0)] (.ref D) := by
  refine ⟨D, _, _, _, rfl, rfl, strsAre_append (strs_upto hv (by omega)) (.cons _ _ .nil), _, rfl, ?_⟩
  rw [slice_tail, hz, tl_append]
  rfl
local macro_rules | `(tactic| walk_at "binaryOp Add ref ref") => `(tactic| (k_here; (with_reducible show wpAny _ _ (binaryOp _ (Value.ref _) (Value.ref _)) _ _ _); (refine kmk_add_lit (its := slicePick _ _ _ _) (its2 := #[_]) (by k_asm) (by k_asm) (by is_list) (by is_list) rfl ?_ (body_fit (by assumption) (by assumption))); intro D' h' F' N' l1; (try k_lt l1)))
set_option maxHeartbeats 1000000 in
theorem c_body1 {prog : Program} {w : World} (P S : Addr) (vs ws : List Value) (n n' k : Nat) (tk : Tok) (ts : List Str) (ns : List Int) (y : Str) (t : Tok) (hv : StrsAre vs ts) (hk : k < ts.length) (hi : IntsAre (ws ++ [Value.int k tk]) ns) (hne : ns ≠ []) (hts : ts.length ≤ 30) (hl : ∀ a ∈ ts, a.length ≤ 100) (hy : y.length ≤ 100) :
   GivesO 2 prog w (.ref 200) [.ref P, .ref S, .str y t] [(P, listOf vs.toArray n), (S, listOf (ws ++ [Value.int k tk]).toArray n')] (TextsOut (fun out => ∃ z, out = ts.take k ++ [z] ∧ tl z = (trim (fun c => decide (c ∈ tl y)) (124 :: tl (ts.getD k Str.empty))).drop 1)) := by
  w_top off
  unfold GivesO
  intro p loose mean mg mb dp un gd cn cs a ccd cl outer A₀ base h₀ L m news s Q E B F X N T hk hdp hun hret
  refine wpAny_call ?_
  k_dflt cell_enter
  k_steps
  refine hret _ [(_, listOf (List.toArray (_ ++ _ : List Value)) 0)] _ _ (by assumption) (Mine.News.keepHead (by assumption) (fun q hq => ?_)) ?_ (body_out (by assumption) (by assumption))
  · repeat first | exact hq | apply List.Mem.tail
  · first
      | exact apart_of_lt (And.right (by assumption))
      | exact apart_of_lt (And.right (And.right (by assumption)))
      | exact apart_of_lt (And.right (And.right (And.right (by assumption))))
      | exact apart_of_lt (And.right (And.right (And.right (And.right (by assumption)))))
end Mine
end


section
open PySem PySem.W PyProof.Rows PySem.Calls
set_option Elab.async false
namespace Mine
theorem ints_last {zs : List Value} {ks : List Nat} (h : IntsAre zs (ks.map Int.ofNat)) (hne : ks ≠ []) : ∃ ws k tk, zs = ws ++ [Value.int (k : Nat) tk] ∧ ks.getLast? = some k := by
  induction ks generalizing zs with
  | nil => exact absurd rfl hne
  | cons k r ih =>
    cases h with
    | cons n t h =>
      cases r with
      | nil => cases h; exact ⟨[], k, t, rfl, rfl⟩
      | cons k' r =>
        obtain ⟨ws, j, tj, e1, e2⟩ := ih h (by simp)
        exact ⟨Value.int (Int.ofNat k) t :: ws, j, tj, by rw [e1]; rfl, by rw [List.getLast?_cons_cons]; exact e2⟩
theorem GivesO.mono {r₀ r₁ : Nat} {prog : Program} {w : World} {f : Value} {vs : List Value} {own : List (Addr × Obj)} {Out Out' : List (Addr × Obj) → Value → Prop} (H : GivesO r₀ prog w f vs own Out) (hr : r₀ ≤ r₁) (ho : ∀ nw r, Out nw r → Out' nw r) : GivesO r₁ prog w f vs own Out' := by
  unfold GivesO at H ⊢
  intro p loose mean mg mb dp un gd cn cs a ccd cl outer A₀ base h₀ L m news s Q E B F X N T hk hdp hun hret
  exact H p loose mean mg mb dp un gd cn cs a ccd cl outer A₀ base h₀ L m news s Q E B F X N T hk (by omega) (by omega) fun r nw h' tk' F' N' hne o => hret r nw h' tk' F' N' hne (ho _ _ o)
theorem TextsOut.mono {P P' : List Str → Prop} (h : ∀ ts, P ts → P' ts) : ∀ nw r, TextsOut P nw r → TextsOut P' nw r := fun _ _ ⟨D, vs, n, ts, e1, e2, hv, hp⟩ => ⟨D, vs, n, ts, e1, e2, hv, h _ hp⟩
theorem c_bodyS {prog : Program} {w : World} (P S : Addr) (vs zs : List Value) (n n' : Nat) (ts : List Str) (ks : List Nat) (t : Tok) (hv : StrsAre vs ts) (hi : IntsAre zs (ks.map Int.ofNat)) (hk : ∀ k ∈ ks, k < ts.length) (hts : ts.length ≤ 30) (hl : ∀ a ∈ ts, a.length ≤ 100) :
   GivesO 2 prog w (.ref 200) [.ref P, .ref S, .str white t] [(P, listOf vs.toArray n), (S, listOf zs.toArray n')] (TextsOut fun out => out = bodyS ts ks) := by
  by_cases hne : ks = []
  · subst hne
    cases hi
    exact (c_body0 P S vs n n' white t).mono (by decide) (TextsOut.mono fun out e => by rw [e]; rfl)
  · obtain ⟨ws, k, tk, rfl, e⟩ := ints_last hi hne
    refine (c_body1 P S vs ws n n' k tk ts (ks.map Int.ofNat) white t hv (hk k (List.mem_of_getLast? e)) hi (by simpa using hne) hts hl white_len).mono (Nat.le_refl _) (TextsOut.mono fun out ho => ?_)
    obtain ⟨z, rfl, hz⟩ := ho
    have e2 : z = tailS (ts.getD k Str.empty) := tl_ext (by rw [hz]; exact (tl_mk _).symm)
    unfold bodyS
    rw [e, e2]
end Mine
end


section
open PySem PySem.W PyProof.Rows PySem.Calls
set_option Elab.async false
namespace Mine
local macro_rules | `(tactic| walk_at "call builtin:tuple.__new__") => `(tactic| (k_here; (refine tuple_new_pair (by k_asm) (by k_asm) (by k_asm) (by k_mem) rfl rfl ?_); intro x' d' h' F' N' l1 l2; (try dsimp only)))
local macro_rules | `(tactic| walk_at "getMethod type:tuple") => `(tactic| (k_here; refine' method_type ?F ?X ?m (by decide +kernel) ?e ?h ?_; (case F => k_asm); (case X => k_asm); (case m => exact meta_tuple); (case e => k_dflt k_is); (case h => k_handed)))
theorem drop_third {h₀ h : Heap} {L : Addr} {a b c : Addr × Obj} {news : List (Addr × Obj)} (N : News h₀ L h (a :: b :: c :: news)) : News h₀ L h (a :: b :: news) := N.perm fun q hq => by
  rcases List.mem_cons.mp hq with rfl | hq
  · exact .head _
  · rcases List.mem_cons.mp hq with rfl | hq
    · exact .tail _ (.head _)
    · exact .tail _ (.tail _ (.tail _ hq))
set_option maxHeartbeats 1000000 in
theorem c_new {prog : Program} {w : World} {p : Program} {loose : List Str} {mean : ExcName → Option Value} {mg mb : Str → Option Value}
    {dp un : Nat} {gd : Option (List Code)} {cn : Str} {cs : Scope} {a : Addr} {ccd : Value} {cl : List (Str × Addr)} {outer : List Env} {A₀ : Around} {base h₀ : Heap} {L : Addr} {m : Str → Option Value} {news : List (Addr × Obj)} {s : Shared} {R : Result → Shared → Prop} (v1 v2 : Value)
    (B : Below A₀ base outer h₀) (F : Fr h₀ L s.heap m) (X : (hd.heap_39 w.params).In h₀) (N : News h₀ L s.heap news) (T : Top p loose mean mg mb h₀) (hk : cs.kind = .function) (hdp : dp + 5 < recursionLimit)
    (hret : ∀ x d h' tk', Fr h₀ L h' m → News h₀ L h' ((x, pairObj v1 v2 d) :: (d, dictOf [] 0) :: news) → (∀ p ∈ news, p.1 < d) → d < x → R (.ok (.ret (.ref x))) { s with heap := h', toks := tk' }) :
    codeAny (model prog w) (ktrTop dp un gd cn cs L a ccd cl outer) (.call (.ref 96) ⟨[.ref 169, v1, v2], []⟩) R s := by
  w_top off
  k_dflt cell_enter
  k_steps
  refine hret _ _ _ _ (by assumption) (drop_third (by assumption)) (fun p hp => (by assumption : ∀ p ∈ (_, _) :: news, p.1 < _) p (.tail _ hp)) (by assumption)
theorem weight_tc {vals : List Value} : (Code.builtin "type.__call__" ⟨.ref 169 :: vals, []⟩).weight = 1 := by kernel_rfl
theorem guards_tc {vals : List Value} : (Code.builtin "type.__call__" ⟨.ref 169 :: vals, []⟩).guards = [] := by kernel_rfl
theorem envs_tc {vals : List Value} : (Code.builtin "type.__call__" ⟨.ref 169 :: vals, []⟩).envs = [] := by kernel_rfl
theorem under_tc {dp un : Nat} {gd : Option (List Code)} {cn : Str} {cs : Scope} {L a : Addr} {ccd : Value} {cl : List (Str × Addr)} {outer : List Env} {vals : List Value} :
    (ktrTop dp un gd cn cs L a ccd cl outer).under (.builtin "type.__call__" ⟨.ref 169 :: vals, []⟩) = ktrTop (dp + 1) (un + (Code.builtin "type.__call__" ⟨.ref 169 :: vals, []⟩).cUnits) gd cn cs L a ccd cl outer := by
  unfold Around.under
  rw [weight_tc, guards_tc, envs_tc]
  rfl
theorem pair_made {prog : Program} {w : World} {p : Program} {loose : List Str} {mean : ExcName → Option Value} {mg mb : Str → Option Value}
    {dp un : Nat} {gd : Option (List Code)} {cn : Str} {cs : Scope} {a : Addr} {ccd : Value} {cl : List (Str × Addr)} {outer : List Env} {A₀ : Around} {base h₀ : Heap} {L : Addr} {m : Str → Option Value} {news : List (Addr × Obj)} {s : Shared} {Q E : Value → Shared → Prop} (v1 v2 : Value)
    (B : Below A₀ base outer h₀) (F : Fr h₀ L s.heap m) (X : (hd.heap_39 w.params).In h₀) (N : News h₀ L s.heap news) (T : Top p loose mean mg mb h₀) (hk : cs.kind = .function) (hdp : dp + 6 < recursionLimit)
    (hret : ∀ x d h' tk', Fr h₀ L h' m → News h₀ L h' ((x, pairObj v1 v2 d) :: (d, dictOf [] 0) :: news) → (∀ p ∈ news, p.1 < d) → d < x → Q (.ref x) { s with heap := h', toks := tk' }) :
    wpAny (model prog w) (ktrTop dp un gd cn cs L a ccd cl outer) (PySem.call (.ref 169) [v1, v2]) Q E s := by
  refine wpAny_call (pair_call F X (fun o => oi_args3 o v1 v2) ?_)
  rw [under_tc]
  refine c_new (p := p) (loose := loose) (mean := mean) (mg := mg) (mb := mb) (dp := dp + 1) (cn := cn) (cs := cs) (L := L) (a := a) (ccd := ccd) (cl := cl) (outer := outer) (s := { s with toks := s.toks + 1 }) v1 v2 B F X N T hk (by omega) (fun x d h' tk' F' N' l1 l2 => ?_)
  exact ⟨X.keeps F'.keep, x, _, rfl, (N' _ (.head _)).1, rfl, hret x d h' tk' F' N' l1 l2⟩
end Mine
end


section
open PySem PySem.W PyProof.Rows PySem.Calls
set_option Elab.async false
namespace Mine
local macro_rules | `(tactic| walk_at "getAttr") => `(tactic| (k_here; (with_reducible show wpAny _ _ (getAttr (Value.type "str") _ _) _ _ _); refine' attr_type ?F ?X ?m (by decide +kernel) ?e ?h ?_; (case F => k_asm); (case X => k_asm); (case m => exact meta_str); (case e => k_dflt k_is); (case h => k_handed)))
theorem textsAt_strs {vs : List Value} {ts : List Str} (h : StrsAre vs ts) : TextsAt vs.toArray ts := by
  refine ⟨by rw [List.size_toArray]; exact h.length, fun i x hx => ?_⟩
  obtain ⟨t, ht⟩ := h.at hx
  exact ⟨t, by simpa using ht⟩
theorem strs_two {vs : List Value} {l : List (Str × Tok)} {x a b : Str} (h : StrsAre vs ((l.map (·.1)).map Txt.strip)) (e : l.map (·.1) = Txt.splitMax x "=" 1) (hs : Txt.splitMax x "=" 1 = [a, b]) : ∃ t1 t2, vs = [.str (Txt.strip a) t1, .str (Txt.strip b) t2] := by
  rw [e, hs] at h
  cases h with
  | cons _ t1 h => cases h with
    | cons _ t2 h => cases h; exact ⟨t1, t2, rfl⟩
theorem map_sizes {l : List (Str × Tok)} {x : Str} (h : ∀ a : Str, a ∈ l.map (·.1) → a.length ≤ x.length) (hx : x.length ≤ 1000) : ∀ a ∈ l.map (·.1), a.length ≤ sizeLine := fun a ha => sizeLine_ge (Nat.le_trans (h a ha) (by omega))
theorem map_few {l : List (Str × Tok)} {x a b : Str} (e : l.map (·.1) = Txt.splitMax x "=" 1) (hs : Txt.splitMax x "=" 1 = [a, b]) : (l.map (·.1)).length ≤ sizeLine := by
  rw [e, hs]; exact sizeLine_ge (show 2 ≤ 100000 by decide)
local macro_rules | `(tactic| walk_at "call type:map") => `(tactic| (k_here; (refine star_map rfl (by k_asm) (by k_asm) (by assumption) (textsAt_strs (by assumption)) (map_sizes (by assumption) (by assumption)) (map_few (by assumption) (by assumption)) ?_); intro vs' h' tk' hv' F' N'; (obtain ⟨t1', t2', e1'⟩ := strs_two hv' (by assumption) (by assumption)); subst e1'; (try dsimp only [List.nil_append, List.append_nil, List.cons_append])))
local macro_rules | `(tactic| walk_at "call ref") => `(tactic| (k_here; (with_reducible show wpAny _ _ (PySem.call (Value.ref 169) [Value.str _ _, Value.str _ _]) _ _ _); (refine pair_made _ _ (by k_asm) (by k_asm) (by k_asm) (by k_asm) (by k_asm) (by rfl) (by ktr_room) ?_); intro x' d' h' tk' F' N' l1 l2; (try dsimp only)))
theorem two_apart {x d : Addr} {o1 o2 : Obj} {z : Addr × Obj} {news : List (Addr × Obj)} (l1 : ∀ p ∈ z :: news, p.1 < d) (l2 : d < x) : ∀ q ∈ [(x, o1), (d, o2)], ∀ p ∈ news, p.1 ≠ q.1 := by
  intro q hq p hp
  have h := l1 p (.tail _ hp)
  rcases List.mem_cons.mp hq with rfl | hq
  · exact Nat.ne_of_lt (Nat.lt_trans h l2)
  · rw [List.mem_singleton.mp hq]; exact Nat.ne_of_lt h
set_option maxHeartbeats 1000000 in
theorem c_parse {prog : Program} {w : World} (x : Str) (t : Tok) (hx : x.length ≤ 1000) (a b : Str) (hs : Txt.splitMax x "=" 1 = [a, b]) :
   GivesC 2 prog w (.ref 163) [.ref 169, .str x t] (fun _ => True) (fun nw r => ∃ (q d : Addr) (t1 t2 : Tok), r = .ref q ∧ nw = [(q, pairObj (.str (Txt.strip a) t1) (.str (Txt.strip b) t2) d), (d, dictOf [] 0)]) := by
  w_top off
  unfold GivesC
  intro p loose mean mg mb dp un gd cn cs aa ccd cl outer A₀ base h₀ L m news s R B F X N T hk hpre hdp hun hret
  k_dflt cell_enter
  k_steps
  exact hret _ [(_, pairObj _ _ _), (_, dictOf [] 0)] _ _ (by assumption) (drop_third (by assumption)) (two_apart (by assumption) (by assumption)) ⟨_, _, _, _, rfl, rfl⟩
end Mine
end


section
open PySem PySem.W PyProof.Rows PySem.Calls Builtin Builtin.ObjectAttr
set_option Elab.async false
namespace Mine
theorem is_nested {M : Model} {h : Heap} (X : (hd.heap_39 M.w.params).In h) : Looks M h (Builtin.«issubclass.nested» ⟨[.ref 169, .type "tuple", rawInt 0], []⟩) (Fin.done (.ret (.bool true))) := Looks.of_peek X (by kernel_rfl)
theorem is_check {M : Model} {h : Heap} (X : (hd.heap_39 M.w.params).In h) : Looks M h (checkBuiltinCall "issubclass" ⟨[.ref 169, .type "tuple"], []⟩) () := Looks.of_peek X (by kernel_rfl)
section
variable {prog : Program} {w : World} {A : Around} {E : Value → Shared → Prop} {s : Shared} {h₀ : Heap} {L : Addr} {m : Str → Option Value} {news : List (Addr × Obj)} {q d : Addr} {v1 v2 : Value}
theorem issub_pair {Q : Value → Shared → Prop} (F : Fr h₀ L s.heap m) (X₀ : (hd.heap_39 w.params).In h₀) (h : Q (.bool true) s) : wpAny (model prog w) A (PySem.call (.builtin "issubclass") [.ref 169, .type "tuple"]) Q E s := by
  have X := X₀.keeps F.keep
  have c1 := is_check (M := model prog w) X
  have c2 := is_nested (M := model prog w) X
  refine wpAny_call (codeAny_call_builtin PySem.F.plain_issubclass PySem.F.entry_issubclass (c1.here (issubclass_outer (c2.here h))))
theorem inst_pair (N : News h₀ L s.heap news) (h1 : (q, pairObj v1 v2 d) ∈ news) (h2 : (d, dictOf [] 0) ∈ news) : InstAt s.heap q (pairObj v1 v2 d) 169 (some (dictOf [] 0)) := ⟨(N _ h1).1, rfl, rfl, (N _ h2).1⟩
theorem tg_kind : builtinKind "tuple.__getitem__" = some .slot := by decide +kernel
theorem tg_split : splitId "tuple.__getitem__" = some ("tuple", "__getitem__") := by decide +kernel
theorem getitem_pair {t : Tok} {k : Int} {v : Value} {Q : Value → Shared → Prop} (F : Fr h₀ L s.heap m) (X₀ : (hd.heap_39 w.params).In h₀) (N : News h₀ L s.heap news) (h1 : (q, pairObj v1 v2 d) ∈ news) (h0 : 0 ≤ k) (hk : k < 2) (hv : (#[v1, v2] : Array Value)[k.toNat]? = some v)
    (h : Q v s) : wpAny (model prog w) A (PySem.call (.builtin "tuple.__getitem__") [.ref q, .int k t]) Q E s := by
  have X := X₀.keeps F.keep
  have hx := (N _ h1).1
  have ty : Looks (model prog w) s.heap (typeOf (.ref q)) (.ref 169) := (Looks.ld (part := none) hx).andThen .now
  have i3 : Looks (model prog w) s.heap (isInstance (.ref q) (.type "tuple")) true := ty.andThen (pk_tup X)
  refine wpAny_call (codeAny_call_builtin (by decide +kernel) entry_tuple_getitem (@check_slot (model prog w) _ _ s "tuple.__getitem__" "tuple" "__getitem__" (.ref q) [.int k t] [] _ tg_kind tg_split i3 (args_tuple_getitem _ _) ?_))
  show wpAny _ _ (Builtin.Tuple.tupleItemsOf (.ref q) >>= _) _ _ s
  refine wpAny_bind ?_
  show wpAny _ _ (seqItems? (.ref q) >>= _) _ _ s
  refine wpAny_bind (wpAny_seqItems hx rfl (wpAny_pure ?_))
  refine wpAny_bind (wpAny_typeOf (T := "int") (typeIs_int s k t) ?_)
  rw [if_neg (by decide)]
  refine wpAny_bind (wpAny_specialOf (T := "int") (typeIs_int s k t) int_index ?_)
  show wpAny _ _ (asIndex (.int k t) >>= _) _ _ s
  refine wpAny_bind (wpAny_of_eq (a := k) rfl ?_)
  dsimp only
  rw [if_neg (by simp only [Bool.or_eq_true, decide_eq_true_eq]; omega), seqIndex_of h0 (by simpa using hk), Option.bind_some, hv]
  exact wpAny_pure h
end
end Mine
end


section
open PySem PySem.W PyProof.Rows PySem.Calls
set_option Elab.async false
namespace Mine
local macro_rules | `(tactic| walk_at "getMethod type:tuple") => `(tactic| (k_here; refine' method_type ?F ?X ?m (by decide +kernel) ?e ?h ?_; (case F => k_asm); (case X => k_asm); (case m => exact meta_tuple); (case e => k_dflt k_is); (case h => k_handed)))
local macro_rules | `(tactic| walk_at "call type:type") => `(tactic| (k_here; (refine kto_own (inst_pair (by k_asm) (by k_mem) (by k_mem)) ?_)))
local macro_rules | `(tactic| walk_at "call builtin:issubclass") => `(tactic| (k_here; (refine issub_pair (by k_asm) (by k_asm) ?_)))
local macro_rules | `(tactic| walk_at "call builtin:tuple.__getitem__") => `(tactic| (k_here; (refine getitem_pair (by k_asm) (by k_asm) (by k_asm) (by k_mem) (by decide) (by decide) rfl ?_)))
set_option maxHeartbeats 1000000 in
theorem c_tget {prog : Program} {w : World} (q d : Addr) (x1 x2 : Str) (t1 t2 : Tok) :
   GivesO 1 prog w (.ref 57) [.ref 138, .ref q, .ref 169] [(q, pairObj (.str x1 t1) (.str x2 t2) d), (d, dictOf [] 0)] (fun nw r => nw = [] ∧ r = .str x1 t1) := by
  w_top off
  unfold GivesO
  intro p loose mean mg mb dp un gd cn cs a ccd cl outer A₀ base h₀ L m news s Q E B F X N T hk hdp hun hret
  refine wpAny_call ?_
  refine' PySem.W.code_def ?k1 ?k2 ?k3 ?k4 ?k5 ?kA ?kF ?kK ?k6 ?k7 ?k8 ?k9 ?kB ?_ ?c2 ?c3 ?c4 ?c5
  case kA => exact rfl
  case kF => exact rfl
  case kK => assumption
  case k1 => k_asm
  case k2 => k_asm
  case k3 => k_asm
  case k4 => k_asm
  case k5 => k_asm
  case k6 => k_is
  case k7 => k_is
  case k8 => k_dflt ktr_room
  case k9 => exact kp_binds (K := hd.heap_39 w.params) (X.keeps F.keep) (fun _ => rfl)
  case c5 => decide
  case kB => exact locs rfl
  case c2 => exact rfl
  case c3 => exact rfl
  case c4 => exact rfl
  k_whole
  intro g' L' h' FG' F' N' B' X' T'
  try dsimp only
  try k_lift B'
  try k_fold
  k_steps
  exact hret _ [] _ _ (by assumption) (by assumption) (fun _ h => nomatch h) ⟨rfl, rfl⟩
set_option maxHeartbeats 1000000 in
theorem c_tget1 {prog : Program} {w : World} (q d : Addr) (x1 x2 : Str) (t1 t2 : Tok) :
   GivesO 1 prog w (.ref 57) [.ref 141, .ref q, .ref 169] [(q, pairObj (.str x1 t1) (.str x2 t2) d), (d, dictOf [] 0)] (fun nw r => nw = [] ∧ r = .str x2 t2) := by
  w_top off
  unfold GivesO
  intro p loose mean mg mb dp un gd cn cs a ccd cl outer A₀ base h₀ L m news s Q E B F X N T hk hdp hun hret
  refine wpAny_call ?_
  refine' PySem.W.code_def ?k1 ?k2 ?k3 ?k4 ?k5 ?kA ?kF ?kK ?k6 ?k7 ?k8 ?k9 ?kB ?_ ?c2 ?c3 ?c4 ?c5
  case kA => exact rfl
  case kF => exact rfl
  case kK => assumption
  case k1 => k_asm
  case k2 => k_asm
  case k3 => k_asm
  case k4 => k_asm
  case k5 => k_asm
  case k6 => k_is
  case k7 => k_is
  case k8 => k_dflt ktr_room
  case k9 => exact kp_binds (K := hd.heap_39 w.params) (X.keeps F.keep) (fun _ => rfl)
  case c5 => decide
  case kB => exact locs rfl
  case c2 => exact rfl
  case c3 => exact rfl
  case c4 => exact rfl
  k_whole
  intro g' L' h' FG' F' N' B' X' T'
  try dsimp only
  try k_lift B'
  try k_fold
  k_steps
  exact hret _ [] _ _ (by assumption) (by assumption) (fun _ h => nomatch h) ⟨rfl, rfl⟩
end Mine
end


section
open PySem PySem.W PyProof.Rows PySem.Calls Builtin Builtin.ObjectAttr
set_option Elab.async false
namespace Mine
section
variable {prog : Program} {w : World} {p : Program} {loose : List Str} {mean : ExcName → Option Value} {mg mb : Str → Option Value}
    {dp un : Nat} {gd : Option (List Code)} {cn : Str} {cs : Scope} {a : Addr} {ccd : Value} {cl : List (Str × Addr)} {outer : List Env} {A₀ : Around} {base h₀ : Heap} {L : Addr} {m : Str → Option Value} {news : List (Addr × Obj)} {s : Shared} {Q E : Value → Shared → Prop} {q d : Addr} {x1 x2 : Str} {t1 t2 : Tok} {b : Bool}
theorem pr_ga {w : World} : findIn (hd.heap_39 w.params) (.ref 169) "__getattribute__" = some (some (.builtin "tuple.__getattribute__")) := by kernel_rfl
theorem pr_gn {w : World} : findIn (hd.heap_39 w.params) (.ref 169) "__getattr__" = some none := by kernel_rfl
theorem pr_name {w : World} : findObj (hd.heap_39 w.params) 169 (some (dictOf [] 0)) "name" = some (.bind (.ref 57) (.ref 138)) := by kernel_rfl
theorem pr_value {w : World} : findObj (hd.heap_39 w.params) 169 (some (dictOf [] 0)) "value" = some (.bind (.ref 57) (.ref 141)) := by kernel_rfl
theorem tga_kind : builtinKind "tuple.__getattribute__" = some .slot := by decide +kernel
theorem tga_split : splitId "tuple.__getattribute__" = some ("tuple", "__getattribute__") := by decide +kernel
theorem get_tbind {prog : Program} {w : World} {A : Around} {E : Value → Shared → Prop} {s : Shared} {g a : Value} {x : Addr} {ox : Obj} {od : Option Obj} {name : Str} {ex : Bool} {Q : Value → Shared → Prop} (X : (hd.heap_39 w.params).In s.heap) (I : InstAt s.heap x ox 169 od)
    (hf : findObj (hd.heap_39 w.params) 169 od name = some (.bind g a))
    (h : wpAny (model prog w) A.in1 (PySem.call g [a, .ref x, .ref 169]) (fun v s' => wpAny (model prog w) A (handedOut v) Q E s') (fun _ _ => False) { s with toks := s.toks + 1 }) :
    wpAny (model prog w) A (getAttr (.ref x) name ex) Q E s := by
  obtain ⟨hp, gg, d, t, os⟩ := s
  have L0 := I.type (M := model prog w)
  have L1 := looks_findIn (M := model prog w) X (pr_ga (w := w))
  have L2 := looks_findIn (M := model prog w) X (pr_gn (w := w))
  have L3 := looks_find (M := model prog w) X I hf
  have i3 : Looks (model prog w) hp (isInstance (.ref x) (.type "tuple")) true := L0.andThen (pk_tup X)
  unfold getAttr getAttrBy
  refine wpAny_bind (wpAny_mkText (wpAny_holding (wpAny_bind (L0.at (wpAny_bind (L1.at ?_))))))
  dsimp only
  rw [if_neg (by decide +kernel)]
  unfold getAttrByItsOwn
  refine wpAny_bind (m := hookBefore (.ref 169)) ?_
  show wpAny _ _ (typeLookup (.ref 169) "__getattr__") _ _ _
  refine L2.at ?_
  refine wpAny_bind (wpAny_attempt (wpAny_holding ?_))
  unfold callGetattribute
  rw [if_neg (by cases ex <;> decide)]
  unfold boundAndCalled
  rw [PySem.F.slot_tuple_getattribute.bind]
  refine wpAny_bind (wpAny_pure ?_)
  show wpAny _ _ (PySem.call (.builtin "tuple.__getattribute__") [.ref x, .str name t]) _ _ _
  refine wpAny_call (codeAny_call_builtin PySem.F.slot_tuple_getattribute.plain PySem.F.entry_tuple_ga (@check_slot (model prog w) _ _ _ "tuple.__getattribute__" "tuple" "__getattribute__" (.ref x) [.str name t] [] _ tga_kind tga_split i3 (PySem.F.args_tuple_getattribute_2 _ _) ?_))
  unfold Builtin.«object.__getattribute__»
  refine wpAny_bind (wpAny_pure ?_)
  dsimp only
  refine wpAny_bind (wpAny_pure ?_)
  refine wpAny_bind (L0.at (wpAny_bind (L3.at ?_)))
  dsimp only
  unfold bindTo
  dsimp only
  exact wpAny_bind (wpAny_holding (wpAny_mono h (fun v s' z => wpAny_pure z) fun _ _ z => z.elim))
theorem pr_own {o1 o2 : Addr × Obj} (h1 : o1 ∈ news) (h2 : o2 ∈ news) : ∀ q ∈ [o1, o2], q ∈ news := by
  intro q hq
  rcases List.mem_cons.mp hq with rfl | hq
  · exact h1
  · rw [List.mem_singleton.mp hq]; exact h2
theorem attr_name (B : Below A₀ base outer h₀) (F : Fr h₀ L s.heap m) (X : (hd.heap_39 w.params).In h₀) (N : News h₀ L s.heap news) (T : Top p loose mean mg mb h₀) (hk : cs.kind = .function) (hdp : dp + 10 < recursionLimit) (hun : un + 90 < cLine)
    (h1 : (q, pairObj (.str x1 t1) (.str x2 t2) d) ∈ news) (h2 : (d, dictOf [] 0) ∈ news)
    (h : ∀ h' tk', Fr h₀ L h' m → News h₀ L h' news → Q (.str x1 t1) { s with heap := h', toks := tk' }) :
    wpAny (model prog w) (ktrTop dp un gd cn cs L a ccd cl outer) (getAttr (.ref q) "name" b) Q E s := by
  refine get_tbind (X.keeps F.keep) (inst_pair N h1 h2) pr_name ?_
  show wpAny (model prog w) (ktrTop dp (un + 1) gd cn cs L a ccd cl outer) _ _ _ { s with toks := s.toks + 1 }
  refine GivesR.use (s := { s with toks := s.toks + 1 }) (c_tget q d x1 x2 t1 t2).gives B F X N T hk (pr_own h1 h2) (by omega) (by omega) (fun r nw h' tk' F' N' _ ho => ?_)
  obtain ⟨rfl, rfl⟩ := ho
  exact handed_on rfl (h h' tk' F' N')
theorem attr_value (B : Below A₀ base outer h₀) (F : Fr h₀ L s.heap m) (X : (hd.heap_39 w.params).In h₀) (N : News h₀ L s.heap news) (T : Top p loose mean mg mb h₀) (hk : cs.kind = .function) (hdp : dp + 10 < recursionLimit) (hun : un + 90 < cLine)
    (h1 : (q, pairObj (.str x1 t1) (.str x2 t2) d) ∈ news) (h2 : (d, dictOf [] 0) ∈ news)
    (h : ∀ h' tk', Fr h₀ L h' m → News h₀ L h' news → Q (.str x2 t2) { s with heap := h', toks := tk' }) :
    wpAny (model prog w) (ktrTop dp un gd cn cs L a ccd cl outer) (getAttr (.ref q) "value" b) Q E s := by
  refine get_tbind (X.keeps F.keep) (inst_pair N h1 h2) pr_value ?_
  show wpAny (model prog w) (ktrTop dp (un + 1) gd cn cs L a ccd cl outer) _ _ _ { s with toks := s.toks + 1 }
  refine GivesR.use (s := { s with toks := s.toks + 1 }) (c_tget1 q d x1 x2 t1 t2).gives B F X N T hk (pr_own h1 h2) (by omega) (by omega) (fun r nw h' tk' F' N' _ ho => ?_)
  obtain ⟨rfl, rfl⟩ := ho
  exact handed_on rfl (h h' tk' F' N')
end
end Mine
end


section
open PySem PySem.W PyProof.Rows PySem.Calls
set_option Elab.async false
set_option maxRecDepth 100000
namespace Mine
theorem joinOk_small {x : Str} {ts : List Str} (h1 : ts.length ≤ 30) (h2 : ∀ a ∈ ts, a.length ≤ 100) (h3 : x.length ≤ 4) : JoinOk x ts = true := joinOk_few' h1 h2 h3
theorem drop_small {ts : List Str} {k : Nat} (h1 : ts.length ≤ 30) : (ts.drop k).length ≤ 30 := Nat.le_trans (by rw [List.length_drop]; exact Nat.sub_le _ _) h1
theorem drop_short {ts : List Str} {k : Nat} (h2 : ∀ a ∈ ts, a.length ≤ 100) : ∀ a ∈ ts.drop k, a.length ≤ 100 := fun a ha => h2 a (List.mem_of_mem_drop ha)
local macro_rules | `(tactic| walk_at "call builtin:str.join") => `(tactic| (k_here; (with_reducible show wpAny _ _ (call (Value.builtin "str.join") [Value.str _ _, Value.ref _]) _ _ _); (refine join_ts (by is_list) (by assumption) (joinOk_small (by assumption) (by assumption) (by decide)) ?_; (intro t' k'; dsimp only))))
local macro_rules | `(tactic| walk_at "call builtin:str.join") => `(tactic| (k_here; (with_reducible show wpAny _ _ (call (Value.builtin "str.join") [Value.str _ _, Value.ref _]) _ _ _); (refine join_ar (xs := slicePick _ _ _ _) (by is_list) (strs_from (by assumption) (by decide)) (joinOk_small (drop_small (by assumption)) (drop_short (by assumption)) (by decide)) ?_; (intro t' k'; dsimp only))))
theorem eq_fit {y : Str} (h : y.length ≤ 900) : y.length + (Str.ofString "=").length ≤ sizeLine := by
  rw [sizeLine_eq]
  have e : (Str.ofString "=").length = 1 := by decide +kernel
  omega
theorem eq_len {y : Str} (h : y.length ≤ 900) : (y ++ "=" : Str).length ≤ 1000 := by
  have e : (Str.ofString "=").length = 1 := by decide +kernel
  rw [← tl_length, tl_append, List.length_append, tl_length, tl_length, e]
  omega
local macro_rules | `(tactic| walk_at "binaryOp Add str str") => `(tactic| (k_here; (with_reducible show wpAny _ _ (binaryOp Operator.Add (Value.str (Txt.join _ _) _) (Value.str _ _)) _ _ _); (refine SB.add (fun t' k => ?_) (eq_fit (by assumption)); (try dsimp only))))
local macro_rules | `(tactic| walk_at "callWith") => `(tactic| (k_here; (with_reducible show wpAny _ _ (callWith _ (Value.ref _, []).fst _ _ _) _ _ _); (refine callWith_M (K := hd.heap_39 _) (g := 163) (self := .ref 169) (by k_asm) (by k_asm) (by k_mem) (by kernel_rfl) ?_)))
local macro_rules | `(tactic| walk_at "And") => `(tactic| (k_here; (with_reducible show MethP _ _ _ _ _ ∧ _); (refine ⟨methP (by k_asm) (by k_mem) (Frag.In.keeps (by k_asm) (Fr.keep (by k_asm))), ?_⟩)))
local macro_rules | `(tactic| walk_at "call ref") => `(tactic| (k_here; (with_reducible show wpAny _ _ (PySem.call (Value.ref _) _) _ _ _); (refine GivesC.meth (c_parse _ _ (eq_len (by assumption)) _ _ (by assumption)) (by k_asm) (by k_asm) (by k_asm) (by k_asm) (by k_mem) (by k_asm) (by rfl) trivial (by ktr_room) (by ktr_units) ?_); intro r' nw' h' tk' F' N' hne' ho'; obtain ⟨q2', d2', t1', t2', e1', e2'⟩ := ho'; subst e1'; subst e2'; (try dsimp only [List.cons_append, List.nil_append] at N')))
local macro_rules | `(tactic| walk_at "getAttr ref") => `(tactic| (k_here; (refine attr_name (by k_asm) (by k_asm) (by k_asm) (by k_asm) (by k_asm) (by rfl) (by ktr_room) (by ktr_units) (by k_mem) (by k_mem) ?_); intro h' tk' F' N'; (try dsimp only)))
theorem rows_size {vs : List Value} {ts : List Str} (hv : StrsAre vs ts) (h : ts.length ≤ 30) : vs.toArray.size ≤ sizeLine := by
  rw [List.size_toArray, hv.length, sizeLine_eq]; omega
local macro_rules | `(tactic| walk_at "subscriptTail") => `(tactic| (k_here; (with_reducible show wpAny _ _ (subscriptTail _ (Expr.Slice (some _) none none _) (Value.ref _) (Value.ref _)) _ _ _); (refine slice_list (hsz := rows_size (by assumption) (by assumption)) (by k_asm) (by k_asm) (News.isList (by k_asm) (by k_mem)) (.int _ _) .none ?_); intro h' F' N'; (try dsimp only)))
theorem lone_yes {ts : List Str} {a : Str} (h : (Txt.strip a == "") = true) : loneOf ts a = (ts.getD (Int.toNat 0) Str.empty, Txt.join "\n" (ts.drop (Int.toNat 2))) := by
  unfold loneOf; rw [if_pos (eq_of_beq h)]; rfl
theorem lone_no {ts : List Str} {a : Str} (h : (Txt.strip a == "") = false) : loneOf ts a = (("" : Str), Txt.join "\n" ts) := by
  unfold loneOf; rw [if_neg (fun e => by rw [e] at h; exact absurd h (by decide +kernel))]
set_option maxHeartbeats 1000000 in
theorem c_lone {prog : Program} {w : World} (P : Addr) (vs : List Value) (n : Nat) (ts : List Str) (hv : StrsAre vs ts) (hts : ts.length ≤ 30) (hl : ∀ a ∈ ts, a.length ≤ 100) (h1 : 1 ≤ ts.length) (a b : Str)
    (hs : Txt.splitMax (Txt.join "=" (ts.drop 1) ++ "=") "=" 1 = [a, b]) (hx : (Txt.join "=" (ts.drop 1)).length ≤ 900) :
   GivesO 4 prog w (.ref 221) [.ref P] [(P, listOf vs.toArray n)] (fun nw r => ∃ D' t1 t2, r = .ref D' ∧ nw = [(D', { cls := .type "tuple", data := .seq #[.str (loneOf ts a).1 t1, .str (loneOf ts a).2 t2] })]) := by
  w_top off
  unfold GivesO
  intro p loose mean mg mb dp un gd cn cs aa ccd cl outer A₀ base h₀ L m news s Q E B F X N T hk hdp hun hret
  refine wpAny_call ?_
  k_dflt cell_enter
  k_steps
  all_goals refine hret _ [(_, { cls := .type "tuple", data := .seq #[.str _ _, .str _ _] })] _ _ (by assumption) (Mine.News.keepHead (by assumption) (fun q hq => ?_)) ?_ (tup_out ?_)
  all_goals first
    | exact lone_yes (by assumption)
    | exact lone_no (by assumption)
    | exact apart_of_lt (And.right (And.right (And.right (And.right (by assumption)))))
    | exact apart_of_lt (And.right (And.right (And.right (And.right (And.right (by assumption))))))
    | (repeat first | exact hq | apply List.Mem.tail)
end Mine
end


section
open PySem PySem.W PyProof.Rows PySem.Calls
set_option Elab.async false
set_option maxRecDepth 100000
namespace Mine
def pairDat (p : Str × Str) : Dat := .tuple [.str p.1, .str p.2]
structure SS where
  vs : List Value
  n : Nat
  doc : Str
  t : Tok
  ds : List (Str × Str)
abbrev sLed (D : Addr) (c : SS) : List (Addr × Obj) := [(D, listOf c.vs.toArray c.n)]
def sPs (c : SS) : List (Str × Value) := [("doc", Value.str c.doc c.t)]
def sFacts (news l : List (Addr × Obj)) (c : SS) : Prop := DatAll (l.drop news.length) c.vs (c.ds.map pairDat)
theorem sf_tl {news tl : List (Addr × Obj)} {c : SS} (h : sFacts news (news ++ tl) c) : DatAll tl c.vs (c.ds.map pairDat) := by
  unfold sFacts at h
  rwa [List.drop_left] at h
def sP (x : Str) (pre : List Int) (c : SS) : Prop := stepsL 16 x = c.ds ++ stepsL (16 - pre.length) c.doc ∧ c.doc.length ≤ x.length ∧ c.ds.length = pre.length
/-- a list of pairs of texts, made in the call -/
def PairsOut (P : List (Str × Str) → Prop) (nw : List (Addr × Obj)) (r : Value) : Prop := ∃ (D : Addr) (vs : List Value) (n : Nat) (ds : List (Str × Str)) (tl : List (Addr × Obj)), r = .ref D ∧ nw = (D, listOf vs.toArray n) :: tl ∧ DatAll tl vs (ds.map pairDat) ∧ P ds
section
variable {prog : Program} {w : World} {A : Around} {E : Value → Shared → Prop} {s : Shared} {h₀ : Heap} {L D H : Addr} {m : Str → Option Value} {news tl own : List (Addr × Obj)} {c : SS} {o : Obj}
theorem st_append {Q : Value → Shared → Prop} (F : Fr h₀ L s.heap m) (N : News h₀ L s.heap ([(H, o)] ++ (sLed D c ++ (news ++ (tl ++ own))))) (l1 : ∀ p ∈ news, p.1 < D) (off : OwnOff (tl ++ own) (D :: news.map (·.1)))
    (hne : ∀ q ∈ [(H, o)], ∀ p ∈ sLed D c ++ (news ++ (tl ++ own)), p.1 ≠ q.1) (hz : c.vs.length ≤ 1000)
    (h : ∀ h', Fr h₀ L h' m → News h₀ L h' ([(H, o)] ++ ((D, listOf (c.vs ++ [Value.ref H]).toArray (c.n + 1)) :: (news ++ (tl ++ own)))) → Q .none { s with heap := h' }) :
    wpAny (model prog w) A (call (.builtin "list.append") [.ref D, .ref H]) Q E s := by
  refine append_K F N (Upd.tail (Ne.symm (hne _ (.head _) _ (.head _))) (Upd.head fun p hp => ?_)) (fun h' F' N' => h h' F' ?_) (by rw [sizeLine_eq]; simp; omega)
  · rcases List.mem_append.mp (show p ∈ news ++ (tl ++ own) from hp) with hp | hp
    · exact Nat.ne_of_lt (l1 p hp)
    · exact off p hp D (.head _)
  · rw [List.push_toArray] at N'
    exact N'
end
theorem sp_start {x : Str} {t : Tok} : sP x [] ⟨[], 0, x, t, []⟩ := ⟨rfl, Nat.le_refl _, rfl⟩
theorem sp_len {x : Str} {pre : List Int} {c : SS} {news l : List (Addr × Obj)} (h : sP x pre c) (hf : sFacts news l c) (hl : pre.length < 16) (hx : x.length ≤ 1000) : c.doc.length ≤ 1000 ∧ c.vs.length ≤ 1000 := by
  obtain ⟨_, h2, h3⟩ := h
  have := hf.length
  rw [List.length_map] at this
  omega
theorem join_drop_len (sep : Str) : ∀ (k : Nat) (ts : List Str), (Str.join sep (ts.drop k)).length ≤ (Str.join sep ts).length
  | 0, ts => Nat.le_refl _
  | k + 1, [] => Nat.le_refl _
  | k + 1, [x] => by rw [show [x].drop (k + 1) = [] from by simp]; exact Nat.zero_le _
  | k + 1, x :: y :: r => by
    refine Nat.le_trans (join_drop_len sep k (y :: r)) ?_
    show _ ≤ (x ++ sep ++ Str.join sep (y :: r)).length
    rw [← tl_length (x ++ sep ++ _), tl_append, List.length_append, tl_length, tl_length]
    omega
theorem sdoc_len (x : Str) : (sdoc x).2.length ≤ x.length := by
  have hs : (Txt.strip x).length ≤ x.length := fact_strip x
  have hj : Str.join "\n" (Txt.split (Txt.strip x) "\n") = Txt.strip x := StrLaws.join_split _ _
  have hg : ∀ ts, Txt.join "\n" ts = Str.join "\n" ts := fun ts => StrLaws.glued_eq_join _ _
  unfold sdoc
  split
  · exact Nat.zero_le _
  · split
    · show (Txt.join "\n" _).length ≤ _
      rw [hg]
      exact Nat.le_trans (join_drop_len _ _ _) (by rw [hj]; exact hs)
    · show (Txt.join "\n" _).length ≤ _
      rw [hg, hj]; exact hs
theorem sp_next {x : Str} {pre : List Int} {k : Int} {c : SS} {v : Value} {n : Nat} {t : Tok} (h : sP x pre c) (hl : pre.length < 16) (hn : ((sdoc c.doc).1 == "") = false) : sP x (pre ++ [k]) ⟨c.vs ++ [v], n, (sdoc c.doc).2, t, c.ds ++ [sdoc c.doc]⟩ := by
  obtain ⟨h1, h2, h3⟩ := h
  refine ⟨?_, Nat.le_trans (sdoc_len _) h2, by simp [h3]⟩
  show stepsL 16 x = (c.ds ++ [sdoc c.doc]) ++ stepsL (16 - (pre ++ [k]).length) (sdoc c.doc).2
  rw [h1, List.append_assoc]
  congr 1
  have e : 16 - pre.length = (16 - (pre ++ [k]).length) + 1 := by simp; omega
  rw [e]
  show sdoc c.doc :: (if (sdoc c.doc).1 = "" then [] else _) = _
  rw [if_neg (fun q => by rw [q] at hn; exact absurd hn (by decide +kernel))]
  rfl
theorem sp_ret {x : Str} {pre : List Int} {c : SS} (h : sP x pre c) (hl : pre.length < 16) (hn : ((sdoc c.doc).1 == "") = true) : c.ds ++ [sdoc c.doc] = stepsL 16 x := by
  obtain ⟨h1, h2, h3⟩ := h
  rw [h1]
  congr 1
  have e : 16 - pre.length = (15 - pre.length) + 1 := by omega
  rw [e]
  show _ = sdoc c.doc :: (if (sdoc c.doc).1 = "" then [] else _)
  rw [if_pos (eq_of_beq hn)]
theorem sp_done {x : Str} {c : SS} (h : sP x (rangeKs 0 16) c) : c.ds = stepsL 16 x := by
  obtain ⟨h1, h2, h3⟩ := h
  rw [h1, rangeKs_length]
  simp [stepsL]
section
variable {prog : Program} {w : World} {A : Around} {E : Value → Shared → Prop} {s : Shared} {env : Env} {h₀ : Heap} {y₀ : Str} {body : List Stmt} {Q : Flow → Shared → Prop}
theorem st_loop {r D : Addr} {t₀ u₀ v₀ t : Tok} {x : Str} {m₀ : Str → Option Value} {news : List (Addr × Obj)} (hh : A.handled = none) (hr : IsRange s.heap r 0 16 1 t₀ u₀ v₀) (F : Fr h₀ env.locals s.heap m₀) (N : News h₀ env.locals s.heap ((D, listOf #[] 0) :: news))
    (hk : m₀ "doc" = some (.str x t))
    (turn : ∀ (c : SS) tl (pre : List Int) (k : Int) t (u : Str → Option Value) h tk own, pre.length < 16 → KdSep own tl (D :: news.map (·.1)) → OwnOff (tl ++ own) (D :: news.map (·.1)) → sFacts news (news ++ tl) c → sP x pre c →
      Fr h₀ env.locals h (fun y => if y = y₀ then some (.int k t) else kstB (fun z => if (["halves"] : List Str).contains z then u z else m₀ z) (sPs c) y) → News h₀ env.locals h (sLed D c ++ (news ++ (tl ++ own))) →
      wpAny (model prog w) A (execs body env) (InvPostG h₀ env.locals (KdS (sLed D) news sPs (sFacts news) y₀ ["halves"] m₀ (sP x) (D :: news.map (·.1)) (pre ++ [k])) own { s with heap := h, toks := tk } Q) E { s with heap := h, toks := tk })
    (done : ∀ (c : SS) tl (u : Str → Option Value) h tk, OwnOff tl (D :: news.map (·.1)) → sFacts news (news ++ tl) c → sP x (rangeKs 0 16) c → Fr h₀ env.locals h (fun y => if y = y₀ then u y else kstB (fun z => if (["halves"] : List Str).contains z then u z else m₀ z) (sPs c) y) → News h₀ env.locals h (sLed D c ++ (news ++ tl)) → Q .next { s with heap := h, toks := tk }) :
    wpAny (model prog w) A (pyIter (.ref r)) (fun it s₂ => LoopAtV prog w A h₀ env y₀ body Q E it s₂) E s := by
  refine kd_range (n := 16) (sLed D) news sPs (sFacts news) ["halves"] (sP x) (D :: news.map (·.1)) ⟨[], 0, x, t, []⟩ hh hr (by decide) (by decide) F N (fun p hp => ?_) (fun _ => rfl) (by show DatAll _ [] []; exact .nil) (fun p hp => ?_) sp_start (fun c tl pre k t u h tk own _ hl => turn c tl pre k t u h tk own hl) done
  · rw [List.append_nil] at hp; exact hp
  · rw [List.mem_singleton.mp hp]; exact hk
end
abbrev tupOf (p : Str × Str) (t1 t2 : Tok) : Obj := { cls := .type "tuple", data := .seq #[.str p.1 t1, .str p.2 t2] }
theorem dat_tup {H : Addr} {p : Str × Str} {t1 t2 : Tok} {l : List (Addr × Obj)} (h : (H, tupOf p t1 t2) ∈ l) : DatIn l (.ref H) (pairDat p) := .tuple (vs := [.str p.1 t1, .str p.2 t2]) h (.cons (.str _ _) (.cons (.str _ _) .nil))
section
variable {h₀ h' : Heap} {L D H : Addr} {lo o : Obj} {news tl own : List (Addr × Obj)}
theorem ret_news (N : News h₀ L h' ([(H, o)] ++ ((D, lo) :: (news ++ (tl ++ own))))) : News h₀ L h' (((D, lo) :: (H, o) :: tl) ++ news) := N.perm fun p hp => by
  rcases List.mem_append.mp hp with hp | hp
  · rcases List.mem_cons.mp hp with rfl | hp
    · exact .tail _ (.head _)
    · rcases List.mem_cons.mp hp with rfl | hp
      · exact .head _
      · exact .tail _ (.tail _ (List.mem_append_right _ (List.mem_append_left _ hp)))
  · exact .tail _ (.tail _ (List.mem_append_left _ hp))
theorem ret_apart (l1 : ∀ p ∈ news, p.1 < D) (off : OwnOff (tl ++ own) (D :: news.map (·.1))) {X : List (Addr × Obj)} (hne : ∀ q ∈ [(H, o)], ∀ p ∈ X ++ (news ++ (tl ++ own)), p.1 ≠ q.1) : ∀ q ∈ (D, lo) :: (H, o) :: tl, ∀ p ∈ news, p.1 ≠ q.1 := by
  intro q hq p hp
  rcases List.mem_cons.mp hq with rfl | hq
  · exact Nat.ne_of_lt (l1 p hp)
  · rcases List.mem_cons.mp hq with rfl | hq
    · exact hne _ (.head _) p (List.mem_append_right _ (List.mem_append_left _ hp))
    · exact fun e => off q (List.mem_append_left _ hq) p.1 (.tail _ (List.mem_map_of_mem hp)) e.symm
theorem done_apart (l1 : ∀ p ∈ news, p.1 < D) (off : OwnOff tl (D :: news.map (·.1))) : ∀ q ∈ (D, lo) :: tl, ∀ p ∈ news, p.1 ≠ q.1 := by
  intro q hq p hp
  rcases List.mem_cons.mp hq with rfl | hq
  · exact Nat.ne_of_lt (l1 p hp)
  · exact fun e => off q hq p.1 (.tail _ (List.mem_map_of_mem hp)) e.symm
theorem done_news (N : News h₀ L h' ((D, lo) :: (news ++ tl))) : News h₀ L h' (((D, lo) :: tl) ++ news) := N.perm fun p hp => by
  rcases List.mem_append.mp hp with hp | hp
  · rcases List.mem_cons.mp hp with rfl | hp
    · exact .head _
    · exact .tail _ (List.mem_append_right _ hp)
  · exact .tail _ (List.mem_append_left _ hp)
end
theorem steps_ret {D H : Addr} {c : SS} {x : Str} {pre : List Int} {news tl : List (Addr × Obj)} {t1 t2 : Tok} (hf : sFacts news (news ++ tl) c) (h : sP x pre c) (hl : pre.length < 16) (hn : ((sdoc c.doc).1 == "") = true) :
    PairsOut (fun ds => ds = stepsL 16 x) ((D, listOf (c.vs ++ [Value.ref H]).toArray (c.n + 1)) :: (H, tupOf (sdoc c.doc) t1 t2) :: tl) (.ref D) := by
  refine ⟨D, _, _, c.ds ++ [sdoc c.doc], _, rfl, rfl, ?_, sp_ret h hl hn⟩
  rw [List.map_append]
  exact ((sf_tl hf).mono fun p hp => .tail _ hp).append (.one (dat_tup (.head _)))
theorem steps_done {D : Addr} {c : SS} {x : Str} {news tl : List (Addr × Obj)} (hf : sFacts news (news ++ tl) c) (h : sP x (rangeKs 0 16) c) : PairsOut (fun ds => ds = stepsL 16 x) ((D, listOf c.vs.toArray c.n) :: tl) (.ref D) :=
  ⟨D, _, _, c.ds, _, rfl, rfl, sf_tl hf, sp_done h⟩
theorem steps_end {g : Heap} {L' D H : Addr} {c : SS} {x y₀ : Str} {pre : List Int} {k : Int} {news tl own : List (Addr × Obj)} {t1 t2 : Tok} {h' : Heap} {tk : Nat} {s₁ : Shared} {m₀ u : Str → Option Value} {v1 v2 : Option Value}
    (sep : KdSep own tl (D :: news.map (·.1))) (hf : sFacts news (news ++ tl) c) (h : sP x pre c) (hl : pre.length < 16) (hn : ((sdoc c.doc).1 == "") = false)
    (F : Fr g L' h' (fun y => if y = "doc" then some (Value.str (sdoc c.doc).2 t2) else if y = "halves" then v1 else if y = y₀ then v2 else kstB (fun z => if (["halves"] : List Str).contains z then u z else m₀ z) (sPs c) y))
    (N : News g L' h' ([(H, tupOf (sdoc c.doc) t1 t2)] ++ ((D, listOf (c.vs ++ [Value.ref H]).toArray (c.n + 1)) :: (news ++ (tl ++ own)))))
    (l1 : ∀ p ∈ news, p.1 < D) (hne : ∀ q ∈ [(H, tupOf (sdoc c.doc) t1 t2)], ∀ p ∈ sLed D c ++ (news ++ (tl ++ own)), p.1 ≠ q.1) :
    InvEndG g L' (KdS (sLed D) news sPs (sFacts news) y₀ ["halves"] m₀ (sP x) (D :: news.map (·.1)) (pre ++ [k])) own s₁ { s₁ with heap := h', toks := tk } := by
  refine kd_end ⟨c.vs ++ [Value.ref H], c.n + 1, (sdoc c.doc).2, t2, c.ds ++ [sdoc c.doc]⟩ [(H, tupOf (sdoc c.doc) t1 t2)] sep F N (fun p hp => ?_) (fun p hp => ?_) rfl (fun q hq b hb => ?_) (fun q hq p hp => ?_) (fun p hp => ?_) (fun z hz hps hst => ?_) ?_ (sp_next h hl hn)
  · rcases List.mem_append.mp hp with hp | hp
    · rw [List.mem_singleton.mp hp]; exact .tail _ (.head _)
    · rcases List.mem_append.mp hp with hp | hp
      · exact .tail _ (.tail _ (List.mem_append_left _ hp))
      · rcases List.mem_append.mp hp with hp | hp
        · rw [List.mem_singleton.mp hp]; exact .head _
        · exact .tail _ (.tail _ (List.mem_append_right _ (List.mem_append_left _ hp)))
  · exact .tail _ (.tail _ (List.mem_append_right _ (List.mem_append_right _ hp)))
  · rcases List.mem_cons.mp hb with rfl | hb
    · exact hne q hq _ (.head _)
    · obtain ⟨p, hp, rfl⟩ := List.mem_map.mp hb
      exact hne q hq p (List.mem_append_right _ (List.mem_append_left _ hp))
  · exact hne q hq p (List.mem_append_right _ (List.mem_append_right _ (List.mem_append_right _ hp)))
  · rw [List.mem_singleton.mp hp]
    exact if_pos rfl
  · have h1 : z ≠ "doc" := hps _ (.head _)
    have h2 : z ≠ "halves" := fun e => by rw [e] at hst; exact absurd hst (by decide +kernel)
    show (if z = "doc" then _ else if z = "halves" then _ else if z = y₀ then _ else (if z = "doc" then _ else (if (["halves"] : List Str).contains z = true then _ else m₀ z))) = _
    rw [if_neg h1, if_neg h2, if_neg hz, if_neg h1, if_neg (by rw [hst]; exact Bool.false_ne_true)]
  · show DatAll ((news ++ ([(H, tupOf (sdoc c.doc) t1 t2)] ++ tl)).drop news.length) _ ((c.ds ++ [sdoc c.doc]).map pairDat)
    rw [List.drop_left, List.map_append]
    exact ((sf_tl hf).mono fun p hp => .tail _ hp).append (.one (dat_tup (.head _)))
end Mine
end


section
open PySem PySem.W PyProof.Rows PySem.Calls
set_option Elab.async false
set_option maxRecDepth 100000
namespace Mine
local macro_rules | `(tactic| walk_at "exec For Name Call cons nil") => `(tactic| (k_here; (rename Fr _ _ _ _ => lF'); (with_unfolding_all refine' For_invVF lF' ?k1 ?k2 ?_; (case k1 => exact rfl); (case k2 => exact rfl); k_whole)))
local macro_rules | `(tactic| walk_at "pyIter ref") => `(tactic| (k_here; (refine st_loop (by rfl) (by assumption) (by assumption) (by assumption) (by rfl) ?_ ?_)))
local macro_rules | `(tactic| walk_at "call ref") => `(tactic| (k_here; (with_reducible show wpAny _ _ (PySem.call (Value.ref 28) [Value.str _ _]) _ _ _); (refine Gives.use (c_splitdoc _ _ (sp_len (by assumption) (by assumption) (by assumption) (by assumption)).1) (by k_asm) (by k_asm) (by k_asm) (by k_asm) (by k_asm) (by rfl) trivial (by ktr_room) (by ktr_units) ?_); intro r' nw' h' tk' F' N' hne' ho'; obtain ⟨H', t1', t2', e1', e2'⟩ := ho'; subst e1'; subst e2'; (try dsimp only)))
local macro_rules | `(tactic| walk_at "call builtin:list.append") => `(tactic| (k_here; (refine st_append (by assumption) (by assumption) (by assumption) (by assumption) (by assumption) (sp_len (by assumption) (by assumption) (by assumption) (by assumption)).2 ?_); intro h' F' N'))
set_option maxHeartbeats 1000000 in
theorem c_steps {prog : Program} {w : World} (x : Str) (t : Tok) (hx : x.length ≤ 1000) :
   GivesR 3 prog w (.ref 214) [.str x t] (fun _ => True) (PairsOut fun ds => ds = stepsL 16 x) := by
  w_top off
  unfold GivesR
  intro p loose mean mg mb dp un gd cn cs aa ccd cl outer A₀ base h₀ L m news s Q E B F X N T hk hpre hdp hun hret
  refine wpAny_call ?_
  k_dflt cell_enter
  k_steps
  · exact hret _ _ _ _ (by assumption) (ret_news (by assumption)) (ret_apart (by assumption) (by assumption) (by assumption)) (steps_ret (by assumption) (by assumption) (by assumption) (by assumption))
  · exact steps_end (by assumption) (by assumption) (by assumption) (by assumption) (by assumption) (by assumption) (by assumption) (by assumption) (by assumption)
  · exact hret _ _ _ _ (by assumption) (done_news (by assumption)) (done_apart (by assumption) (by assumption)) (steps_done (by assumption) (by assumption))
end Mine
end


section
open PySem PySem.W PyProof.Rows PySem.Calls
set_option Elab.async false
set_option maxRecDepth 100000
namespace Mine
section
variable {M : Model} {A : Around} {E : Value → Shared → Prop} {s : Shared} {K : Frag} {env : Env} {pos p : Pos} {f : Value} {first : List Value} {Q : Value → Shared → Prop} {h₀ : Heap} {e : Expr}
theorem wpC_callAny {P : Heap → Prop} {args : List (Bool × Sem Value)} (hst : args.any (·.1) = true)
    (hk : ∀ h, P h → ∃ k, (k = Keeper.frame ∨ k = Keeper.machine ∨ k = Keeper.boundFrame) ∧ Looks M h (keeperOf f) k)
    (h : wpAny M A (evalArgs f true args []) (fun a s₁ => P s₁.heap ∧ wpC M A (PySem.call f (first ++ a.pos) a.kw) Q E s₁) E s) : wpC M A (callWith pos f first args []) Q E s := by
  unfold callWith
  refine wpC_pre (wpAny_holding (wpAny_mono h (fun a s₁ h₁ => wpC_pre (wpAny_standAt ?_)) fun _ _ x => x))
  obtain ⟨k, hk', L⟩ := hk _ h₁.1
  simp only [hst, Bool.true_or]
  refine wpC_pre (L.here ?_)
  have tail : ∀ {t : Sem Value}, wpC M A t Q E s₁ → wpC M A (t >>= fun r => holding [r] point >>= fun _ => pure r) Q E s₁ :=
    fun ht => wpC_bind (wpC_mono ht (fun r s₂ hr => wpC_pre (wpAny_holding (wpAny_point (wpC_pure hr)))) fun _ _ x => x)
  have marked (mk : Value) : wpC M A (callMarked mk f (first ++ a.pos) a.kw) Q E s₁ := by unfold callMarked; exact wpC_keep h₁.2
  rcases hk' with rfl | rfl | rfl <;> dsimp only <;> first | exact tail (marked _) | exact tail (wpC_operate h₁.2)
theorem wpC_callS (_X : K.In h₀) (hk : keepIn K f = true) (h : wpAny M A (eval e env) (fun v s₁ => StarOf M A E v (fun vs s₂ => K.In s₂.heap ∧ wpC M A (PySem.call f (first ++ vs)) Q E s₂) s₁) E s)
    (he : starEach [.Starred e p] env = [(true, eval e env)] := by rfl) : wpC M A (callWith pos f first (backTo pos (starEach [.Starred e p] env)) []) Q E s := by
  rw [he]
  exact wpC_callAny rfl (keeps_K hk) (ks_lone h)
end
theorem strs_one {vs : List Value} {l : List (Str × Tok)} {x : Str} (h : StrsAre vs ((l.map (·.1)).map Txt.strip)) (e : l.map (·.1) = Txt.splitMax x "=" 1) (hs : Txt.splitMax x "=" 1 = [x]) : ∃ t1, vs = [.str (Txt.strip x) t1] := by
  rw [e, hs] at h
  cases h with
  | cons _ t1 h => cases h; exact ⟨t1, rfl⟩
theorem map_one {l : List (Str × Tok)} {x : Str} (e : l.map (·.1) = Txt.splitMax x "=" 1) (hs : Txt.splitMax x "=" 1 = [x]) : (l.map (·.1)).length ≤ sizeLine := by
  rw [e, hs]; exact sizeLine_ge (show 1 ≤ 100000 by decide)
local macro_rules | `(tactic| walk_at "getAttr") => `(tactic| (k_here; (with_reducible show wpAny _ _ (getAttr (Value.type "str") _ _) _ _ _); refine' attr_type ?F ?X ?m (by decide +kernel) ?e ?h ?_; (case F => k_asm); (case X => k_asm); (case m => exact meta_str); (case e => k_dflt k_is); (case h => k_handed)))
local macro_rules | `(tactic| walk_at "call type:map") => `(tactic| (k_here; (refine star_map rfl (by k_asm) (by k_asm) (by assumption) (textsAt_strs (by assumption)) (map_sizes (by assumption) (by assumption)) (map_one (by assumption) (by assumption)) ?_); intro vs' h' tk' hv' F' N'; (obtain ⟨t1', e1'⟩ := strs_one hv' (by assumption) (by assumption)); subst e1'; (try dsimp only [List.nil_append, List.append_nil, List.cons_append])))
set_option maxHeartbeats 1000000 in
theorem parse_refuses {prog : Program} {w : World} {p : Program} {loose : List Str} {mean : ExcName → Option Value} {mg mb : Str → Option Value}
    {dp un : Nat} {gd : Option (List Code)} {cn : Str} {cs : Scope} {a : Addr} {ccd : Value} {cl : List (Str × Addr)} {outer : List Env} {A₀ : Around} {base h₀ : Heap} {L : Addr} {m : Str → Option Value} {news : List (Addr × Obj)} {s : Shared} {R : Result → Shared → Prop} (x : Str) (t : Tok) (hx : x.length ≤ 1000) (hs : Txt.splitMax x "=" 1 = [x])
    (B : Below A₀ base outer h₀) (F : Fr h₀ L s.heap m) (X : (hd.heap_39 w.params).In h₀) (N : News h₀ L s.heap news) (T : Top p loose mean mg mb h₀) (hk : cs.kind = .function) (hdp : dp + 5 < recursionLimit)
    (hE : ∀ g h' e tk' news', Fr h₀ L g m → (∀ q ∈ news, q ∈ news') → RaisedN base (envX cn cs L a ccd cl :: outer) e (.type "TypeError") news' h' → g.UpToSlots h' → R (.error (.ref e)) { s with heap := h', toks := tk' }) :
    codeC (model prog w) (ktrTop dp un gd cn cs L a ccd cl outer) (.call (.ref 163) ⟨[.ref 169, .str x t], []⟩) R s := by
  w_top off
  refine' Mine.codeC_def ?k1 ?k2 ?k3 ?k4 ?k5 ?kA ?kF ?kK ?k6 ?k7 ?k8 ?k9 ?kB ?_ ?c2 ?c3 ?c4 ?c5
  case kA => exact rfl
  case kF => exact rfl
  case kK => assumption
  case k1 => k_asm
  case k2 => k_asm
  case k3 => k_asm
  case k4 => k_asm
  case k5 => k_asm
  case k6 => k_is
  case k7 => k_is
  case k8 => k_dflt ktr_room
  case k9 => exact BindsTo.of_eq rfl
  case c5 => decide
  case kB => exact locs rfl
  case c2 => exact rfl
  case c3 => exact rfl
  case c4 => exact rfl
  intro g' L' h' FG' F' N' B' X' T'
  try dsimp only
  refine wpC_execs (wpC_Return (wpC_Call ?_))
  k_steps
  refine wpC_callS (K := hd.heap_39 w.params) X' (by kernel_rfl) ?_
  k_steps
  refine wpC_call (pair_refuses (by assumption) X' rfl (fun h2 tk2 e2 hx2 => ?_))
  refine leave_newK B' hx2 (by assumption) (by assumption) (fun h3 hR hup => ?_)
  exact hE g' h3 e2 _ _ FG' (fun q hq => .tail _ hq) hR hup
end Mine
end


section
open PySem PySem.W PyProof.Rows PySem.Calls
set_option Elab.async false
set_option maxRecDepth 100000
namespace Mine
/-- the heap below an address, some of it hidden -/
def cutTo (h : Heap) (L : Addr) (l : List Addr) : Heap := hideAll ⟨(h.objs.toList.take L).toArray, h.life⟩ l
theorem cut_size (h : Heap) (L : Addr) (l : List Addr) : (cutTo h L l).objs.size ≤ L := by
  unfold cutTo
  rw [hideAll_size]
  show ((h.objs.toList.take L).toArray).size ≤ L
  simp
  exact Nat.min_le_left _ _
theorem take_get {h : Heap} {L b : Addr} {o : Obj} (e : h.get? b = some o) (hb : b < L) : (⟨(h.objs.toList.take L).toArray, h.life⟩ : Heap).get? b = some o := by
  unfold Heap.get? at e ⊢
  have q : ((h.objs.toList.take L).toArray)[b]? = h.objs[b]? := by simp [List.getElem?_take, hb]
  show (match ((h.objs.toList.take L).toArray)[b]? with | some ⟨_, _, .freed, _⟩ => none | o => o) = some o
  rw [q]; exact e
theorem of_take {h : Heap} {L b : Addr} {o : Obj} (e : (⟨(h.objs.toList.take L).toArray, h.life⟩ : Heap).get? b = some o) : h.get? b = some o := by
  have hb : b < L := by
    have := Heap.lt_size e
    exact Nat.lt_of_lt_of_le this (by show ((h.objs.toList.take L).toArray).size ≤ L; simp; exact Nat.min_le_left _ _)
  have q : ((h.objs.toList.take L).toArray)[b]? = h.objs[b]? := by simp [List.getElem?_take, hb]
  unfold Heap.get? at e ⊢
  have e' : (match ((h.objs.toList.take L).toArray)[b]? with | some ⟨_, _, .freed, _⟩ => none | o => o) = some o := e
  rw [q] at e'; exact e'
theorem cut_get {h : Heap} {L b : Addr} {l : List Addr} {o : Obj} (e : h.get? b = some o) (hb : b < L) (hl : b ∉ l) : (cutTo h L l).get? b = some o := hideAll_get l (take_get e hb) hl
theorem of_cut {h : Heap} {L b : Addr} {l : List Addr} {o : Obj} (e : (cutTo h L l).get? b = some o) : h.get? b = some o := of_take (of_hideAll l e)

theorem reground {A₀ : Around} {G h₀ h' : Heap} {outer : List Env} {L : Addr} {m : Str → Option Value} {led : List (Addr × Obj)} (B : Below A₀ G outer h₀) (hL : h₀.objs.size ≤ L) (hns : h'.Ns L m) (hG : G.StaysIn h') (hup : h₀.UpToSlots h')
    (N : ∀ q ∈ led, h'.get? q.1 = some q.2 ∧ q.1 ≠ L ∧ G.get? q.1 = none ∧ ∀ o, h₀.get? q.1 = some o → ∃ vs, o.data = .fields vs) :
    ∃ h₁, Fr h₁ L h' m ∧ News h₁ L h' led ∧ Below A₀ G outer h₁ ∧ h₀.UpToSlots h₁ := by
  have up : h₀.UpToSlots (cutTo h' L (led.map (·.1))) := fun b o e hn => by
    obtain ⟨sl, e'⟩ := hup b o e hn
    refine ⟨sl, cut_get e' (Nat.lt_of_lt_of_le (Heap.lt_size e) hL) fun hm => ?_⟩
    obtain ⟨q, hq, rfl⟩ := List.mem_map.mp hm
    obtain ⟨vs, hv⟩ := (N q hq).2.2.2 o e
    exact hn vs hv
  refine ⟨cutTo h' L (led.map (·.1)), ⟨hns, fun b o e => of_cut e, cut_size _ _ _⟩, fun q hq => ⟨(N q hq).1, (N q hq).2.1, hideAll_none _ (List.mem_map_of_mem hq)⟩, ⟨B.stack, fun b o e => ?_, ?_⟩, up⟩
  · refine cut_get (hG b o e) (Nat.lt_of_lt_of_le (Heap.lt_size (B.stays b o e)) hL) fun hm => ?_
    obtain ⟨q, hq, rfl⟩ := List.mem_map.mp hm
    rw [(N q hq).2.2.1] at e; cases e
  · exact B.frames.of_keeps fun b o e hn => let ⟨sl, e'⟩ := up b o e hn; ⟨_, e', rfl⟩

section
variable {prog : Program} {w : World} {A₀ : Around} {E : Value → Shared → Prop} {s' : Shared} {G h : Heap} {outer : List Env} {L a e : Addr} {m : Str → Option Value} {name : Str} {scope : Scope} {cd : Value}
  {b₀ : Stmt} {suite : List Stmt} {pos np : Pos} {rest : List ExceptHandler} {Q : Flow → Shared → Prop} {news : List (Addr × Obj)}
  {p : Program} {loose : List Str} {mean : ExcName → Option Value} {mg mb : Str → Option Value} {x : Str} {X T' : String}
/-- caught, whatever frames stand outside -/
theorem caught_sp (stack : A₀.frames = some outer) (F : Fr G L h m) (hsm : h.UpToSlots s'.heap) (R : RaisedN G (envOf name scope L a cd :: outer) e (.type X) news s'.heap)
    (T : TopRead p loose mg mb G) (hv : bootBuiltins x = some (.type T'))
    (hexc : isSubtype (.type T') (.type "BaseException") = pure true) (hnt : isSubtype (.type ((Manifest.find? T').elim "type" fun y => y.metatype)) (.type "tuple") = pure false) (hsub : isSubtype (.type X) (.type T') = pure true)
    (k : ∀ h', Fr G L h' m → News G L h' news → h.UpToSlots h' →
      wpAny (model prog w) ((A₀.deeper (envOf name scope L a cd)).mark (some (.ref e))) (execs (b₀ :: suite) (envOf name scope L a cd)) Q E { s' with heap := h' })
    (hfree : mg x = none) (hn : x ≠ "__name__" := by decide +kernel)
    (hk : scope.kind = .function := by rfl) (hx : (envOf name scope L a cd).kindOf x = some .globalImplicit := by rfl) (hd : (x == ("__debug__" : Str)) = false := by decide)
    (hE : PassesOwnAt (model prog w) ((A₀.deeper (envOf name scope L a cd)).mark (some (.ref e))) (A₀.deeper (envOf name scope L a cd)) (envOf name scope L a cd) E := by passes_own) :
    wpAny (model prog w) (A₀.deeper (envOf name scope L a cd)) (noteFrame (.ref e) (envOf name scope L a cd))
      (fun _ s₂ => wpAny (model prog w) (A₀.deeper (envOf name scope L a cd)) (setFlight (.ref e) none) (fun _ s₃ =>
        wpAny (model prog w) (A₀.deeper (envOf name scope L a cd)) (handleBy (.ref e) (envOf name scope L a cd) (.ExceptHandler (some (.Name x np)) none (b₀ :: suite) pos :: rest)) Q E s₃) E s₂) E s' := by
  obtain ⟨B, a0, hB, hl, hfl⟩ := R
  have hL : B.get? L = none := by
    obtain ⟨_, ⟨L', _, hf, hn', _⟩, _⟩ := hfl.2.2.1
    obtain rfl : L = L' := Option.some.inj hf
    exact hn'
  refine wpAny_looks_onW (Around.frames_deeper stack) rfl hfl fun h₄ hheld₄ hsm₄ => ?_
  refine wpAny_landsW hheld₄ fun h₅ hheld hsm₅' => ?_
  have hsm₅ := hsm₄.trans hsm₅'
  have hheld' := flyingW_base hB hheld
  have F₅ := F.of_stays hheld'.1 (hsm.trans hsm₅)
  obtain ⟨ob, hob, hobc⟩ := hheld'.there
  refine wpAny_handleBy_builtin (X := X) (T := T') (b := true) hexc hnt hsub (ld_builtin_at F₅ T.g hfree T.b ((T.builtins x hn).trans hv) ⟨rfl, ⟨ob, hob, hobc⟩, ?_⟩ hk hx hd)
  refine lands_againW hheld fun h₆ hfl₆ hsm₆ => ?_
  have F₆ := F.of_stays (flyingW_base hB hfl₆).1 ((hsm.trans hsm₅).trans hsm₆)
  exact wpAny_passesOwnAt hE (k h₆ F₆ (fun q hq => ⟨hfl₆.1 _ _ (hl q hq).1, (fun z => by have := (hl q hq).1; rw [z, hL] at this; cases this), (hl q hq).2⟩) ((hsm.trans hsm₅).trans hsm₆))
end
end Mine
end


section
open PySem PySem.W PyProof.Rows PySem.Calls
set_option Elab.async false
set_option maxRecDepth 100000
namespace Mine
section
variable {prog : Program} {w : World} {A A₀ : Around} {E : Value → Shared → Prop} {s : Shared} {env : Env} {R : Result → Shared → Prop} {K : Frag} {L : Addr} {h₀ base : Heap} {m mg mb : Str → Option Value} {news : List (Addr × Obj)} {p : Program} {loose : List Str} {mean : ExcName → Option Value}
theorem codeC_ind {M : Model} {c : Code} (I : Nat → Shared → Prop) (step : ∀ n s, (∀ s', I n s' → codeC M A c R s') → I (n + 1) s → codeC M A c R s) (zero : ∀ s, I 0 s → codeC M A c R s) : ∀ (n : Nat) (s : Shared), I n s → codeC M A c R s
  | 0, s, h => zero s h
  | n + 1, s, h => step n s (fun s' h' => codeC_ind I step zero n s' h') h
/-- as codeC_def, the end not yet lifted over the frame -/
theorem codeC_defR {outer : List Env} {name qual : Str} {params : Arguments} {body : List Stmt} {scope : Scope} {dV kV doc pm cdv ct oc : Value} {an od : Option Addr} {osl : Array (Option Value)} {f : Addr} {args : Args} {binds : List (Str × Value)}
    (B : Below A₀ base outer h₀) (F : Fr h₀ L s.heap m) (X₀ : K.In h₀) (N : News h₀ L s.heap news) (T : Top p loose mean mg mb h₀) (hA : A.frames = some (env :: outer)) (hf : env.frame = some L) (hke : env.scope.kind = .function)
    (ho : K.lookup f = some ⟨oc, od, .func (fnOf name qual params body scope dV kV doc pm an cdv ct), osl⟩) (hcd : codeIn K cdv qual = true) (hroom : A.depth < recursionLimit)
    (hbind : BindsTo s (fnOf name qual params body scope dV kV doc pm an cdv ct) args binds) (hloc : ∀ y ∈ binds, scope.names.lookup y.1 = some .local)
    (h : ∀ g L' h₁, Fr h₀ L g m → Fr g L' h₁ (fun y => binds.reverse.lookup y) → News g L' h₁ news → Below A base (env :: outer) g → K.In g → Top p loose mean mg mb g → (∀ v s', LeaveK h₀ L m g R v s' → R (.ok (.ret v)) s') →
      wpC (model prog w) (A.deeper (envOf qual scope L' f cdv)) (execs body (envOf qual scope L' f cdv))
        (fun fl s' => R (.ok (.ret (match fl with | .ret v => v | _ => .none))) s')
        (fun e s' => wpAny (model prog w) (A.deeper (envOf qual scope L' f cdv)) (leaving (envOf qual scope L' f cdv) e) (fun _ s'' => R (.error e) s'') (fun e' s'' => R (.error e') s'') s')
        { s with heap := h₁, toks := s.toks + binds.length })
    (hco : scope.isCoroutine = false) (hgen : scope.isGenerator = false) (hk : scope.kind = .function)
    (hcell : ∀ x ∈ scope.names, x.2 ≠ .cell) : codeC (model prog w) A (.call (.ref f) args) R s := by
  obtain ⟨FG, BG, st, lv⟩ := groundX (R := R) B F N hA hf hke
  refine codeC_call_function (fd := fnOf name qual params body scope dV kV doc pm an cdv ct) (body := body) hroom ((X₀.keeps F.keep) _ _ ho) rfl hco hgen rfl (codeRec_of (X₀.keeps F.keep) hcd) ?_
  refine hbind _ _ _ _ ?_
  refine wpAny_newFunctionEnv hcell hloc (fun h₁ hns hsb => ⟨(T.nolimit.keeps F.keep).fresh _ hsb, codeC_func ?_⟩) hk
  have hk₁ : ∀ b o, s.heap.get? b = some o → h₁.get? b = some o := fun b o e => hsb.extBut b o (Nat.ne_of_lt (Heap.lt_size e)) (Heap.get?_push_of_some _ e)
  exact h _ s.heap.objs.size h₁ FG ⟨hns, fun b o e => hk₁ b o (of_hideAll _ e), Nat.le_of_eq (hideAll_size _ _)⟩
    (fun p hp => ⟨hk₁ _ _ (N p hp).1, Nat.ne_of_lt (Heap.lt_size (N p hp).1), hideAll_none _ (List.mem_map_of_mem hp)⟩) BG (X₀.keeps st) (T.keeps st) lv
end
abbrev rIter (a n : Int) : Obj := { cls := .type "range_iterator", data := .fields #[rawInt a, rawInt n, rawInt 1] }
/-- what holds between the turns: n turns are left -/
def NInv (s₀ : Shared) (g : Heap) (L' D I : Addr) (x : Str) (news : List (Addr × Obj)) (n : Nat) (s' : Shared) : Prop :=
  ∃ (vs : List Value) (ns : List Str) (nn : Nat) (y : Str) (ty : Tok) (h : Heap) (tk : Nat) (m₁ : Str → Option Value), s' = { s₀ with heap := h, toks := tk } ∧ Fr g L' h m₁ ∧ m₁ "names" = some (.ref D) ∧ m₁ "text" = some (.str y ty) ∧
    News g L' h ((D, listOf vs.toArray nn) :: (I, rIter (16 - n) n) :: news) ∧ StrsAre vs ns ∧ namesL 16 x = ns ++ namesL n y ∧ y.length ≤ x.length ∧ ns.length + n = 16
theorem names_start {prog : Program} {w : World} {A : Around} {E : Value → Shared → Prop} {Q : Value → Shared → Prop} {s : Shared} {g : Heap} {L' D r : Addr} {m₁ : Str → Option Value} {news : List (Addr × Obj)} {t₀ u₀ v₀ ty : Tok} {x : Str}
    (F : Fr g L' s.heap m₁) (N : News g L' s.heap ((D, listOf #[] 0) :: news)) (hr : IsRange s.heap r 0 16 1 t₀ u₀ v₀) (h1 : m₁ "names" = some (.ref D)) (h2 : m₁ "text" = some (.str x ty)) (l1 : ∀ p ∈ news, p.1 < D)
    (hQ : ∀ s₀ I, NInv s₀ g L' D I x news 16 s₀ → D ≠ I → (∀ p ∈ news, p.1 ≠ I) → (∀ p ∈ news, p.1 ≠ D) → s₀.gens = s.gens → s₀.drawn = s.drawn → s₀.os = s.os → Q (.ref I) s₀) : wpAny (model prog w) A (pyIter (.ref r)) Q E s := by
  refine wpAny_pyIter_range hr (by decide) ?_
  have hlt : ∀ p ∈ (D, listOf #[] 0) :: news, p.1 < s.heap.objs.size := fun p hp => Heap.lt_size (N p hp).1
  refine hQ _ _ ⟨[], [], 0, x, ty, _, _, m₁, rfl, F.push _, h1, h2, ?_, .nil, rfl, Nat.le_refl _, rfl⟩ (Nat.ne_of_lt (hlt _ (.head _))) (fun p hp => Nat.ne_of_lt (hlt p (.tail _ hp))) (fun p hp => Nat.ne_of_lt (l1 p hp)) rfl rfl rfl
  intro p hp
  rcases List.mem_cons.mp hp with rfl | hp
  · exact ⟨Heap.get?_push_of_some _ (N _ (.head _)).1, (N _ (.head _)).2⟩
  · rcases List.mem_cons.mp hp with rfl | hp
    · exact ⟨Heap.get?_push_size _ rfl, Ne.symm (Nat.ne_of_lt F.ns.lt), F.fresh⟩
    · exact ⟨Heap.get?_push_of_some _ (N _ (.tail _ hp)).1, (N _ (.tail _ hp)).2⟩
theorem splitMax_cases (x : Str) : Txt.splitMax x "=" 1 = [x] ∨ ∃ a b, Txt.splitMax x "=" 1 = [a, b] := by
  unfold Txt.splitMax
  split
  · exact .inl rfl
  · split
    · exact .inl rfl
    · rename_i h
      right
      have hlim : limitOf x 1 = 1 := by rfl
      rw [hlim] at h ⊢
      have hl := StrLaws.occ_length_le x "=" 0 x.length 1
      match ho : Builtin.Str.occurrences x "=" 0 x.length 1 with
      | [] => rw [ho] at h; exact absurd rfl h
      | [i] => exact ⟨_, _, rfl⟩
      | i :: j :: r => rw [ho] at hl; simp at hl
local macro_rules | `(tactic| walk_at "pyIter ref") => `(tactic| (k_here; (refine names_start (by assumption) (by assumption) (by assumption) (by rfl) (by rfl) (by assumption) ?_)))
theorem names_size {vs : List Value} {ns : List Str} {n : Nat} (hv : StrsAre vs ns) (h : ns.length + (n + 1) = 16) : vs.toArray.size ≤ sizeLine := by
  rw [List.size_toArray, hv.length, sizeLine_eq]; omega
local macro_rules | `(tactic| walk_at "getAttr ref") => `(tactic| (k_here; (with_reducible show wpAny _ _ (getAttr _ (Str.ofString "name") _) _ _ _); (refine attr_name (by k_asm) (by k_asm) (by k_asm) (by k_asm) (by k_asm) (by rfl) (by ktr_room) (by ktr_units) (by k_mem) (by k_mem) ?_); intro h' tk' F' N'; (try dsimp only)))
local macro_rules | `(tactic| walk_at "getAttr ref") => `(tactic| (k_here; (with_reducible show wpAny _ _ (getAttr _ (Str.ofString "value") _) _ _ _); (refine attr_value (by k_asm) (by k_asm) (by k_asm) (by k_asm) (by k_asm) (by rfl) (by ktr_room) (by ktr_units) (by k_mem) (by k_mem) ?_); intro h' tk' F' N'; (try dsimp only)))
local macro_rules | `(tactic| walk_at "call builtin:list.append") => `(tactic| (k_here; (refine append_K (by k_asm) (by k_asm) (names_upd (by assumption) (by assumption)) ?_ (names_size (by assumption) (by assumption))); intro h' F' N'; (try dsimp only)))
theorem names_leave {A₀ : Around} {base h₀ g h₁ h' : Heap} {outer : List Env} {L L' : Addr} {m m' : Str → Option Value} {led : List (Addr × Obj)} (B : Below A₀ base outer h₀) (F : Fr h₀ L g m) (up : g.UpToSlots h₁) (hb : base.StaysIn h₁) (F' : Fr h₁ L' h' m') (N' : News h₁ L' h' led) :
    ∃ h₂, Fr h₂ L h' m ∧ News h₂ L h' led ∧ Below A₀ base outer h₂ ∧ h₀.UpToSlots h₂ := by
  have up2 : g.UpToSlots h' := up.trans (.of_keeps F'.keep)
  have key : ∀ q ∈ led, h'.get? q.1 = some q.2 ∧ q.1 ≠ L ∧ base.get? q.1 = none ∧ ∀ o, h₀.get? q.1 = some o → ∃ vs, o.data = .fields vs := by
    intro q hq
    have hn := (N' q hq).2.2
    refine ⟨(N' q hq).1, fun e => ?_, ?_, fun o e => ?_⟩
    · obtain ⟨oL, es, ep, hL, hLd, hLk, hLf⟩ := F.ns
      obtain ⟨sl, z⟩ := up _ _ hL (fun vs hv => by rw [hLd] at hv; cases hv)
      rw [← e, hn] at z; cases z
    · cases z : base.get? q.1 with
      | none => rfl
      | some o => rw [hb _ _ z] at hn; cases hn
    · refine Classical.byContradiction fun hne => ?_
      obtain ⟨sl, z⟩ := up _ _ (F.keep _ _ e) (fun vs hv => hne ⟨vs, hv⟩)
      rw [hn] at z; cases z
  obtain ⟨h₂, F₂, N₂, B₂, up₂⟩ := reground (led := led) B F.above (up2.ns F.ns) (fun b o e => F'.keep b o (hb b o e)) ((Heap.UpToSlots.of_keeps F.keep).trans up2) key
  exact ⟨h₂, F₂, N₂, B₂, up₂⟩
theorem names_last {x y : Str} {ns : List Str} {n : Nat} (hnm : namesL 16 x = ns ++ namesL (n + 1) y) (hs : Txt.splitMax y "=" 1 = [y]) : namesL 16 x = ns ++ [y] := by
  rw [hnm]
  show ns ++ (match Txt.splitMax y "=" 1 with | [a, b] => Txt.strip a :: namesL n (Txt.strip b) | _ => [y]) = _
  rw [hs]
theorem names_next {x y a b : Str} {ns : List Str} {n : Nat} (hnm : namesL 16 x = ns ++ namesL (n + 1) y) (hs : Txt.splitMax y "=" 1 = [a, b]) : namesL 16 x = (ns ++ [Txt.strip a]) ++ namesL n (Txt.strip b) := by
  rw [hnm]
  show ns ++ (match Txt.splitMax y "=" 1 with | [a, b] => Txt.strip a :: namesL n (Txt.strip b) | _ => [y]) = _
  rw [hs, List.append_assoc]
  rfl
theorem names_full {x y : Str} {ns : List Str} (hnm : namesL 16 x = ns ++ namesL 0 y) : ns = namesL 16 x := by
  rw [hnm]; exact (List.append_nil _).symm
theorem ext_fr {g h h' : Heap} {L I : Addr} {m : Str → Option Value} (F : Fr g L h m) (hx : Heap.ExtBut I h h') (h1 : I ≠ L) (h2 : g.get? I = none) : Fr g L h' m := by
  obtain ⟨oL, es, ep, hL, hr⟩ := F.ns
  exact ⟨⟨oL, es, ep, hx L oL (Ne.symm h1) hL, hr⟩, fun b o e => hx b o (fun q => by rw [q, h2] at e; cases e) (F.keep b o e), F.above⟩
theorem ext_news {g h h' : Heap} {L : Addr} {a c : Addr × Obj} {news : List (Addr × Obj)} (N : News g L h (a :: c :: news)) (hx : Heap.ExtBut c.1 h h') (h1 : a.1 ≠ c.1) (h2 : ∀ p ∈ news, p.1 ≠ c.1) : News g L h' (a :: news) := by
  intro p hp
  have hm : p ∈ a :: c :: news := by
    rcases List.mem_cons.mp hp with rfl | hp
    · exact .head _
    · exact .tail _ (.tail _ hp)
  refine ⟨hx _ _ ?_ (N p hm).1, (N p hm).2⟩
  rcases List.mem_cons.mp hp with rfl | hp
  · exact h1
  · exact h2 p hp
theorem names_drop {h₀ h : Heap} {L : Addr} {a b c : Addr × Obj} {news : List (Addr × Obj)} (N : News h₀ L h (a :: b :: c :: news)) : News h₀ L h (a :: b :: news) := drop_third N
theorem names_upd {q2 d2 D : Addr} {o2 o3 oo o o' : Obj} {z : Addr × Obj} {rest : List (Addr × Obj)} (hne : ∀ q ∈ [(q2, o2), (d2, o3)], ∀ p ∈ z :: (D, oo) :: rest, p.1 ≠ q.1) (hr : ∀ p ∈ rest, p.1 ≠ D) :
    Upd D o o' ((q2, o2) :: (d2, o3) :: (D, o) :: rest) ((q2, o2) :: (d2, o3) :: (D, o') :: rest) :=
  Upd.tail (Ne.symm (hne _ (.head _) _ (.tail _ (.head _)))) (Upd.tail (Ne.symm (hne _ (.tail _ (.head _)) _ (.tail _ (.head _)))) (Upd.head hr))
theorem names_rest {D I : Addr} {o : Obj} {news : List (Addr × Obj)} (h1 : D ≠ I) (h2 : ∀ p ∈ news, p.1 ≠ D) : ∀ p ∈ (I, o) :: news, p.1 ≠ D := fun p hp => by
  rcases List.mem_cons.mp hp with rfl | hp
  · exact Ne.symm h1
  · exact h2 p hp
theorem part_len (x : Str) (w : Nat) : ∀ (cuts : List Nat) (a : Nat), ∀ y ∈ StrLaws.partsFrom x w a cuts, y.length ≤ x.length := by
  have sub : ∀ i j, (Builtin.Str.strSub x i j).length ≤ x.length := fun i j => by
    rw [← tl_length, ← tl_length x]
    show (Builtin.Str.strSub x i j).cps.toList.length ≤ _
    rw [StrLaws.strSub_toList, List.length_take, List.length_drop]
    exact Nat.le_trans (Nat.min_le_right _ _) (Nat.sub_le _ _)
  intro cuts
  induction cuts with
  | nil => intro a y hy; rw [List.mem_singleton.mp hy]; exact sub _ _
  | cons c r ih =>
    intro a y hy
    rcases List.mem_cons.mp hy with rfl | hy
    · exact sub _ _
    · exact ih _ y hy
theorem splitMax_len (x : Str) : ∀ y ∈ Txt.splitMax x "=" 1, y.length ≤ x.length := by
  unfold Txt.splitMax
  intro y hy
  split at hy
  · rw [List.mem_singleton.mp hy]; exact Nat.le_refl _
  · split at hy
    · rw [List.mem_singleton.mp hy]; exact Nat.le_refl _
    · rw [StrLaws.partsBetween_eq] at hy; exact part_len x _ _ _ y hy
set_option maxHeartbeats 1000000 in
theorem c_names {prog : Program} {w : World} {p : Program} {loose : List Str} {mean : ExcName → Option Value} {mg mb : Str → Option Value}
    {dp un : Nat} {gd : Option (List Code)} {cn : Str} {cs : Scope} {a : Addr} {ccd : Value} {cl : List (Str × Addr)} {outer : List Env} {A₀ : Around} {base h₀ : Heap} {L : Addr} {m : Str → Option Value} {news : List (Addr × Obj)} {s : Shared} {R : Result → Shared → Prop} (x : Str) (t : Tok) (hx : x.length ≤ 1000)
    (B : Below A₀ base outer h₀) (F : Fr h₀ L s.heap m) (XG : (hd.heap_39 w.params).In base) (N : News h₀ L s.heap news) (TG : Top p loose mean mg mb base) (hTE : mg "TypeError" = none) (hbL : base.objs.size ≤ L) (hk : cs.kind = .function) (hdp : dp + 50 < recursionLimit) (hun : un + 400 < cLine)
    (hR : ∀ r nw h' tk' h₁, Fr h₁ L h' m → News h₁ L h' (nw ++ news) → Below A₀ base outer h₁ → h₀.UpToSlots h₁ → (∀ q ∈ nw, ∀ p ∈ news, p.1 ≠ q.1) → TextsOut (fun ts => ts = namesL 16 x) nw r → R (.ok (.ret r)) { s with heap := h', toks := tk' }) :
    codeC (model prog w) (ktrTop dp un gd cn cs L a ccd cl outer) (.call (.ref 207) ⟨[.str x t], []⟩) R s := by
  w_top off
  have X := XG.keeps B.stays
  have T := TG.keeps B.stays
  refine' Mine.codeC_defR ?k1 ?k2 ?k3 ?k4 ?k5 ?kA ?kF ?kK ?k6 ?k7 ?k8 ?k9 ?kB ?_ ?c2 ?c3 ?c4 ?c5
  case kA => exact rfl
  case kF => exact rfl
  case kK => assumption
  case k1 => k_asm
  case k2 => k_asm
  case k3 => k_asm
  case k4 => k_asm
  case k5 => k_asm
  case k6 => k_is
  case k7 => k_is
  case k8 => k_dflt ktr_room
  case k9 => exact BindsTo.of_eq rfl
  case c5 => decide
  case kB => exact locs rfl
  case c2 => exact rfl
  case c3 => exact rfl
  case c4 => exact rfl
  intro g' L' h' FG' F' N' B' X' T' lv
  try dsimp only
  refine wpC_execsA ?_
  k_steps
  refine wpC_execs (wpC_For ?_)
  k_steps
  rename_i s₀ I hI hDI hIn hDn hs1 hs2 hs3
  have e1 : s₀.gens = s.gens := hs1
  have e2 : s₀.drawn = s.drawn := hs2
  have e3 : s₀.os = s.os := hs3
  clear hs1 hs2 hs3
  refine codeC_ind (I := NInv s₀ g' L' _ I x news) (fun n s' IH hn => ?_) (fun s' h0 => ?_) 16 _ hI
  · obtain ⟨vs, ns, nn, y, ty, h, tk, m₁, rfl, F1, hn1, hn2, N1, hv, hnm, hy, hl⟩ := hn
    refine codeC_forTurn ?_
    have hI0 := (N1 (I, rIter (16 - ((n + 1 : Nat) : Int)) ((n + 1 : Nat) : Int)) (.tail _ (.head _)))
    refine wpAny_pyNext_range_item hI0.1 (by omega) fun h2 hit hsb => ?_
    dsimp only
    have F2 := F1.change hsb hI0.2.1 hI0.2.2
    have hit' : h2.get? I = some (rIter (16 - (n : Int)) (n : Int)) := by
      have e1 : (16 - ((n + 1 : Nat) : Int)) + 1 = 16 - (n : Int) := by omega
      have e2 : ((n + 1 : Nat) : Int) - 1 = (n : Int) := by omega
      rw [e1, e2] at hit
      exact hit
    have N2 := News.setSecond N1 hDI hIn hsb hit'
    clear N1 F1 hit
    k_steps
    rename Fr _ _ _ _ => F3
    rename News _ _ _ _ => N3
    have F4 := kst_fr (ps := [("names", Value.ref _), ("text", Value.str y ty)]) (stored := []) (m₀ := m₁) (fun q hq => by
      rcases List.mem_cons.mp hq with rfl | hq
      · exact hn1
      · rw [List.mem_singleton.mp hq]; exact hn2) (fun _ _ _ _ => rfl) F3
    clear F3
    refine wpC_execs (wpC_Try ?_)
    refine wpC_execs (wpC_Assign (wpC_methodCall ?_))
    k_steps
    refine wpC_callM (K := hd.heap_39 w.params) (g := 163) (self := .ref 169) X' (by assumption) (.head _) (by kernel_rfl) ?_
    k_steps
    rename Fr _ _ _ _ => F5
    rename News _ _ _ _ => N5
    refine wpC_call (methodC (N5 _ (.head _)).1 ?_)
    have hy' : y.length ≤ 1000 := Nat.le_trans hy hx
    rcases splitMax_cases y with hs | ⟨a', b', hs⟩
    · refine parse_refuses y ty hy' hs B' F5 X' N5 T' rfl (by ktr_room) (fun g2 h5 e tk5 news5 FG2 hsub hRz hup => ?_)
      have FB : Fr base L' g2 _ := ⟨FG2.ns, fun b o q => FG2.keep b o (B'.stays b o q), Nat.le_trans hbL (Nat.le_of_lt (Nat.lt_of_lt_of_le FG'.ns.lt FG2.above))⟩
      show wpAny _ _ (noteFrame _ _) _ _ _
      refine caught_sp (T' := "TypeError") B'.stack FB hup hRz (topRead_of TG) PyProof.Rows.Boot.«TypeError» PySem.F.isExc_TypeError PySem.F.notTuple_TypeError (by rw [isSubtype_type]; kernel_rfl) (hfree := hTE) (fun h7 F7 N7 up7 => ?_)
      have upg : g'.UpToSlots h7 := (Heap.UpToSlots.of_keeps FG2.keep).trans up7
      obtain ⟨h₁, F8, N8, B8, up8⟩ := reground (led := _ :: _ :: _ :: news) B' FG2.above F7.ns F7.keep upg (fun q hq => ⟨(N7 q (hsub q hq)).1, (N7 q (hsub q hq)).2.1, (N7 q (hsub q hq)).2.2, fun o eo => by rw [(N5 q hq).2.2] at eo; cases eo⟩)
      have X8 := XG.keeps B8.stays
      have T8 := TG.keeps B8.stays
      clear N7 F7 N5 F5 FB FG2 hRz X' T' X T
      k_steps
      refine kmk_add_lit (zs := vs ++ [Value.str y ty]) (by k_asm) (by k_asm) (its := vs.toArray) (its2 := #[Value.str y ty]) (by is_list) (by is_list) (by simp) (fun D9 h9 F9 N9 l9 => ?_) (by rw [List.toList_toArray, hv.length, sizeLine_eq]; show _ + 1 ≤ _; omega)
      obtain ⟨h₂, F₂, N₂, B₂, up₂⟩ := names_leave (led := [(D9, listOf (vs ++ [Value.str y ty]).toArray 0)] ++ news) B FG' up8 B8.stays F9 (Mine.News.keepHead N9 fun q hq => .tail _ (.tail _ (.tail _ (.tail _ hq))))
      have hfin := hR (.ref D9) [(D9, listOf (vs ++ [Value.str y ty]).toArray 0)] h9 tk5 h₂ F₂ N₂ B₂ up₂ (fun q hq p hp => by rw [List.mem_singleton.mp hq]; exact Nat.ne_of_lt (l9 p (.tail _ (.tail _ (.tail _ (.tail _ hp)))))) ⟨D9, _, 0, ns ++ [y], rfl, rfl, strsAre_append hv (.cons _ _ .nil), (names_last hnm hs).symm⟩
      rw [← e1, ← e2, ← e3] at hfin
      exact hfin
    · have hbl := splitMax_len y b' (by rw [hs]; exact .tail _ (.head _))
      refine codeC.of (GivesC.use (c_parse y ty hy' a' b' hs) B' F5 X' N5 T' rfl trivial (by ktr_room) (by ktr_units) (fun r nw h6 tk6 F6 N6 hne ho => ?_))
      obtain ⟨q2, d2, t1, t2, rfl, rfl⟩ := ho
      clear F5 N5
      dsimp only [List.cons_append, List.nil_append] at N6 ⊢
      have N7 := drop_third N6
      clear N6
      have hrest := names_rest (o := rIter (16 - (n : Int)) (n : Int)) hDI hDn
      k_steps
      refine wpC.of (wpAny_execs_nil ?_)
      k_steps
      refine wpC_execsA ?_
      k_steps
      refine append_K (by k_asm) (by k_asm) (names_upd hne hrest) ?_ (names_size hv hl)
      intro h8 F8 N8
      try dsimp only
      refine wpC_execsA ?_
      k_steps
      refine wpC.of (wpAny_execs_nil ?_)
      dsimp only
      rename Fr _ _ _ _ => F9
      rename News _ _ _ _ => N9
      rw [List.push_toArray] at N9
      exact IH _ ⟨vs ++ [Value.str (Txt.strip a') t1], ns ++ [Txt.strip a'], nn + 1, Txt.strip b', t2, _, _, _, rfl, F9, rfl, rfl, N9.perm (fun q hq => .tail _ (.tail _ hq)), strsAre_append hv (.cons _ _ .nil), names_next hnm hs,
        Nat.le_trans (fact_strip b') (Nat.le_trans hbl hy), by rw [List.length_append]; show ns.length + 1 + n = 16; omega⟩
  · obtain ⟨vs, ns, nn, y, ty, h, tk, m₁, rfl, F1, hn1, hn2, N1, hv, hnm, hy, hl⟩ := h0
    refine codeC_forTurn ?_
    have hI0 := (N1 (I, rIter (16 - ((0 : Nat) : Int)) ((0 : Nat) : Int)) (.tail _ (.head _)))
    refine wpAny_pyNext_range_end rfl hI0.1 (by decide) fun h2 hx2 => ?_
    dsimp only
    have F2 : Fr g' L' h2 m₁ := ext_fr F1 hx2 hI0.2.1 hI0.2.2
    have N2 : News g' L' h2 ((_, listOf vs.toArray nn) :: news) := ext_news N1 hx2 hDI hIn
    refine wpC_execs (wpC_Return (.of ?_))
    refine ld F2 hn1 ?_
    obtain ⟨h₂, F₂, N₂, B₂, up₂⟩ := names_leave (led := [(_, listOf vs.toArray nn)] ++ news) B FG' (Heap.UpToSlots.refl _) B'.stays F2 N2
    have hfin := hR (.ref _) [(_, listOf vs.toArray nn)] h2 tk h₂ F₂ N₂ B₂ up₂ (fun q hq p hp => by rw [List.mem_singleton.mp hq]; exact hDn p hp) ⟨_, vs, nn, ns, rfl, rfl, hv, names_full hnm⟩
    rw [← e1, ← e2, ← e3] at hfin
    exact hfin
end Mine
end


section
open PySem PySem.W PyProof.Rows PySem.Calls
set_option Elab.async false
set_option maxRecDepth 100000
namespace Mine
section
variable {prog : Program} {w : World} {A A₀ : Around} {E : Value → Shared → Prop} {s : Shared} {env : Env} {R : Result → Shared → Prop} {K : Frag} {L : Addr} {h₀ base : Heap} {m mg mb : Str → Option Value} {news : List (Addr × Obj)} {p : Program} {loose : List Str} {mean : ExcName → Option Value}
/-- as codeC_defR, of a def whose locals are kept in cells -/
theorem codeC_defCR {outer : List Env} {name qual : Str} {params : Arguments} {body : List Stmt} {scope : Scope} {dV kV doc pm cdv ct oc : Value} {an od : Option Addr} {osl : Array (Option Value)} {f : Addr} {args : Args} {binds : List (Str × Value)}
    (B : Below A₀ base outer h₀) (F : Fr h₀ L s.heap m) (X₀ : K.In h₀) (N : News h₀ L s.heap news) (T : Top p loose mean mg mb h₀) (hA : A.frames = some (env :: outer)) (hf : env.frame = some L) (hke : env.scope.kind = .function)
    (ho : K.lookup f = some ⟨oc, od, .func (fnOf name qual params body scope dV kV doc pm an cdv ct), osl⟩) (hcd : codeIn K cdv qual = true) (hroom : A.depth < recursionLimit)
    (hbind : BindsTo s (fnOf name qual params body scope dV kV doc pm an cdv ct) args binds) (hkind : (binds.all fun y => scope.names.lookup y.1 == some .local || scope.names.lookup y.1 == some .cell) = true)
    (hnd : ((cellsFrom 0 scope.names []).map (·.1)).Nodup)
    (h : ∀ g L' h₁ tk cells, Fr h₀ L g m → Fr g L' h₁ (bindL (envOfC qual scope L' f cdv).kindOf binds fun _ => none) → News g L' h₁ (cells ++ news) →
      CellsAre (bindC (envOfC qual scope L' f cdv).kindOf binds fun _ => none) (cellsFrom (L' + 1) scope.names []) cells → Below A base (env :: outer) g → K.In g → Top p loose mean mg mb g → (∀ p ∈ news, p.1 < L') →
      wpC (model prog w) (A.deeper (envOfC qual scope L' f cdv)) (execs body (envOfC qual scope L' f cdv))
        (fun fl s' => R (.ok (.ret (match fl with | .ret v => v | _ => .none))) s')
        (fun e s' => wpAny (model prog w) (A.deeper (envOfC qual scope L' f cdv)) (leaving (envOfC qual scope L' f cdv) e) (fun _ s'' => R (.error e) s'') (fun e' s'' => R (.error e') s'') s')
        { s with heap := h₁, toks := tk })
    (hco : scope.isCoroutine = false) (hgen : scope.isGenerator = false) (hk : scope.kind = .function) : codeC (model prog w) A (.call (.ref f) args) R s := by
  obtain ⟨FG, BG, st, lv⟩ := groundX (R := R) B F N hA hf hke
  refine codeC_call_function (fd := fnOf name qual params body scope dV kV doc pm an cdv ct) (body := body) hroom ((X₀.keeps F.keep) _ _ ho) rfl hco hgen rfl (codeRec_of (X₀.keeps F.keep) hcd) ?_
  refine hbind _ _ _ _ ?_
  refine wpAny_newFunctionEnv_cells hk (kindsX hkind _) fun env' he s' x => ?_
  subst he
  refine ⟨(T.nolimit.keeps F.keep).keeps x.toInCall.keep, codeC_func ?_⟩
  obtain ⟨h₁, tk, rfl, _⟩ := x.done
  have hk₁ := x.toInCall.keep
  obtain ⟨cells, NC, Y⟩ := Cl.news (h₀ := s.heap) (Nat.le_refl _) fun n c hm => ⟨x.cell n c (lookup_of_mem_nodup (cellsFrom_names scope.names 0 (s.heap.objs.size + 1) [] [] rfl ▸ hnd) hm), x.above n c hm⟩
  refine wpC_mono (h _ s.heap.objs.size h₁ tk cells FG ⟨x.toInCall.ns, fun b o e => hk₁ b o (of_hideAll _ e), Nat.le_of_eq (hideAll_size _ _)⟩ (fun p hp => ?_) Y BG (X₀.keeps st) (T.keeps st) (fun p hp => Heap.lt_size (N p hp).1)) (fun fl s' hl => hl) fun _ _ y => y
  rcases List.mem_append.mp hp with hp | hp
  · refine ⟨(NC p hp).1, (NC p hp).2.1, ?_⟩
    cases q : (hideAll s.heap (news.map (·.1))).get? p.1 with
    | none => rfl
    | some o => have := of_hideAll _ q; rw [(NC p hp).2.2] at this; cases this
  · exact ⟨hk₁ _ _ (N p hp).1, Nat.ne_of_lt (Heap.lt_size (N p hp).1), hideAll_none _ (List.mem_map_of_mem hp)⟩
end
end Mine
end


section
open PySem PySem.W PyProof.Rows PySem.Calls
set_option Elab.async false
set_option maxRecDepth 100000
namespace Mine
section
variable {prog : Program} {w : World} {A : Around} {h₀ : Heap} {L : Addr} {m : Str → Option Value} {env : Env} {ct elt : Expr} {x : Str} {scope : Scope} {cl : List (Str × Addr)} {s : Shared} {S : List (Addr × Obj) → Prop} {P : Nat → Value → Prop} {Fin : List Value → List (Addr × Obj) → Prop} {news : List (Addr × Obj)}
/-- a comprehension's turns, by an invariant over the items made and the ledger -/
theorem rest_inv (J : Nat → List Value → List (Addr × Obj) → Prop) {n : Nat}
    (turn : ∀ i v I oI C oC D m₂ ys nw h tk (E' : Value → Shared → Prop), i < n → P i v → J i ys nw → LCg.NsObj oC m₂ → m₂ x = some v → Fr h₀ L h m → News h₀ L h ((I, oI) :: (C, oC) :: (D, LCg.lst ys) :: nw) → LCg.Off3 I C D nw → ((@Ne Nat I C) ∧ (@Ne Nat I D) ∧ (@Ne Nat C D)) →
      wpAny (model prog w) A (eval elt (compEnvC scope cl C env)) (LCg.CompEnd h₀ L m { s with heap := h, toks := tk } I oI C oC D (LCg.lst ys) S (fun y nw' => J (i + 1) (ys ++ [y]) nw')) E' { s with heap := h, toks := tk })
    (fin : ∀ ys nw, J n ys nw → Fin ys nw) (h0 : J 0 [] news) : LCg.CompRest prog w A h₀ L m env elt x scope cl s S P Fin n 0 [] news := by
  have key : ∀ (j i : Nat) (ys : List Value) (nw : List (Addr × Obj)), i + j = n → J i ys nw → LCg.CompRest prog w A h₀ L m env elt x scope cl s S P Fin j i ys nw := by
    intro j
    induction j with
    | zero => intro i ys nw hi hy; exact LCg.CompRest.zero (fin ys nw (by rw [show n = i by omega]; exact hy))
    | succ j ih =>
      intro i ys nw hi hy
      refine LCg.CompRest.succ ?_
      intro v I oI C oC D m₂ h tk E' hv hC hx F N off ne
      refine wpAny_mono (turn i v I oI C oC D m₂ ys nw h tk E' (by omega) hv hy hC hx F N off ne) (fun y s₂ hq => ?_) fun _ _ e => e
      obtain ⟨h', tk', nw', e, F', N', off', hS, hJ⟩ := hq
      exact ⟨h', tk', nw', e, F', N', off', hS, ih (i + 1) _ _ (by omega) hJ⟩
  exact key n 0 [] news (by omega) h0
/-- as CompEnd, the ledger as it was -/
def TurnEnd (h₀ : Heap) (L : Addr) (m : Str → Option Value) (s : Shared) (led : List (Addr × Obj)) (T : Value → Prop) (y : Value) (s' : Shared) : Prop :=
  ∃ h' tk', s' = { s with heap := h', toks := tk' } ∧ Fr h₀ L h' m ∧ News h₀ L h' led ∧ T y
theorem TurnEnd.intro {led : List (Addr × Obj)} {T : Value → Prop} {y : Value} {h' : Heap} {tk' : Nat} (F : Fr h₀ L h' m) (N : News h₀ L h' led) (h : T y) : TurnEnd h₀ L m s led T y { s with heap := h', toks := tk' } := ⟨h', tk', rfl, F, N, h⟩
theorem rest_text {n : Nat} {ts : List Str} (hn : ts.length = n) (hS : S news)
    (turn : ∀ i v I oI C oC D m₂ ys h tk (E' : Value → Shared → Prop), i < n → P i v → LCg.NsObj oC m₂ → m₂ x = some v → Fr h₀ L h m → News h₀ L h ((I, oI) :: (C, oC) :: (D, LCg.lst ys) :: news) → LCg.Off3 I C D news → ((@Ne Nat I C) ∧ (@Ne Nat I D) ∧ (@Ne Nat C D)) →
      wpAny (model prog w) A (eval elt (compEnvC scope cl C env)) (TurnEnd h₀ L m { s with heap := h, toks := tk } ((I, oI) :: (C, oC) :: (D, LCg.lst ys) :: news) (fun y => ∃ t : Tok, y = .str (ts.getD i Str.empty) t)) E' { s with heap := h, toks := tk })
    (fin : ∀ ys, StrsAre ys ts → Fin ys news) : LCg.CompRest prog w A h₀ L m env elt x scope cl s S P Fin n 0 [] news := by
  refine rest_inv (fun i ys nw => nw = news ∧ StrsAre ys (ts.take i)) ?_ ?_ ⟨rfl, .nil⟩
  · intro i v I oI C oC D m₂ ys nw h tk E' hi hv hJ hC hx F N off ne
    obtain ⟨rfl, hy⟩ := hJ
    refine wpAny_mono (turn i v I oI C oC D m₂ ys h tk E' hi hv hC hx F N off ne) (fun y s₂ hq => ?_) fun _ _ e => e
    obtain ⟨h', tk', rfl, F', N', t, rfl⟩ := hq
    refine ⟨h', tk', _, rfl, F', N', off, hS, rfl, ?_⟩
    have e : ts.take (i + 1) = ts.take i ++ [ts.getD i Str.empty] := by
      rw [List.take_add_one, List.getD_eq_getElem?_getD, List.getElem?_eq_getElem (by omega)]; rfl
    rw [e]
    exact strsAre_append hy (.cons _ _ .nil)
  · intro ys nw hJ
    obtain ⟨rfl, hy⟩ := hJ
    rw [List.take_of_length_le (by omega)] at hy
    exact fin ys hy
/-- the items that pass a test, of a range -/
theorem rest_filter {n : Nat} (p : Nat → Bool) (hS : S news)
    (turn : ∀ (i : Nat) (t : Tok) I oI C oC D m₂ ys h tk (E' : Value → Shared → Prop), i < n → LCg.NsObj oC m₂ → m₂ x = some (.int (i : Int) t) → Fr h₀ L h m → News h₀ L h ((I, oI) :: (C, oC) :: (D, LCg.lst ys) :: news) → LCg.Off3 I C D news → ((@Ne Nat I C) ∧ (@Ne Nat I D) ∧ (@Ne Nat C D)) →
      wpAny (model prog w) A (isTrue ct (compEnvC scope cl C env) (eval ct (compEnvC scope cl C env))) (fun b s' => b = p i ∧ (if b = true then wpAny (model prog w) A (eval elt (compEnvC scope cl C env)) (TurnEnd h₀ L m { s with heap := h, toks := tk } ((I, oI) :: (C, oC) :: (D, LCg.lst ys) :: news) (fun y => ∃ t : Tok, y = .int (i : Int) t)) E' s'
        else TurnEnd h₀ L m { s with heap := h, toks := tk } ((I, oI) :: (C, oC) :: (D, LCg.lst ys) :: news) (fun _ => True) .none s')) E' { s with heap := h, toks := tk })
    (fin : ∀ ys, IntsAre ys (((List.range n).filter p).map Int.ofNat) → Fin ys news) : LCt.CompRestT prog w A h₀ L m env ct elt x scope cl s S (fun i v => ∃ t, v = .int (0 + (i : Int)) t) Fin n 0 [] news := by
  have key : ∀ (j i : Nat) (ys : List Value), i + j = n → IntsAre ys (((List.range i).filter p).map Int.ofNat) → LCt.CompRestT prog w A h₀ L m env ct elt x scope cl s S (fun i v => ∃ t, v = .int (0 + (i : Int)) t) Fin j i ys news := by
    intro j
    induction j with
    | zero => intro i ys hi hy; exact LCt.CompRestT.zero (fin ys (by rw [show n = i by omega]; exact hy))
    | succ j ih =>
      intro i ys hi hy
      refine LCt.CompRestT.succ ?_
      intro v I oI C oC D m₂ h tk E' hv hC hx F N off ne
      obtain ⟨t, rfl⟩ := hv
      rw [Int.zero_add] at hx
      have hs : List.range (i + 1) = List.range i ++ [i] := List.range_succ
      refine wpAny_mono (turn i t I oI C oC D m₂ ys h tk E' (by omega) hC hx F N off ne) (fun b s₂ hq => ?_) fun _ _ e => e
      obtain ⟨hb, hq⟩ := hq
      cases b with
      | true =>
        simp only [if_true] at hq ⊢
        refine wpAny_mono hq (fun y s₃ hr => ?_) fun _ _ e => e
        obtain ⟨h', tk', rfl, F', N', t', rfl⟩ := hr
        refine ⟨h', tk', news, rfl, F', N', off, hS, ih (i + 1) _ (by omega) ?_⟩
        rw [hs, List.filter_append, List.map_append]
        refine IntsAre.append hy ?_
        simp only [List.filter_cons, ← hb, if_true, List.filter_nil, List.map_cons, List.map_nil]
        exact .cons _ _ .nil
      | false =>
        simp only [Bool.false_eq_true, if_false] at hq ⊢
        obtain ⟨h', tk', rfl, F', N', _⟩ := hq
        refine ⟨h', tk', news, rfl, F', N', off, hS, ih (i + 1) _ (by omega) ?_⟩
        rw [hs, List.filter_append, List.map_append]
        simp only [List.filter_cons, ← hb, Bool.false_eq_true, if_false, List.filter_nil, List.map_nil, List.append_nil]
        exact hy
  exact key n 0 [] (by omega) .nil
end
/-- addresses that differ all -/
def Apart (l : List (Addr × Obj)) : Prop := (l.map (·.1)).Nodup
theorem Apart.add {a : Addr} {o : Obj} {l : List (Addr × Obj)} (h : Apart l) (hne : ∀ q ∈ [(a, o)], ∀ p ∈ l, p.1 ≠ q.1) : Apart ((a, o) :: l) := by
  refine List.nodup_cons.mpr ⟨fun hm => ?_, h⟩
  obtain ⟨p, hp, e⟩ := List.mem_map.mp hm
  exact hne _ (.head _) p hp e
theorem Apart.off1 {a : Addr} {o : Obj} {l : List (Addr × Obj)} (h : Apart l) (off : LCg.Off1 a l) : Apart ((a, o) :: l) := by
  refine List.nodup_cons.mpr ⟨fun hm => ?_, h⟩
  obtain ⟨p, hp, e⟩ := List.mem_map.mp hm
  clear h hm
  induction l with
  | nil => cases hp
  | cons q r ih => rcases List.mem_cons.mp hp with rfl | hp
                   · exact off.1 e
                   · exact ih off.2 hp
theorem Apart.lt {a : Addr} {o : Obj} {l : List (Addr × Obj)} (h : Apart l) (hlt : ∀ p ∈ l, p.1 < a) : Apart ((a, o) :: l) := h.add fun q hq p hp => by
  rw [List.mem_singleton.mp hq]; exact Nat.ne_of_lt (hlt p hp)
theorem Apart.updF {d : Addr} {o : Obj} : ∀ {pre post : List (Addr × Obj)}, Apart (pre ++ (d, o) :: post) → UpdF d o (pre ++ (d, o) :: post) (fun o' => pre ++ (d, o') :: post)
  | [], post, h => .head fun p hp e => (List.nodup_cons.mp h).1 (by show d ∈ post.map (·.1); rw [← e]; exact List.mem_map_of_mem hp)
  | q :: pre, post, h => .tail (fun e => (List.nodup_cons.mp h).1 (by show q.1 ∈ (pre ++ (d, o) :: post).map (·.1); rw [e, List.map_append]; exact List.mem_append_right _ (.head _))) (Apart.updF (pre := pre) (List.nodup_cons.mp h).2)
theorem Apart.set {d : Addr} {o o' : Obj} {pre post : List (Addr × Obj)} (h : Apart (pre ++ (d, o) :: post)) : Apart (pre ++ (d, o') :: post) := by
  unfold Apart at h ⊢
  rw [List.map_append] at h ⊢
  exact h
end Mine
end


section
open PySem PySem.W PyProof.Rows PySem.Calls
set_option Elab.async false
set_option maxRecDepth 100000
namespace Mine
local macro_rules | `(tactic| walk_at "call ref") => `(tactic| (k_here; (with_reducible show wpAny _ _ (PySem.call (Value.ref 193) [Value.str _ _]) _ _ _); (refine Gives.use (c_pieces _ _ (by assumption)) (by k_asm) (by k_asm) (by k_asm) (by k_asm) (by k_asm) (by rfl) trivial (by ktr_room) (by ktr_units) ?_); intro r' nw' h' tk' F' N' hne' ho'; obtain ⟨P', vs', n', ts', e1', e2', hv', hp'⟩ := ho'; subst e1'; subst e2'; (try dsimp only [List.cons_append, List.nil_append] at N')))
def agreeBody : List Stmt := match PySem.Challenge.pw_il0157_01.main.body.reverse with
  | _ :: .FunctionDef _ _ b _ _ _ _ _ _ _ :: _ => b
  | _ => []
def agreeScope : Scope := match PySem.Challenge.pw_il0157_01.main.body.reverse with
  | _ :: .FunctionDef _ _ _ _ _ _ sc _ _ _ :: _ => sc
  | _ => default
abbrev agreeEnv (L : Addr) : Env := envOfC "_law_agree" agreeScope L 226 (.ref 225)
theorem cells_apart {L W : Addr} {o1 o2 o3 o4 o5 o6 ow : Obj} (l1 : W < L) : Apart [(L + 1 + 1 + 1 + 1 + 1 + 1, o6), (L + 1 + 1 + 1 + 1 + 1, o5), (L + 1 + 1 + 1 + 1, o4), (L + 1 + 1 + 1, o3), (L + 1 + 1, o2), (L + 1, o1), (W, ow)] := by
  have l2 : @LT.lt Nat _ W L := l1
  unfold Apart
  simp only [List.map_cons, List.map_nil, List.nodup_cons, List.mem_cons, List.not_mem_nil, or_false, not_or, List.nodup_nil, and_true, not_false_iff]
  refine ⟨⟨?_, ?_, ?_, ?_, ?_, ?_⟩, ⟨?_, ?_, ?_, ?_, ?_⟩, ⟨?_, ?_, ?_, ?_⟩, ⟨?_, ?_, ?_⟩, ⟨?_, ?_⟩, ?_⟩ <;> exact neN (by omega)
theorem len_texts {prog : Program} {w : World} {A : Around} {E : Value → Shared → Prop} {s : Shared} {Q : Value → Shared → Prop} {l : Addr} {vs : List Value} {ts : List Str} (hl : s.heap.IsList l vs.toArray) (hv : StrsAre vs ts) (hts : ts.length ≤ 30)
    (h : ∀ t k, Q (.int (ts.length : Nat) t) { s with toks := k }) : wpAny (model prog w) A (call (.builtin "len") [.ref l]) Q E s := by
  have e : vs.toArray.size = ts.length := by rw [List.size_toArray, hv.length]
  refine call_len_list hl (by rw [e]; omega) ?_
  rw [e]
  exact h _ _
theorem len_ints {prog : Program} {w : World} {A : Around} {E : Value → Shared → Prop} {s : Shared} {Q : Value → Shared → Prop} {l : Addr} {vs : List Value} {ts : List Int} (hl : s.heap.IsList l vs.toArray) (hv : IntsAre vs ts) (hts : ts.length ≤ 30)
    (h : ∀ t k, Q (.int (ts.length : Nat) t) { s with toks := k }) : wpAny (model prog w) A (call (.builtin "len") [.ref l]) Q E s := by
  have e : vs.toArray.size = ts.length := by rw [List.size_toArray, hv.length]
  refine call_len_list hl (by rw [e]; omega) ?_
  rw [e]
  exact h _ _
theorem small_n {n : Nat} (h : n ≤ 30) : Builtin.Range.small 0 (n : Int) 1 = true := small_one (by decide) (by decide) (by omega) (by omega)
theorem size_n {n : Nat} : Builtin.Range.rangeSize 0 (n : Int) 1 = ((n : Nat) : Int) := by rw [rangeSize_nat]; omega
theorem fits_n {n : Nat} (h : n ≤ 30) : n ≤ sizeLine := by rw [sizeLine_eq]; omega
local macro_rules | `(tactic| walk_at "call builtin:len") => `(tactic| (k_here; first | (refine len_texts (by is_list) (by assumption) (by assumption) ?_; intro t' k'; (try dsimp only)) | (refine len_ints (by is_list) (by assumption) (by assumption) ?_; intro t' k'; (try dsimp only))))
def Stop (p : Prop) : Prop := p
theorem Stop.intro {p : Prop} (h : Stop p) : p := h
local macro_rules | `(tactic| walk_at "CompSrcT") => `(tactic| (with_reducible refine Stop.intro ?_))
local macro_rules | `(tactic| walk_at "CompSrc") => `(tactic| (with_reducible refine Stop.intro ?_))
theorem ints_item {ys : List Value} {ks : List Nat} {i : Nat} {v : Value} (h : IntsAre ys (ks.map Int.ofNat)) (hv : ys.toArray[i]? = some v) : ∃ (k : Nat) (t : Tok), v = .int (k : Nat) t ∧ ks[i]? = some k := by
  obtain ⟨z, t, e, hz⟩ := IntsAre.at h i v (by simpa using hv)
  rw [List.getElem?_map] at hz
  cases e2 : ks[i]? with
  | none => rw [e2] at hz; cases hz
  | some k =>
    rw [e2] at hz
    have : Int.ofNat k = z := Option.some.inj hz
    exact ⟨k, t, by rw [e, ← this]; rfl, rfl⟩
theorem add_bar {y : Str} (h : y.length ≤ 100) : y.length + (Str.ofString "|").length ≤ sizeLine := by
  rw [sizeLine_eq]
  have : (Str.ofString "|").length = 1 := by decide +kernel
  omega
theorem bar_end {y : Str} (h : y.length ≤ 100) : (y ++ "|" : Str).length ≤ 1000 := by
  rw [← tl_length, tl_append, List.length_append, tl_length, tl_length]
  have : (Str.ofString "|").length = 1 := by decide +kernel
  omega
local macro_rules | `(tactic| walk_at "binaryOp Add str str") => `(tactic| (k_here; (with_reducible show wpAny _ _ (binaryOp Operator.Add (Value.str (List.getD _ _ _) _) (Value.str _ _)) _ _ _); (refine SB.add (fun t' k => ?_) (add_bar (getD_le (by assumption))); (try dsimp only))))
local macro_rules | `(tactic| walk_at "call ref") => `(tactic| (k_here; (with_reducible show wpAny _ _ (PySem.call (Value.ref 186) [Value.str _ _, Value.str _ _]) _ _ _); (refine Gives.use (c_bareS _ _ _ (by first | assumption | exact bar_end (getD_le (by assumption)) | exact Nat.le_trans (getD_le (by assumption)) (by decide))) (by k_asm) (by k_asm) (by k_asm) (by k_asm) (by k_asm) (by rfl) trivial (by ktr_room) (by ktr_units) ?_); intro r' nw' h' tk' F' N' hne' ho'; obtain ⟨e1', t', e2'⟩ := ho'; subst e1'; subst e2'; (try simp only [List.nil_append] at N')))
theorem bare_fit {y : Str} (h : y.length ≤ 100) : (bareS (y ++ "|")).length ≤ sizeLine := sizeLine_ge (Nat.le_trans (Nat.le_trans (bareS_len _) (bar_end h)) (by decide))
theorem headS_eq (b : Str) : Txt.slice (bareS (b ++ "|")) none (some (-1)) = headS b := tl_ext (by
  rw [slice_neg1, bareS_tl, headS_tl, tl_append]
  rfl)
theorem heads_at {bd : List Str} {ks : List Nat} {i k : Nat} (h : ks[i]? = some k) : (headsS bd ks).getD i Str.empty = Txt.slice (bareS (bd.getD (Int.toNat (k : Int)) Str.empty ++ "|")) none (some (-1)) := by
  rw [headS_eq, List.getD_eq_getElem?_getD]
  unfold headsS
  rw [List.getElem?_map, h]
  rfl
local macro_rules | `(tactic| walk_at "subscriptTail") => `(tactic| (k_here; (with_reducible show wpAny _ _ (subscriptTail _ (Expr.Slice none (some _) none _) (Value.str (bareS _) _) (Value.ref _)) _ _ _); (refine slice_strN_ns_len (hsz := ?hz) (by k_asm) (by k_asm) ?_; (case hz => exact bare_fit (getD_le (by assumption))); intro h' t' k' F' N' hls'; (try dsimp only))))
theorem own_two {o1 o2 : Addr × Obj} {news : List (Addr × Obj)} (h1 : o1 ∈ news) (h2 : o2 ∈ news) : ∀ q ∈ [o1, o2], q ∈ news := pr_own h1 h2
local macro_rules | `(tactic| walk_at "call ref") => `(tactic| (k_here; (with_reducible show wpAny _ _ (PySem.call (Value.ref 200) [Value.ref _, Value.ref _, Value.str _ _]) _ _ _); (refine GivesR.use (GivesO.gives (c_bodyS _ _ _ _ _ _ _ _ _ (by assumption) (by assumption) (by assumption) (by assumption) (by assumption))) (by k_asm) (by k_asm) (by k_asm) (by k_asm) (by k_asm) (by rfl) (own_two (by k_mem) (by k_mem)) (by ktr_room) (by ktr_units) ?_); intro r' nw' h' tk' F' N' hne' ho'; obtain ⟨P', vs', n', ts', e1', e2', hv', hp'⟩ := ho'; subst e1'; subst e2'; (try dsimp only [List.cons_append, List.nil_append] at N')))
set_option maxHeartbeats 1000000 in
theorem c_agree {prog : Program} {w : World} {p : Program} {loose : List Str} {mean : ExcName → Option Value} {mg mb : Str → Option Value}
    {dp un : Nat} {gd : Option (List Code)} {cn : Str} {cs : Scope} {a : Addr} {ccd : Value} {cl : List (Str × Addr)} {outer : List Env} {A₀ : Around} {base h₀ : Heap} {L : Addr} {m : Str → Option Value} {W : Addr} {ow : Obj} {s : Shared} {R : Result → Shared → Prop} (x b : Str) (t t1 t2 : Tok) (hx : x.length ≤ 20)
    (B : Below A₀ base outer h₀) (F : Fr h₀ L s.heap m) (XG : (hd.heap_39 w.params).In base) (N : News h₀ L s.heap [(W, ow)]) (TG : Top p loose mean mg mb base) (hTE : mg "TypeError" = none) (hbL : base.objs.size ≤ L) (hk : cs.kind = .function) (hdp : dp + 60 < recursionLimit) (hun : un + 600 < cLine)
    (K : ∀ g L' h tk H Bd S P zs bvs ys vs hn bn yn pn ts ks bd o6 o5 o4 o3 o2 o1, Fr h₀ L g m → Fr g L' h (fun y => if y = "text" then some (Value.str x t) else none) → News g L' h [(H, listOf zs.toArray hn), (Bd, listOf bvs.toArray bn), (S, listOf ys.toArray yn), (P, listOf vs.toArray pn), (L' + 1 + 1 + 1 + 1 + 1 + 1, o6), (L' + 1 + 1 + 1 + 1 + 1, o5), (L' + 1 + 1 + 1 + 1, o4), (L' + 1 + 1 + 1, o3), (L' + 1 + 1, o2), (L' + 1, o1), (W, ow)] →
      Below (ktrTop dp un gd cn cs L a ccd cl outer) base (envX cn cs L a ccd cl :: outer) g → o1.data = .cell (some (.str b t1)) → o2.data = .cell (some (.str white t2)) → o3.data = .cell (some (.ref P)) → o4.data = .cell (some (.ref S)) → o5.data = .cell (some (.ref Bd)) → o6.data = .cell (some (.ref H)) →
      StrsAre vs ts → ts.map tl = cut (tl x) → StrsAre bvs bd → IntsAre ys (ks.map Int.ofNat) → StrsAre zs (headsS bd ks) → bodyS ts ks = bd → solidS ts = ks →
      wpC (model prog w) ((ktrTop dp un gd cn cs L a ccd cl outer).deeper (agreeEnv L')) (execs (agreeBody.drop 4) (agreeEnv L'))
        (fun fl s' => R (.ok (.ret (match fl with | .ret v => v | _ => .none))) s')
        (fun e s' => wpAny (model prog w) ((ktrTop dp un gd cn cs L a ccd cl outer).deeper (agreeEnv L')) (leaving (agreeEnv L') e) (fun _ s'' => R (.error e) s'') (fun e' s'' => R (.error e') s'') s')
        { s with heap := h, toks := tk }) :
    codeC (model prog w) (ktrTop dp un gd cn cs L a ccd cl outer) (.call (.ref 226) ⟨[.str x t, .str b t1, .str white t2], []⟩) R s := by
  w_top off
  have X := XG.keeps B.stays
  have T := TG.keeps B.stays
  have hx' : x.length ≤ 100 := Nat.le_trans hx (by decide)
  refine' Mine.codeC_defCR ?k1 ?k2 ?k3 ?k4 ?k5 ?kA ?kF ?kK ?k6 ?k7 ?k8 ?k9 ?kB ?kD ?_ ?c2 ?c3 ?c4
  case kA => exact rfl
  case kF => exact rfl
  case kK => assumption
  case k1 => k_asm
  case k2 => k_asm
  case k3 => k_asm
  case k4 => k_asm
  case k5 => k_asm
  case k6 => k_is
  case k7 => k_is
  case k8 => k_dflt ktr_room
  case k9 => exact BindsTo.of_eq rfl
  case kB => exact rfl
  case kD => decide +kernel
  case c2 => exact rfl
  case c3 => exact rfl
  case c4 => exact rfl
  intro g' L' h' tk' cells' FG' F' N' Y' B' X' T' l1
  k_lt l1
  obtain ⟨o6, o5, o4, o3, o2, o1, hE', d6, d5, d4, d3, d2, d1⟩ := kc_six Y'
  subst hE'
  clear Y'
  have d1 : o1.data = .cell (some (.str b t1)) := d1
  have d2 : o2.data = .cell (some (.str white t2)) := d2
  have d3 : o3.data = .cell none := d3
  have d4 : o4.data = .cell none := d4
  have d5 : o5.data = .cell none := d5
  have d6 : o6.data = .cell none := d6
  simp only [List.cons_append, List.nil_append] at N'
  have hA := cells_apart (o1 := o1) (o2 := o2) (o3 := o3) (o4 := o4) (o5 := o5) (o6 := o6) (ow := ow) l1
  have F' : Fr g' L' h' (fun y => if y = "text" then some (Value.str x t) else none) := F'
  try dsimp only
  try k_lift B'
  try k_fold
  refine wpC_execsA ?_
  k_steps
  rename_i h2 tk2 F2 P vs n ts hv hp N2 hneP
  have hA2 := hA.add hneP
  refine storeX_C F2 N2 rfl (Apart.updF (pre := [_, _, _, _]) hA2) d3 (fun h3 q3 F3 N3 e3 => ?_) rfl rfl
  clear hneP hA F2 N2 d3 F' N'
  obtain ⟨hts, htl⟩ := texts_few hp hx
  have hts : ts.length ≤ 30 := Nat.le_trans hts (by decide)
  have htl : ∀ a ∈ ts, a.length ≤ 100 := fun a ha => Nat.le_trans (htl a ha) (by decide)
  have hA3 := Apart.set (pre := [_, _, _, _]) (o' := q3) hA2
  clear hA2
  dsimp only [List.cons_append, List.nil_append] at N3 hA3
  refine wpC_execs (wpC_Assign (.of ?_))
  refine LCt.ListComp_T F3 (by with_unfolding_all rfl) (by decide) (by rfl) (by decide) (by rfl) ?_
  k_steps
  unfold Stop
  refine LCt.CompSrcT.range (by rfl) (by k_asm) (by k_asm) (by assumption) (small_n (by assumption)) size_n (fits_n (by assumption)) (fun g4 => ?_)
  refine rest_filter (solidB ts) True.intro (fun i ti I oI C oC D m₂ ys h4 tk4 E4 hi hC hk4 F4 N4 off ne => ?_) (fun ys hys => ?_)
  · k_steps
    all_goals first
      | exact TurnEnd.intro (by assumption) (by assumption) ⟨_, rfl⟩
      | exact TurnEnd.intro (by assumption) (by assumption) True.intro
      | exact Eq.symm (by assumption)
  unfold LCg.FinE
  intro S h5 tk5 F5 N5 off5
  dsimp only
  have hA5 := hA3.off1 (o := LCg.lst ys) off5
  refine storeX_C F5 N5 rfl (Apart.updF (pre := [_, _, _, _]) hA5) d4 (fun h6 q4 F6 N6 e4 => ?_) rfl rfl
  have hA6 := Apart.set (pre := [_, _, _, _]) (o' := q4) hA5
  have N6 : News g' L' h6 [(S, listOf ys.toArray ys.length), (P, listOf vs.toArray n), (L' + 1 + 1 + 1 + 1 + 1 + 1, o6), (L' + 1 + 1 + 1 + 1 + 1, o5), (L' + 1 + 1 + 1 + 1, q4), (L' + 1 + 1 + 1, q3), (L' + 1 + 1, o2), (L' + 1, o1), (W, ow)] := N6
  clear hA5 hA3 F5 N5 off5 d4 g4
  have hys : IntsAre ys ((solidS ts).map Int.ofNat) := hys
  have hkl := solid_lt (ts := ts)
  dsimp only [List.cons_append, List.nil_append] at hA6
  dsimp only
  refine wpC_execsA ?_
  k_steps
  rename_i h7 tk7 F7 Bd bvs bn bts hbv hbe N7 hneB
  subst hbe
  have hA7 := hA6.add hneB
  refine storeX_C F7 N7 rfl (Apart.updF (pre := [_, _, _, _]) hA7) d5 (fun h8 q5 F8 N8 e5 => ?_) rfl rfl
  have hA8 := Apart.set (pre := [_, _, _, _]) (o' := q5) hA7
  clear hneB hA6 hA7 F7 N7 d5 N6
  dsimp only [List.cons_append, List.nil_append] at N8 hA8
  obtain ⟨hbl, hbt⟩ := body_few hts htl
  have hbk := body_lt (ts := ts)
  generalize hbd : bodyS ts (solidS ts) = bd at hbv hbl hbt hbk
  generalize hks : solidS ts = ks at hys hbk hkl
  dsimp only
  refine wpC_execs (wpC_Assign (.of ?_))
  refine LCg.ListComp_U F8 (by with_unfolding_all rfl) (by decide) (by rfl) (by decide) (by rfl) ?_
  k_steps
  unfold Stop
  have hkn : ks.length ≤ 30 := by rw [← hks]; exact Nat.le_trans (solid_len ts) hts
  have hyn : ys.toArray.size = ks.length := by rw [List.size_toArray, hys.length, List.length_map]
  refine LCg.CompSrc.ledger (by rfl) F8 N8 (.tail _ (.head _)) (by rw [hyn]; exact fits_n hkn) (fun g9 => ?_)
  refine rest_text (ts := headsS bd ks) (by rw [hyn]; exact List.length_map _) (.inr ⟨_, .tail _ (.head _), rfl, _, rfl⟩) (fun i v I oI C oC D m₂ zs h9 tk9 E9 hi hv9 hC hk9 F9 N9 off9 ne9 => ?_) (fun zs hzs => ?_)
  · obtain ⟨k9, t9, rfl, hk9'⟩ := ints_item hys hv9
    have hkb9 := hbk k9 (List.mem_of_getElem? hk9')
    k_steps
    rename_i t10 k10 F10 N10 h10
    exact TurnEnd.intro F10 N10 ⟨t10, by rw [heads_at hk9']⟩
  unfold LCg.FinE
  intro H h10 tk10 F10 N10 off10
  dsimp only
  have hA10 := hA8.off1 (o := LCg.lst zs) off10
  refine storeX_C F10 N10 rfl (Apart.updF (pre := [_, _, _, _]) hA10) d6 (fun h11 q6 F11 N11 e6 => ?_) rfl rfl
  have N11 : News g' L' h11 [(H, listOf zs.toArray zs.length), (Bd, listOf bvs.toArray bn), (S, listOf ys.toArray ys.length), (P, listOf vs.toArray n), (L' + 1 + 1 + 1 + 1 + 1 + 1, q6), (L' + 1 + 1 + 1 + 1 + 1, q5), (L' + 1 + 1 + 1 + 1, q4), (L' + 1 + 1 + 1, q3), (L' + 1 + 1, o2), (L' + 1, o1), (W, ow)] := N11
  exact K g' L' h11 tk10 H Bd S P zs bvs ys vs zs.length bn ys.length n ts ks bd q6 q5 q4 q3 o2 o1 FG' F11 N11 B' d1 d2 e3 e4 e5 e6 hv hp hbv hys hzs (by rw [← hks]; exact hbd) hks
end Mine
end


section
open PySem PySem.W PyProof.Rows PySem.Calls
set_option Elab.async false
set_option maxRecDepth 100000
namespace Mine
local macro_rules | `(tactic| walk_at "CompSrcT") => `(tactic| (with_reducible refine Stop.intro ?_))
local macro_rules | `(tactic| walk_at "eval ListComp") => `(tactic| (with_reducible refine Stop.intro ?_))
local macro_rules | `(tactic| walk_at "CompSrc") => `(tactic| (with_reducible refine Stop.intro ?_))
local macro_rules | `(tactic| walk_at "call ref") => `(tactic| (k_here; (with_reducible show wpAny _ _ (PySem.call (Value.ref 35) [Value.str _ _, Value.str _ _, Value.str _ _, Value.str _ _, Value.str _ _]) _ _ _); (refine Gives.use (c_replace5 _ _ _ _ _ _ _ _ _ _ (by assumption) (by first | assumption | decide) (by first | assumption | decide) (by assumption) (by first | assumption | decide) (by first | assumption | decide)) (by k_asm) (by k_asm) (by k_asm) (by k_asm) (by k_asm) (by rfl) trivial (by ktr_room) (by ktr_units) ?_); intro r' nw' h' tk' F' N' hne' ho'; obtain ⟨e1', t', e2'⟩ := ho'; subst e1'; subst e2'; (try simp only [List.nil_append] at N')))
local macro_rules | `(tactic| walk_at "call ref") => `(tactic| (k_here; (with_reducible show wpAny _ _ (PySem.call (Value.ref 214) [Value.str _ _]) _ _ _); (refine GivesR.use (c_steps _ _ (by assumption)) (by k_asm) (by k_asm) (by k_asm) (by k_asm) (by k_asm) (by rfl) trivial (by ktr_room) (by ktr_units) ?_); intro r' nw' h' tk' F' N' hne' ho'; obtain ⟨P', vs', n', ds', tl', e1', e2', hd', hp'⟩ := ho'; subst e1'; subst e2'; (try dsimp only [List.cons_append, List.nil_append] at N')))
theorem len_nats {prog : Program} {w : World} {A : Around} {E : Value → Shared → Prop} {s : Shared} {Q : Value → Shared → Prop} {l : Addr} {vs : List Value} {ks : List Nat} (hl : s.heap.IsList l vs.toArray) (hv : IntsAre vs (ks.map Int.ofNat)) (hts : ks.length ≤ 30)
    (h : ∀ t k, Q (.int (ks.length : Nat) t) { s with toks := k }) : wpAny (model prog w) A (call (.builtin "len") [.ref l]) Q E s := by
  have e : vs.toArray.size = ks.length := by rw [List.size_toArray, hv.length, List.length_map]
  refine call_len_list hl (by rw [e]; omega) ?_
  rw [e]
  exact h _ _
local macro_rules | `(tactic| walk_at "call builtin:len") => `(tactic| (k_here; (refine len_nats (by is_list) (by assumption) (by assumption) ?_; intro t' k'; (try dsimp only))))
local macro_rules | `(tactic| walk_at "subscriptTail Name Slice ref ref") => `(tactic| (k_here; (with_reducible show wpAny _ _ (subscriptTail _ (Expr.Slice (some _) none none _) (Value.ref _) (Value.ref _)) _ _ _); k_dflt ((refine slice_list (hsz := rows_size (by assumption) (by assumption)) (by k_asm) (by k_asm) (News.isList (by k_asm) (by k_mem)) (.int _ _) .none ?_); intro h' F' N'; (try dsimp only))))
section
variable {prog : Program} {w : World} {A : Around} {E : Value → Shared → Prop} {s : Shared} {Q : Value → Shared → Prop} {a : Addr} {vs : List Value} {value slice : Expr} {u : Tok} {i : Nat}
theorem item_text {ts : List Str} (hl : s.heap.IsList a vs.toArray) (hv : StrsAre vs ts) (hi : i < ts.length) (hz : ts.length ≤ 30) (h : ∀ t', Q (.str (ts.getD i Str.empty) t') s)
    (hs : subscripted slice false (.ref a) (.int (i : Nat) u) = operate [.ref a, .int (i : Nat) u] (getItem (.ref a) (.int (i : Nat) u)) := by with_unfolding_all rfl) (hg : ∀ r, letTemporaryGo value (.ref a) r = pure () := by intro _; with_unfolding_all rfl) :
    wpAny (model prog w) A (subscriptTail value slice (.ref a) (.int (i : Nat) u)) Q E s := by
  obtain ⟨t, ht⟩ := hv.at (List.getElem?_eq_getElem hi)
  refine subscriptTail_builtin hl.typeIs slot_list_getitem.lookup (wpAny_getItem_list hl (by omega) (by omega) (by simpa using ht) ?_) hs hg
  have e : ts[i] = ts.getD i Str.empty := by rw [List.getD_eq_getElem?_getD, List.getElem?_eq_getElem hi]; rfl
  rw [e]; exact h t
theorem item_nat {ks : List Nat} (hl : s.heap.IsList a vs.toArray) (hv : IntsAre vs (ks.map Int.ofNat)) (hi : i < ks.length) (hz : ks.length ≤ 30) (h : ∀ t', Q (.int ((ks.getD i 0 : Nat) : Int) t') s)
    (hs : subscripted slice false (.ref a) (.int (i : Nat) u) = operate [.ref a, .int (i : Nat) u] (getItem (.ref a) (.int (i : Nat) u)) := by with_unfolding_all rfl) (hg : ∀ r, letTemporaryGo value (.ref a) r = pure () := by intro _; with_unfolding_all rfl) :
    wpAny (model prog w) A (subscriptTail value slice (.ref a) (.int (i : Nat) u)) Q E s := by
  have hl2 : vs.length = ks.length := by rw [hv.length, List.length_map]
  obtain ⟨k, t, e, hk⟩ := ints_item (i := i) (v := vs[i]'(by omega)) hv (by simp)
  refine subscriptTail_builtin hl.typeIs slot_list_getitem.lookup (wpAny_getItem_list (x := .int (k : Nat) t) hl (by omega) (by omega) (by show vs.toArray[i]? = _; simp; rw [List.getElem?_eq_getElem (by omega), e]) ?_) hs hg
  have e2 : ks.getD i 0 = k := by rw [List.getD_eq_getElem?_getD, hk]; rfl
  have := h t
  rw [e2] at this
  exact this
end
local macro_rules | `(tactic| walk_at "subscriptTail Name Name ref int") => `(tactic| (k_here; k_dflt (first | (refine item_text (by is_list) (by assumption) (by assumption) (by assumption) ?_; intro t') | (refine item_nat (by is_list) (by assumption) (by assumption) (by assumption) ?_; intro t'))))
theorem join_rest {prog : Program} {w : World} {A : Around} {E : Value → Shared → Prop} {s : Shared} {Q : Value → Shared → Prop} {D : Addr} {vs : List Value} {b : Str} {t : Tok} {bd : List Str} {k : Nat} (hl : s.heap.IsList D (slicePick vs.toArray (some ((k : Int) + 1)) none none)) (hv : StrsAre vs bd) (hn : bd.length ≤ 30) (ht : ∀ a ∈ bd, a.length ≤ 100) (hb : b.length ≤ 4)
    (hq : ∀ t' k', Q (.str (restS b bd k) t') { s with toks := k' }) : wpAny (model prog w) A (call (.builtin "str.join") [.str b t, .ref D]) Q E s := by
  have h := strs_from hv (x := (k : Int) + 1) (by omega)
  have e : ((k : Int) + 1).toNat = k + 1 := by omega
  rw [e] at h
  exact join_ar hl h (joinOk_small (drop_small hn) (drop_short ht) hb) hq
local macro_rules | `(tactic| walk_at "call builtin:str.join") => `(tactic| (k_here; k_dflt ((refine join_rest (by is_list) (by assumption) (by assumption) (by assumption) (by assumption) ?_); intro t' k'; (try dsimp only))))
theorem mem_end {A tl tups : List (Addr × Obj)} {z : Addr × Obj} : ∀ p ∈ A ++ (tl ++ (tups ++ [z])), p ∈ A ++ (tl ++ tups) ∨ p = z := fun p hp => by
  simp only [List.mem_append, List.mem_singleton] at hp ⊢
  rcases hp with hp | hp | hp | hp
  · exact .inl (.inl hp)
  · exact .inl (.inr (.inl hp))
  · exact .inl (.inr (.inr hp))
  · exact .inr hp
theorem off_end {A tl tups : List (Addr × Obj)} {z : Addr × Obj} {I C D : Addr} (h : LCg.Off3 I C D (A ++ (tl ++ tups))) (h1 : I < z.1) (h2 : C < z.1) (h3 : D < z.1) : LCg.Off3 I C D (A ++ (tl ++ (tups ++ [z]))) := LCg.Off3.of fun p hp => by
  rcases mem_end p hp with hp | rfl
  · exact h.mem p hp
  · exact ⟨Ne.symm (Nat.ne_of_lt h1), Ne.symm (Nat.ne_of_lt h2), Ne.symm (Nat.ne_of_lt h3)⟩
theorem sub_end {A tl tups : List (Addr × Obj)} {z y a b c : Addr × Obj} : ∀ p ∈ a :: b :: c :: (A ++ (tl ++ (tups ++ [z]))), p ∈ z :: y :: a :: b :: c :: (A ++ (tl ++ tups)) := fun p hp => by
  rcases List.mem_cons.mp hp with rfl | hp
  · exact .tail _ (.tail _ (.head _))
  · rcases List.mem_cons.mp hp with rfl | hp
    · exact .tail _ (.tail _ (.tail _ (.head _)))
    · rcases List.mem_cons.mp hp with rfl | hp
      · exact .tail _ (.tail _ (.tail _ (.tail _ (.head _))))
      · rcases mem_end p hp with hp | rfl
        · exact .tail _ (.tail _ (.tail _ (.tail _ (.tail _ hp))))
        · exact .head _
theorem take_one {ks : List Nat} {i : Nat} (h : i < ks.length) : ks.take (i + 1) = ks.take i ++ [ks.getD i 0] := by
  rw [List.take_add_one, List.getD_eq_getElem?_getD, List.getElem?_eq_getElem h]; rfl
theorem heads_getD {bd : List Str} {ks : List Nat} {i : Nat} (h : i < ks.length) : (headsS bd ks).getD i Str.empty = headS (bd.getD (ks.getD i 0) Str.empty) := by
  rw [List.getD_eq_getElem?_getD, List.getD_eq_getElem?_getD (l := ks)]
  unfold headsS
  rw [List.getElem?_map, List.getElem?_eq_getElem h]
  rfl
theorem dat_snoc {tups : List (Addr × Obj)} {qs : List Value} {bd : List Str} {ks : List Nat} {b : Str} {i : Nat} {D : Addr} {t t' : Tok} (h : i < ks.length) (hJ : DatAll tups qs ((ks.take i).map fun k => pairDat (headS (bd.getD k Str.empty), restS b bd k))) :
    DatAll (tups ++ [(D, ({ cls := .type "tuple", data := .seq #[Value.str ((headsS bd ks).getD i Str.empty) t, Value.str (restS b bd (ks.getD i 0)) t'] } : Obj))]) (qs ++ [.ref D]) ((ks.take (i + 1)).map fun k => pairDat (headS (bd.getD k Str.empty), restS b bd k)) := by
  rw [take_one h, List.map_append, heads_getD h]
  refine (hJ.mono fun p hp => List.mem_append_left _ hp).append (.one ?_)
  exact .tuple (vs := [.str _ t, .str _ t']) (List.mem_append_right _ (.head _)) (.cons (.str _ _) (.cons (.str _ _) .nil))
theorem ok_pair {p : Str × Str} (h1 : PyData.strOk p.1 = true) (h2 : PyData.strOk p.2 = true) : kqdOk 8 (pairDat p) = true := by
  show List.all [Dat.str p.1, Dat.str p.2] (kqdOk 7) = true
  simp only [List.all_cons, List.all_nil, Bool.and_true]
  show (PyData.strOk p.1 && PyData.strOk p.2) = true
  rw [h1, h2]; rfl
theorem ok_pairs {x b : Str} {ts : List Str} {ks : List Nat} {bd : List Str} (hO : PlainOK x b ts ks bd) : ∀ d ∈ (pairsS b bd ks).map pairDat, kqdOk 8 d = true := by
  intro d hd
  obtain ⟨p, hp, rfl⟩ := List.mem_map.mp hd
  rcases List.mem_append.mp hp with hp | hp
  · obtain ⟨k, hk, rfl⟩ := List.mem_map.mp hp
    exact ok_pair (hO.okh _ (List.mem_map_of_mem hk)) (hO.okr k hk)
  · rw [List.mem_singleton.mp hp]
    exact ok_pair (by decide +kernel) (by decide +kernel)
theorem sub_app {A B : List (Addr × Obj)} : ∀ p ∈ B, p ∈ A ++ B := fun _ h => List.mem_append_right _ h
theorem perm_tl {a : Addr × Obj} {tl l : List (Addr × Obj)} : ∀ p ∈ a :: l ++ tl, p ∈ a :: (tl ++ l) := fun p hp => by
  rcases List.mem_append.mp hp with hp | hp
  · rcases List.mem_cons.mp hp with rfl | hp
    · exact .head _
    · exact .tail _ (List.mem_append_right _ hp)
  · exact .tail _ (List.mem_append_left _ hp)
set_option maxHeartbeats 1000000 in
theorem agree2 {prog : Program} {w : World} {p : Program} {loose : List Str} {mean : ExcName → Option Value} {mg mb : Str → Option Value}
    {dp un : Nat} {gd : Option (List Code)} {cn : Str} {cs : Scope} {a : Addr} {ccd : Value} {cl : List (Str × Addr)} {outer : List Env} {base g : Heap} {L : Addr} {W : Addr} {ow : Obj} {s : Shared} {Q : Flow → Shared → Prop} {E : Value → Shared → Prop} (x b : Str) (t t1 t2 : Tok) (hx : x.length ≤ 20)
    (hk : cs.kind = .function) (hdp : dp + 60 < recursionLimit) (hun : un + 600 < cLine) (XG : (hd.heap_39 w.params).In base) (TG : Top p loose mean mg mb base)
    (L' : Addr) (h : Heap) (tk : Nat) (H Bd S P : Addr) (zs bvs ys vs : List Value) (hn bn yn pn : Nat) (ts : List Str) (ks : List Nat) (bd : List Str) (o6 o5 o4 o3 o2 o1 : Obj)
    (F : Fr g L' h (fun y => if y = "text" then some (Value.str x t) else none)) (N : News g L' h [(H, listOf zs.toArray hn), (Bd, listOf bvs.toArray bn), (S, listOf ys.toArray yn), (P, listOf vs.toArray pn), (L' + 1 + 1 + 1 + 1 + 1 + 1, o6), (L' + 1 + 1 + 1 + 1 + 1, o5), (L' + 1 + 1 + 1 + 1, o4), (L' + 1 + 1 + 1, o3), (L' + 1 + 1, o2), (L' + 1, o1), (W, ow)])
    (B : Below (ktrTop dp un gd cn cs L a ccd cl outer) base (envX cn cs L a ccd cl :: outer) g)
    (d1 : o1.data = .cell (some (.str b t1))) (d2 : o2.data = .cell (some (.str white t2))) (d3 : o3.data = .cell (some (.ref P))) (d4 : o4.data = .cell (some (.ref S))) (d5 : o5.data = .cell (some (.ref Bd))) (d6 : o6.data = .cell (some (.ref H)))
    (hv : StrsAre vs ts) (hp : ts.map tl = cut (tl x)) (hbv : StrsAre bvs bd) (hys : IntsAre ys (ks.map Int.ofNat)) (hzs : StrsAre zs (headsS bd ks)) (hbd : bodyS ts ks = bd) (hks : solidS ts = ks) (hO : PlainOK x b ts ks bd)
    (K : ∀ h tk T tvs tn tl, Fr g L' h (fun y => if y = "steps" then some (Value.ref T) else if y = "text" then some (Value.str x t) else none) → News g L' h ([(T, listOf tvs.toArray tn), (H, listOf zs.toArray hn), (Bd, listOf bvs.toArray bn), (S, listOf ys.toArray yn), (P, listOf vs.toArray pn), (L' + 1 + 1 + 1 + 1 + 1 + 1, o6), (L' + 1 + 1 + 1 + 1 + 1, o5), (L' + 1 + 1 + 1 + 1, o4), (L' + 1 + 1 + 1, o3), (L' + 1 + 1, o2), (L' + 1, o1), (W, ow)] ++ tl) →
      DatAll tl tvs ((pairsS b bd ks).map pairDat) → wpC (model prog w) ((ktrTop dp un gd cn cs L a ccd cl outer).deeper (agreeEnv L')) (execs (agreeBody.drop 6) (agreeEnv L')) Q E { s with heap := h, toks := tk }) :
    wpC (model prog w) ((ktrTop dp un gd cn cs L a ccd cl outer).deeper (agreeEnv L')) (execs (agreeBody.drop 4) (agreeEnv L')) Q E { s with heap := h, toks := tk } := by
  w_top off
  have X := XG.keeps B.stays
  have T := TG.keeps B.stays
  unfold agreeEnv
  conv in (execs _ _) => arg 1; whnf
  repeat (conv in agreeScope => whnf)
  have hx1 : x.length ≤ 1000 := Nat.le_trans hx (by decide)
  have hr1 := hO.r1
  have hr2 := hO.r2
  have hb4 := hO.b4
  have hb0 := hO.b0
  refine wpC_execsA ?_
  k_steps
  rename_i h1' tk1' t1' hne1' h2' tk2' T tvs tn tds tl htd hte hne2' h3 F3 N3
  clear hne1' hne2'
  have N4 : News g L' h3 ([(T, listOf tvs.toArray tn), (H, listOf zs.toArray hn), (Bd, listOf bvs.toArray bn), (S, listOf ys.toArray yn), (P, listOf vs.toArray pn), (L' + 1 + 1 + 1 + 1 + 1 + 1, o6), (L' + 1 + 1 + 1 + 1 + 1, o5), (L' + 1 + 1 + 1 + 1, o4), (L' + 1 + 1 + 1, o3), (L' + 1 + 1, o2), (L' + 1, o1), (W, ow)] ++ tl) := N3.perm (perm_tl (a := (T, _)))
  clear N3
  dsimp only [List.cons_append, List.nil_append] at N4
  refine wpC_execsA ?_
  k_steps
  unfold Stop
  have hkn : ks.length ≤ 30 := by rw [← hks]; exact Nat.le_trans (solid_len ts) (Nat.le_trans (texts_few hp hx).1 (by decide))
  have hhl : (headsS bd ks).length = ks.length := List.length_map _
  obtain ⟨hbn, hbt⟩ : bd.length ≤ 30 ∧ ∀ a ∈ bd, a.length ≤ 100 := by
    have := body_few (Nat.le_trans (texts_few hp hx).1 (by decide : 20 + 1 ≤ 30)) (fun a ha => Nat.le_trans ((texts_few hp hx).2 a ha) (by decide : 20 ≤ 100))
    rw [hks, hbd] at this
    exact this
  refine LCg.ListComp_U F3 (by with_unfolding_all rfl) (by decide) (by rfl) (by decide) (by rfl) ?_
  k_steps
  unfold Stop
  rename_i h4 tk4 _ _ _ hr4 F4 N4 hk4
  simp only [List.length_map] at hr4
  refine LCg.CompSrc.range (by rfl) F4 N4 hr4 (small_n hkn) size_n (fits_n hkn) (fun g5 => ?_)
  refine rest_inv (fun i rs nw => ∃ tups, nw = ((T, listOf tvs.toArray tn) :: (H, listOf zs.toArray hn) :: (Bd, listOf bvs.toArray bn) :: (S, listOf ys.toArray yn) :: (P, listOf vs.toArray pn) :: (L' + 1 + 1 + 1 + 1 + 1 + 1, o6) :: (L' + 1 + 1 + 1 + 1 + 1, o5) :: (L' + 1 + 1 + 1 + 1, o4) :: (L' + 1 + 1 + 1, o3) :: (L' + 1 + 1, o2) :: (L' + 1, o1) :: (W, ow) :: (tl ++ tups)) ∧ DatAll tups rs ((ks.take i).map fun k => pairDat (headS (bd.getD k Str.empty), restS b bd k))) (fun i v I oI C oC D m₂ qs nw h6 tk6 E6 hi hv6 hJ hC hk6 F6 N6 off6 ne6 => ?_) (fun qs nw hJ => ?_) ?_
  · obtain ⟨t6, rfl⟩ := hv6
    rw [Int.zero_add] at hk6
    obtain ⟨tups, rfl, hJ⟩ := hJ
    have hi2 : i < (headsS bd ks).length := by rw [hhl]; exact hi
    have hi3 : i < (List.map Int.ofNat ks).length := by rw [List.length_map]; exact hi
    k_steps
    rename_i ta hx7 tb kb D10 h10 F10 N10 l10
    show LCg.CompEnd g L' _ _ I oI C oC D (LCg.lst qs) _ _ _ _
    exact LCg.CompEnd.intro F10 N10 _ (sub_end (A := [(T, listOf tvs.toArray tn), (H, listOf zs.toArray hn), (Bd, listOf bvs.toArray bn), (S, listOf ys.toArray yn), (P, listOf vs.toArray pn), (L' + 1 + 1 + 1 + 1 + 1 + 1, o6), (L' + 1 + 1 + 1 + 1 + 1, o5), (L' + 1 + 1 + 1 + 1, o4), (L' + 1 + 1 + 1, o3), (L' + 1 + 1, o2), (L' + 1, o1), (W, ow)])) (off_end off6 l10.2.1 l10.2.2.1 l10.2.2.2.1) True.intro ⟨_, rfl, dat_snoc hi hJ⟩
  · obtain ⟨tups, rfl, hJ⟩ := hJ
    rw [List.take_length] at hJ
    unfold LCg.FinE
    intro Z h11 tk11 F11 N11 off11
    dsimp only
    clear N4 F4 hr4 hk4
    k_steps
    rename_i D12 h12 l12 D13 h13 F13 N13 l13
    have hql : qs.length = ks.length := by rw [hJ.length, List.length_map]
    refine kmk_add_lit (its := qs.toArray) (its2 := #[Value.ref D12]) (zs := qs ++ [.ref D12]) F13 N13 (News.isList N13 (.tail _ (.tail _ (.head _)))) (News.isList N13 (.head _)) (by simp) (fun D14 h14 F14 N14 l14 => ?_) (by rw [sizeLine_eq]; show qs.length + 1 ≤ _; omega)
    have heq : tds.map pairDat = (pairsS b bd ks).map pairDat := by rw [hte, hO.steps]
    have hd2 : DatAll ((D12, ({ cls := .type "tuple", data := .seq #[Value.str "" tk11, Value.str "" (tk11 + 1)] } : Obj)) :: tups) (qs ++ [.ref D12]) ((pairsS b bd ks).map pairDat) := by
      unfold pairsS
      rw [List.map_append, List.map_map]
      exact (hJ.mono fun p hp => .tail _ hp).append (.one (.tuple (vs := [.str _ _, .str _ _]) (.head _) (.cons (.str _ _) (.cons (.str _ _) .nil))))
    refine kqd_ne N14 (.tail _ (.tail _ (.tail _ (.tail _ (.head _))))) rfl rfl htd ?_ (.head _) rfl rfl hd2 ?_ (by rw [heq]; exact ok_pairs hO) (ok_pairs hO) (by ktr_units) ?_
    · intro p hp
      iterate 16 apply List.Mem.tail
      exact List.mem_append_left _ hp
    · intro p hp
      rcases List.mem_cons.mp hp with rfl | hp
      · exact .tail _ (.tail _ (.head _))
      · iterate 16 apply List.Mem.tail
        exact List.mem_append_right _ hp
    simp only [heq, decide_true, Bool.not_true]
    clear l13 l14 N13 F13 off11
    k_steps
    refine K h14 _ T tvs tn tl F14 (N14.perm fun p hp => ?_) (by rw [← heq]; exact htd)
    rcases List.mem_append.mp hp with hp | hp
    · exact .tail _ (.tail _ (.tail _ (.tail _ (List.mem_append_left (tl ++ tups) hp))))
    · iterate 16 apply List.Mem.tail
      exact List.mem_append_left _ hp
  · exact ⟨[], by rw [List.append_nil], .nil⟩
end Mine
end


section
open PySem PySem.W PyProof.Rows PySem.Calls
set_option Elab.async false
set_option maxRecDepth 100000
namespace Mine
local macro_rules | `(tactic| walk_at "CompSrcT") => `(tactic| (with_reducible refine Stop.intro ?_))
local macro_rules | `(tactic| walk_at "eval ListComp") => `(tactic| (with_reducible refine Stop.intro ?_))
local macro_rules | `(tactic| walk_at "CompSrc") => `(tactic| (with_reducible refine Stop.intro ?_))
theorem text_item {vs : List Value} {ts : List Str} {i : Nat} {v : Value} (h : StrsAre vs ts) (hv : vs.toArray[i]? = some v) : ∃ t : Tok, v = .str (ts.getD i Str.empty) t ∧ i < ts.length := by
  have hv' : vs[i]? = some v := by simpa using hv
  have hi : i < vs.length := (List.getElem?_eq_some_iff.mp hv').1
  have hi2 : i < ts.length := by rw [← h.length]; exact hi
  obtain ⟨t, ht⟩ := h.at (List.getElem?_eq_getElem hi2)
  rw [ht] at hv'
  refine ⟨t, ?_, hi2⟩
  rw [← Option.some.inj hv', List.getD_eq_getElem?_getD, List.getElem?_eq_getElem hi2]
  rfl
theorem strs_dat : ∀ {vs : List Value} {ts : List Str}, StrsAre vs ts → DatAll [] vs (ts.map Dat.str)
  | _, _, .nil => .nil
  | _, _, .cons x t h => .cons (.str x t) (strs_dat h)
theorem strs_size {vs : List Value} {ts : List Str} {n : Nat} (h : StrsAre vs ts) (hn : ts.length ≤ n) (hz : n ≤ 100000 := by decide) : vs.toArray.size ≤ sizeLine := by
  rw [List.size_toArray, h.length]; exact sizeLine_ge (Nat.le_trans hn hz)
local macro_rules | `(tactic| walk_at "call ref") => `(tactic| (k_here; (with_reducible show wpAny _ _ (PySem.call (Value.ref 186) [Value.str _ _, Value.str _ _]) _ _ _); k_dflt ((refine Gives.use (c_bareS _ _ _ (by first | assumption | exact Nat.le_trans (getD_le (by assumption)) (by decide))) (by k_asm) (by k_asm) (by k_asm) (by k_asm) (by k_asm) (by rfl) trivial (by ktr_room) (by ktr_units) ?_); intro r' nw' h' tk' F' N' hne' ho'; obtain ⟨e1', t', e2'⟩ := ho'; subst e1'; subst e2'; (try simp only [List.nil_append] at N'))))
theorem add_aeq {y : Str} (h : y.length ≤ 20) : (Str.ofString " a =").length + y.length ≤ sizeLine := by
  rw [sizeLine_eq]
  have : (Str.ofString " a =").length = 4 := by decide +kernel
  omega
theorem aeq_len {y : Str} (h : y.length ≤ 20) : (Str.ofString " a =" ++ y).length ≤ 1000 := by
  rw [← tl_length, tl_append, List.length_append, tl_length, tl_length]
  have : (Str.ofString " a =").length = 4 := by decide +kernel
  omega
local macro_rules | `(tactic| walk_at "binaryOp Add str str") => `(tactic| (k_here; (with_reducible show wpAny _ _ (binaryOp Operator.Add (Value.str _ _) (Value.str _ _)) _ _ _); k_dflt ((refine SB.add (fun t' k => ?_) (add_aeq (by assumption))); (try dsimp only))))
theorem bare_map {ts : List Str} {i : Nat} (h : i < ts.length) : (ts.map bareS).getD i Str.empty = bareS (ts.getD i Str.empty) := by
  rw [List.getD_eq_getElem?_getD, List.getD_eq_getElem?_getD, List.getElem?_map, List.getElem?_eq_getElem h]
  rfl
theorem ok_names {x b : Str} {ts : List Str} {ks : List Nat} {bd : List Str} (hO : PlainOK x b ts ks bd) : ∀ d ∈ (Str.ofString "a" :: ts.map bareS).map Dat.str, kqdOk 8 d = true := by
  intro d hd
  obtain ⟨y, hy, rfl⟩ := List.mem_map.mp hd
  show PyData.strOk y = true
  rcases List.mem_cons.mp hy with rfl | hy
  · decide +kernel
  · obtain ⟨z, hz, rfl⟩ := List.mem_map.mp hy
    exact hO.okn z hz
set_option maxHeartbeats 1000000 in
theorem agree3 {prog : Program} {w : World} {p : Program} {loose : List Str} {mean : ExcName → Option Value} {mg mb : Str → Option Value}
    {dp un : Nat} {gd : Option (List Code)} {cn : Str} {cs : Scope} {a : Addr} {ccd : Value} {cl : List (Str × Addr)} {outer : List Env} {base g : Heap} {L : Addr} {W : Addr} {ow : Obj} {s : Shared} {Q : Flow → Shared → Prop} {E : Value → Shared → Prop} (x b : Str) (t t1 t2 : Tok) (hx : x.length ≤ 20)
    (hdp : dp + 60 < recursionLimit) (hun : un + 600 < cLine) (XG : (hd.heap_39 w.params).In base) (TG : Top p loose mean mg mb base) (hTE : mg "TypeError" = none)
    (L' : Addr) (hbL : base.objs.size ≤ L') (h : Heap) (tk : Nat) (H Bd S P T : Addr) (zs bvs ys vs tvs : List Value) (hn bn yn pn tn : Nat) (ts : List Str) (ks : List Nat) (bd : List Str) (o6 o5 o4 o3 o2 o1 : Obj) (tl : List (Addr × Obj))
    (F : Fr g L' h (fun y => if y = "steps" then some (Value.ref T) else if y = "text" then some (Value.str x t) else none)) (N : News g L' h ([(T, listOf tvs.toArray tn), (H, listOf zs.toArray hn), (Bd, listOf bvs.toArray bn), (S, listOf ys.toArray yn), (P, listOf vs.toArray pn), (L' + 1 + 1 + 1 + 1 + 1 + 1, o6), (L' + 1 + 1 + 1 + 1 + 1, o5), (L' + 1 + 1 + 1 + 1, o4), (L' + 1 + 1 + 1, o3), (L' + 1 + 1, o2), (L' + 1, o1), (W, ow)] ++ tl))
    (B : Below (ktrTop dp un gd cn cs L a ccd cl outer) base (envX cn cs L a ccd cl :: outer) g)
    (d2 : o2.data = .cell (some (.str white t2))) (d3 : o3.data = .cell (some (.ref P)))
    (hv : StrsAre vs ts) (hp : ts.map Mine.tl = cut (Mine.tl x)) (hO : PlainOK x b ts ks bd)
    (K : ∀ g1 h tk, Fr g1 L' h (fun y => if y = "steps" then some (Value.ref T) else if y = "text" then some (Value.str x t) else none) → News g1 L' h ([(T, listOf tvs.toArray tn), (H, listOf zs.toArray hn), (Bd, listOf bvs.toArray bn), (S, listOf ys.toArray yn), (P, listOf vs.toArray pn), (L' + 1 + 1 + 1 + 1 + 1 + 1, o6), (L' + 1 + 1 + 1 + 1 + 1, o5), (L' + 1 + 1 + 1 + 1, o4), (L' + 1 + 1 + 1, o3), (L' + 1 + 1, o2), (L' + 1, o1), (W, ow)] ++ tl) →
      Below (ktrTop dp un gd cn cs L a ccd cl outer) base (envX cn cs L a ccd cl :: outer) g1 → g.UpToSlots g1 →
      wpC (model prog w) ((ktrTop dp un gd cn cs L a ccd cl outer).deeper (agreeEnv L')) (execs (agreeBody.drop 7) (agreeEnv L')) Q E { s with heap := h, toks := tk }) :
    wpC (model prog w) ((ktrTop dp un gd cn cs L a ccd cl outer).deeper (agreeEnv L')) (execs (agreeBody.drop 6) (agreeEnv L')) Q E { s with heap := h, toks := tk } := by
  w_top off
  have X := XG.keeps B.stays
  have T' := TG.keeps B.stays
  unfold agreeEnv
  conv in (execs _ _) => arg 1; whnf
  repeat (conv in agreeScope => whnf)
  refine wpC_execs (wpC_If (wpC_Compare1 (wpC_Call ?_)))
  k_steps
  refine wpC_callK (K := hd.heap_39 w.params) X (by kernel_rfl) ?_
  k_steps
  refine wpC_call ?_
  try rw [List.nil_append]
  rename Fr _ _ _ _ => F1
  rename News _ _ _ _ => N1
  refine c_names (cn := "_law_agree") _ _ (aeq_len hx) B F1 XG N1 TG hTE hbL rfl (by ktr_room) (by ktr_units) (fun r nw h2 tk2 g2 F2 N2 B2 up2 hne2 ho2 => ?_)
  obtain ⟨Z, zvs, zn, zts, rfl, rfl, hzv, rfl⟩ := ho2
  clear F1 N1 X T'
  have X := XG.keeps B2.stays
  have T' := TG.keeps B2.stays
  dsimp only [List.cons_append, List.nil_append] at N2 ⊢
  k_steps
  rename_i A3 h3 F3 N3 l3
  unfold Stop
  obtain ⟨htn, htl⟩ := texts_few hp hx
  refine LCg.ListComp_U F3 (by with_unfolding_all rfl) (by decide) (by rfl) (by decide) (by rfl) ?_
  k_steps
  unfold Stop
  have hyn : vs.toArray.size = ts.length := by rw [List.size_toArray, hv.length]
  refine LCg.CompSrc.ledger (by rfl) F3 N3 (by k_mem) (strs_size hv htn) (fun g4 => ?_)
  refine rest_text (ts := ts.map bareS) (by rw [hyn]; exact List.length_map _) (.inr ⟨_, by k_mem, rfl, _, rfl⟩) (fun i v I oI C oC D m₂ qs h5 tk5 E5 hi hv5 hC hk5 F5 N5 off5 ne5 => ?_) (fun qs hqs => ?_)
  · obtain ⟨t5, rfl, hi5⟩ := text_item hv hv5
    k_steps
    rename_i k6 F6 t6 N6 hne6
    exact TurnEnd.intro F6 N6 ⟨t6, by rw [bare_map hi5]⟩
  · unfold LCg.FinE
    intro D7 h7 tk7 F7 N7 off7
    dsimp only
    have hqn : qs.length = ts.length := by rw [hqs.length, List.length_map]
    refine kmk_add_lit (its := #[Value.str "a" tk2]) (its2 := qs.toArray) (zs := Value.str "a" tk2 :: qs) F7 N7 (News.isList N7 (.tail _ (.head _))) (News.isList N7 (.head _)) (by simp) (fun D8 h8 F8 N8 l8 => ?_) (by rw [sizeLine_eq]; show 1 + qs.length ≤ _; omega)
    have heq : (namesL 16 (Str.ofString " a =" ++ x)).map Dat.str = (Str.ofString "a" :: ts.map bareS).map Dat.str := by rw [hO.names1]
    refine kqd_ne N8 (.tail _ (.tail _ (.tail _ (.head _)))) rfl rfl (strs_dat hzv) (fun _ h => nomatch h) (.head _) rfl rfl (strs_dat (.cons (Str.ofString "a") tk2 hqs)) (fun _ h => nomatch h) (by rw [heq]; exact ok_names hO) (ok_names hO) (by ktr_units) ?_
    simp only [heq, decide_true, Bool.not_true]
    clear F7 N7 off7 l8
    k_steps
    refine wpC.of (wpAny_execs_nil ?_)
    exact K g2 h8 _ F8 (N8.perm fun p hp => .tail _ (.tail _ (.tail _ (.tail _ hp)))) B2 up2
end Mine
end


section
open PySem PySem.W PyProof.Rows PySem.Calls
set_option Elab.async false
set_option maxRecDepth 100000
namespace Mine
local macro_rules | `(tactic| walk_at "eval ListComp") => `(tactic| (with_reducible refine Stop.intro ?_))
local macro_rules | `(tactic| walk_at "CompSrc") => `(tactic| (with_reducible refine Stop.intro ?_))
theorem pair_at {tl : List (Addr × Obj)} {tvs : List Value} {b : Str} {bd : List Str} {ks : List Nat} {i : Nat} {v : Value} (h : DatAll tl tvs ((pairsS b bd ks).map pairDat)) (hv : (tvs.take ks.length).toArray[i]? = some v) :
    i < ks.length ∧ ∃ (a : Addr) (n : Nat) (t t' : Tok), v = .ref a ∧ (a, ({ cls := .type "tuple", data := .seq #[Value.str (headS (bd.getD (ks.getD i 0) Str.empty)) t, Value.str (restS b bd (ks.getD i 0)) t'] n } : Obj)) ∈ tl := by
  have hv' : (tvs.take ks.length)[i]? = some v := by simpa using hv
  have hlen := h.length
  have hpl : (pairsS b bd ks).length = ks.length + 1 := by unfold pairsS; rw [List.length_append, List.length_map]; rfl
  rw [List.length_map, hpl] at hlen
  have hi : i < ks.length := by
    have := (List.getElem?_eq_some_iff.mp hv').1
    rw [List.length_take] at this
    omega
  refine ⟨hi, ?_⟩
  rw [List.getElem?_take_of_lt hi] at hv'
  have hi2 : i < ((pairsS b bd ks).map pairDat).length := by rw [List.length_map, hpl]; omega
  obtain ⟨v', e, hd⟩ := h.get hi2
  rw [hv'] at e
  cases e
  have e2 : ((pairsS b bd ks).map pairDat)[i] = .tuple [.str (headS (bd.getD (ks.getD i 0) Str.empty)), .str (restS b bd (ks.getD i 0))] := by
    rw [List.getElem_map]
    unfold pairsS
    rw [List.getElem_append_left (by rw [List.length_map]; exact hi), List.getElem_map, List.getD_eq_getElem?_getD (l := ks), List.getElem?_eq_getElem hi]
    rfl
  rw [e2] at hd
  cases hd with
  | tuple hm r =>
    cases r with
    | cons h1 r => cases h1; cases r with
      | cons h2 r => cases h2; cases r; exact ⟨_, _, _, _, rfl, hm⟩
theorem but_last {tvs : List Value} {k : Nat} (h : tvs.length = k + 1) : slicePick tvs.toArray none (some (-1)) none = (tvs.take k).toArray := by
  have := slicePick_butLast tvs.toArray 1 (Nat.le_refl 1)
  rw [show slicePick tvs.toArray none (some (-1)) none = _ from this]
  simp [h]
theorem pair_fit {b y : Str} (h1 : b.length ≤ 4) (h2 : y.length ≤ 100) : b.length + y.length ≤ sizeLine := by rw [sizeLine_eq]; omega
theorem item_first {prog : Program} {w : World} {A : Around} {E : Value → Shared → Prop} {s : Shared} {value slice : Expr} {t : Addr} {v v' : Value} {u : Tok} {Q : Value → Shared → Prop} (ht : IsTup s.heap t #[v, v']) (h : Q v s)
    (hs : subscripted slice false (.ref t) (.int 0 u) = operate [.ref t, .int 0 u] (getItem (.ref t) (.int 0 u)) := by with_unfolding_all rfl) (hg : ∀ r, letTemporaryGo value (.ref t) r = pure () := by intro _; with_unfolding_all rfl) :
    wpAny (model prog w) A (subscriptTail value slice (.ref t) (.int 0 u)) Q E s := item_tuple (k := 0) (j := 0) ht (by decide) (by decide) rfl rfl h hs hg
local macro_rules | `(tactic| walk_at "subscriptTail Name Constant ref int") => `(tactic| (k_here; k_dflt ((refine item_first (by assumption) ?_))))
local macro_rules | `(tactic| walk_at "binaryOp Add str str") => `(tactic| (k_here; (with_reducible show wpAny _ _ (binaryOp Operator.Add (Value.str _ _) (Value.str (headS _) _)) _ _ _); k_dflt ((refine SB.add (fun t' k => ?_) (pair_fit (by assumption) (Nat.le_trans (headS_len _) (getD_le (by assumption))))); (try dsimp only))))
local macro_rules | `(tactic| walk_at "subscriptTail Name Slice ref ref") => `(tactic| (k_here; (with_reducible show wpAny _ _ (subscriptTail _ (Expr.Slice none (some _) none _) (Value.ref _) (Value.ref _)) _ _ _); k_dflt ((refine slice_list (hsz := by assumption) (by k_asm) (by k_asm) (News.isList (by k_asm) (by k_mem)) .none (.int _ _) ?_); intro h' F' N'; (try dsimp only))))
theorem join_back {prog : Program} {w : World} {A : Around} {E : Value → Shared → Prop} {s : Shared} {Q : Value → Shared → Prop} {D : Addr} {vs : List Value} {b : Str} {t : Tok} {hs : List Str} (hl : s.heap.IsList D vs.toArray) (hv : StrsAre vs (hs.map fun h => b ++ h)) (hn : hs.length ≤ 30) (ht : ∀ a ∈ hs, a.length ≤ 100) (hb : b.length ≤ 4)
    (hq : ∀ t' k', Q (.str (backS b hs) t') { s with toks := k' }) : wpAny (model prog w) A (call (.builtin "str.join") [.str "" t, .ref D]) Q E s := by
  refine join_ts hl hv (joinOk_few' (n := 30) (k := 104) (b := 4) (by rw [List.length_map]; exact hn) (fun a ha => ?_) (by decide)) hq
  obtain ⟨h, hh, rfl⟩ := List.mem_map.mp ha
  rw [← tl_length, tl_append, List.length_append, tl_length, tl_length]
  have := ht h hh
  omega
local macro_rules | `(tactic| walk_at "call builtin:str.join") => `(tactic| (k_here; k_dflt ((refine join_back (by is_list) (by assumption) (by assumption) (by assumption) (by assumption) ?_); intro t' k'; (try dsimp only))))
local macro_rules | `(tactic| walk_at "call ref") => `(tactic| (k_here; (with_reducible show wpAny _ _ (PySem.call (Value.ref 35) [Value.str _ _, Value.str _ _, Value.str _ _, Value.str _ _, Value.str _ _]) _ _ _); k_dflt ((refine Gives.use (c_replace5 _ _ _ _ _ _ _ _ _ _ (by assumption) (by first | assumption | decide) (by first | assumption | decide) (by assumption) (by first | assumption | decide) (by first | assumption | decide)) (by k_asm) (by k_asm) (by k_asm) (by k_asm) (by k_asm) (by rfl) trivial (by ktr_room) (by ktr_units) ?_); intro r' nw' h' tk' F' N' hne' ho'; obtain ⟨e1', t', e2'⟩ := ho'; subst e1'; subst e2'; (try simp only [List.nil_append] at N'))))
theorem back_map {b : Str} {bd : List Str} {ks : List Nat} {i : Nat} (h : i < ks.length) : ((headsS bd ks).map fun y => b ++ y).getD i Str.empty = b ++ headS (bd.getD (ks.getD i 0) Str.empty) := by
  rw [← heads_getD h, List.getD_eq_getElem?_getD, List.getD_eq_getElem?_getD, List.getElem?_map]
  have h2 : i < (headsS bd ks).length := by rw [show (headsS bd ks).length = ks.length from List.length_map _]; exact h
  rw [List.getElem?_eq_getElem h2]
  rfl
theorem in_led {a1 a2 a3 a4 a5 a6 a7 a8 a9 b1 b2 b3 z : Addr × Obj} {tl : List (Addr × Obj)} (h : z ∈ tl) : z ∈ a1 :: a2 :: a3 :: a4 :: a5 :: a6 :: a7 :: a8 :: a9 :: b1 :: b2 :: b3 :: tl := by
  iterate 12 apply List.Mem.tail
  exact h
set_option maxHeartbeats 1000000 in
theorem agree4 {prog : Program} {w : World} {p : Program} {loose : List Str} {mean : ExcName → Option Value} {mg mb : Str → Option Value}
    {dp un : Nat} {gd : Option (List Code)} {cn : Str} {cs : Scope} {a : Addr} {ccd : Value} {cl : List (Str × Addr)} {outer : List Env} {base g : Heap} {L : Addr} {W : Addr} {ow : Obj} {s : Shared} {Q : Flow → Shared → Prop} {E : Value → Shared → Prop} (x b : Str) (t t1 : Tok)
    (hdp : dp + 60 < recursionLimit) (hun : un + 600 < cLine) (XG : (hd.heap_39 w.params).In base) (TG : Top p loose mean mg mb base)
    (L' : Addr) (h : Heap) (tk : Nat) (H Bd S P T : Addr) (zs bvs ys vs tvs : List Value) (hn bn yn pn tn : Nat) (ts : List Str) (ks : List Nat) (bd : List Str) (o6 o5 o4 o3 o2 o1 : Obj) (tl : List (Addr × Obj))
    (F : Fr g L' h (fun y => if y = "steps" then some (Value.ref T) else if y = "text" then some (Value.str x t) else none)) (N : News g L' h ([(T, listOf tvs.toArray tn), (H, listOf zs.toArray hn), (Bd, listOf bvs.toArray bn), (S, listOf ys.toArray yn), (P, listOf vs.toArray pn), (L' + 1 + 1 + 1 + 1 + 1 + 1, o6), (L' + 1 + 1 + 1 + 1 + 1, o5), (L' + 1 + 1 + 1 + 1, o4), (L' + 1 + 1 + 1, o3), (L' + 1 + 1, o2), (L' + 1, o1), (W, ow)] ++ tl))
    (B : Below (ktrTop dp un gd cn cs L a ccd cl outer) base (envX cn cs L a ccd cl :: outer) g)
    (d1 : o1.data = .cell (some (.str b t1))) (htd : DatAll tl tvs ((pairsS b bd ks).map pairDat)) (hkn : ks.length ≤ 30) (hbt : ∀ a ∈ bd, a.length ≤ 100) (hO : PlainOK x b ts ks bd)
    (K : ∀ h tk tb, Fr g L' h (fun y => if y = "back" then some (Value.str (rep1 (rep1 (backS b (headsS bd ks)) b "==") "==" "=") tb) else if y = "steps" then some (Value.ref T) else if y = "text" then some (Value.str x t) else none) → News g L' h ([(T, listOf tvs.toArray tn), (H, listOf zs.toArray hn), (Bd, listOf bvs.toArray bn), (S, listOf ys.toArray yn), (P, listOf vs.toArray pn), (L' + 1 + 1 + 1 + 1 + 1 + 1, o6), (L' + 1 + 1 + 1 + 1 + 1, o5), (L' + 1 + 1 + 1 + 1, o4), (L' + 1 + 1 + 1, o3), (L' + 1 + 1, o2), (L' + 1, o1), (W, ow)] ++ tl) →
      wpC (model prog w) ((ktrTop dp un gd cn cs L a ccd cl outer).deeper (agreeEnv L')) (execs (agreeBody.drop 8) (agreeEnv L')) Q E { s with heap := h, toks := tk }) :
    wpC (model prog w) ((ktrTop dp un gd cn cs L a ccd cl outer).deeper (agreeEnv L')) (execs (agreeBody.drop 7) (agreeEnv L')) Q E { s with heap := h, toks := tk } := by
  w_top off
  have X := XG.keeps B.stays
  have T' := TG.keeps B.stays
  have hb4 := hO.b4
  have hb0 := hO.b0
  have hk1 := hO.k1
  have hk2 := hO.k2
  have hht : ∀ a ∈ headsS bd ks, a.length ≤ 100 := heads_few hbt
  have hhn : (headsS bd ks).length ≤ 30 := by rw [show (headsS bd ks).length = ks.length from List.length_map _]; exact hkn
  have htvl : tvs.length = ks.length + 1 := by
    rw [htd.length, List.length_map]; unfold pairsS; rw [List.length_append, List.length_map]; rfl
  have htvs : tvs.toArray.size ≤ sizeLine := by rw [List.size_toArray, htvl, sizeLine_eq]; omega
  dsimp only [List.cons_append, List.nil_append] at N
  unfold agreeEnv
  conv in (execs _ _) => arg 1; whnf
  repeat (conv in agreeScope => whnf)
  refine wpC_execsA ?_
  k_steps
  unfold Stop
  refine LCg.ListComp_U (by k_asm) (by with_unfolding_all rfl) (by decide) (by rfl) (by decide) (by rfl) ?_
  k_steps
  unfold Stop
  rename_i h4 F4 N4
  rw [but_last htvl] at N4
  have hsz : (tvs.take ks.length).toArray.size = ks.length := by rw [List.size_toArray, List.length_take, htvl]; omega
  refine LCg.CompSrc.ledger (by rfl) F4 N4 (.head _) (by rw [hsz]; exact fits_n hkn) (fun g5 => ?_)
  refine rest_text (ts := (headsS bd ks).map fun y => b ++ y) (by rw [hsz, List.length_map]; exact List.length_map _) (.inr ⟨_, .head _, rfl, _, rfl⟩) (fun i v I oI C oC D m₂ qs h6 tk6 E6 hi hv6 hC hk6 F6 N6 off6 ne6 => ?_) (fun qs hqs => ?_)
  · obtain ⟨hi6, q6, n6, t6, t6', rfl, hm6⟩ := pair_at htd hv6
    have hIT : IsTup h6 q6 #[Value.str (headS (bd.getD (ks.getD i 0) Str.empty)) t6, Value.str (restS b bd (ks.getD i 0)) t6'] := by
      have hz := (N6 (q6, ({ cls := .type "tuple", data := .seq #[Value.str (headS (bd.getD (ks.getD i 0) Str.empty)) t6, Value.str (restS b bd (ks.getD i 0)) t6'] n6 } : Obj)) (.tail _ (.tail _ (.tail _ (.tail _ (in_led hm6)))))).1
      exact ⟨_, hz, rfl, n6, rfl⟩
    k_steps
    exact TurnEnd.intro (by assumption) (by assumption) ⟨_, by rw [back_map hi6]⟩
  · unfold LCg.FinE
    intro D7 h7 tk7 F7 N7 off7
    dsimp only
    k_steps
    exact K _ _ _ (by assumption) (News.perm (by assumption) fun p hp => .tail _ (.tail _ hp))
end Mine
end


section
open PySem PySem.W PyProof.Rows PySem.Calls
set_option Elab.async false
set_option maxRecDepth 100000
namespace Mine
local macro_rules | `(tactic| walk_at "eval ListComp") => `(tactic| (with_reducible refine Stop.intro ?_))
local macro_rules | `(tactic| walk_at "CompSrc") => `(tactic| (with_reducible refine Stop.intro ?_))
local macro_rules | `(tactic| walk_at "call ref") => `(tactic| (k_here; (with_reducible show wpAny _ _ (PySem.call (Value.ref 186) [Value.str _ _, Value.str _ _]) _ _ _); k_dflt ((refine Gives.use (c_bareS _ _ _ (by first | assumption | exact Nat.le_trans (getD_le (by assumption)) (by decide))) (by k_asm) (by k_asm) (by k_asm) (by k_asm) (by k_asm) (by rfl) trivial (by ktr_room) (by ktr_units) ?_); intro r' nw' h' tk' F' N' hne' ho'; obtain ⟨e1', t', e2'⟩ := ho'; subst e1'; subst e2'; (try simp only [List.nil_append] at N'))))
theorem ok_heads {x b : Str} {ts : List Str} {ks : List Nat} {bd : List Str} (hO : PlainOK x b ts ks bd) : ∀ d ∈ (Str.ofString "" :: (headsS bd ks).map bareS).map Dat.str, kqdOk 8 d = true := by
  intro d hd
  obtain ⟨y, hy, rfl⟩ := List.mem_map.mp hd
  show PyData.strOk y = true
  rcases List.mem_cons.mp hy with rfl | hy
  · decide +kernel
  · obtain ⟨z, hz, rfl⟩ := List.mem_map.mp hy
    exact hO.okb z hz
set_option maxHeartbeats 1000000 in
theorem agree5 {prog : Program} {w : World} {p : Program} {loose : List Str} {mean : ExcName → Option Value} {mg mb : Str → Option Value}
    {dp un : Nat} {gd : Option (List Code)} {cn : Str} {cs : Scope} {a : Addr} {ccd : Value} {cl : List (Str × Addr)} {outer : List Env} {base g : Heap} {L : Addr} {W : Addr} {ow : Obj} {s : Shared} {Q : Flow → Shared → Prop} {E : Value → Shared → Prop} (x b : Str) (t t2 tb : Tok)
    (hdp : dp + 60 < recursionLimit) (hun : un + 600 < cLine) (XG : (hd.heap_39 w.params).In base) (TG : Top p loose mean mg mb base) (hTE : mg "TypeError" = none)
    (L' : Addr) (hbL : base.objs.size ≤ L') (h : Heap) (tk : Nat) (H Bd S P T : Addr) (zs bvs ys vs tvs : List Value) (hn bn yn pn tn : Nat) (ts : List Str) (ks : List Nat) (bd : List Str) (o6 o5 o4 o3 o2 o1 : Obj) (tl : List (Addr × Obj))
    (F : Fr g L' h (fun y => if y = "back" then some (Value.str (rep1 (rep1 (backS b (headsS bd ks)) b "==") "==" "=") tb) else if y = "steps" then some (Value.ref T) else if y = "text" then some (Value.str x t) else none)) (N : News g L' h ([(T, listOf tvs.toArray tn), (H, listOf zs.toArray hn), (Bd, listOf bvs.toArray bn), (S, listOf ys.toArray yn), (P, listOf vs.toArray pn), (L' + 1 + 1 + 1 + 1 + 1 + 1, o6), (L' + 1 + 1 + 1 + 1 + 1, o5), (L' + 1 + 1 + 1 + 1, o4), (L' + 1 + 1 + 1, o3), (L' + 1 + 1, o2), (L' + 1, o1), (W, ow)] ++ tl))
    (B : Below (ktrTop dp un gd cn cs L a ccd cl outer) base (envX cn cs L a ccd cl :: outer) g)
    (d2 : o2.data = .cell (some (.str white t2))) (d6 : o6.data = .cell (some (.ref H)))
    (hv : StrsAre zs (headsS bd ks)) (hkn : ks.length ≤ 30) (hbt : ∀ a ∈ bd, a.length ≤ 100) (hO : PlainOK x b ts ks bd)
    (K : ∀ g1 h tk, Fr g1 L' h (fun y => if y = "back" then some (Value.str (rep1 (rep1 (backS b (headsS bd ks)) b "==") "==" "=") tb) else if y = "steps" then some (Value.ref T) else if y = "text" then some (Value.str x t) else none) → News g1 L' h ([(T, listOf tvs.toArray tn), (H, listOf zs.toArray hn), (Bd, listOf bvs.toArray bn), (S, listOf ys.toArray yn), (P, listOf vs.toArray pn), (L' + 1 + 1 + 1 + 1 + 1 + 1, o6), (L' + 1 + 1 + 1 + 1 + 1, o5), (L' + 1 + 1 + 1 + 1, o4), (L' + 1 + 1 + 1, o3), (L' + 1 + 1, o2), (L' + 1, o1), (W, ow)] ++ tl) →
      Below (ktrTop dp un gd cn cs L a ccd cl outer) base (envX cn cs L a ccd cl :: outer) g1 → g.UpToSlots g1 →
      wpC (model prog w) ((ktrTop dp un gd cn cs L a ccd cl outer).deeper (agreeEnv L')) (execs (agreeBody.drop 9) (agreeEnv L')) Q E { s with heap := h, toks := tk }) :
    wpC (model prog w) ((ktrTop dp un gd cn cs L a ccd cl outer).deeper (agreeEnv L')) (execs (agreeBody.drop 8) (agreeEnv L')) Q E { s with heap := h, toks := tk } := by
  w_top off
  have X := XG.keeps B.stays
  have T' := TG.keeps B.stays
  unfold agreeEnv
  conv in (execs _ _) => arg 1; whnf
  repeat (conv in agreeScope => whnf)
  refine wpC_execs (wpC_If (wpC_Compare1 (wpC_Call ?_)))
  k_steps
  refine wpC_callK (K := hd.heap_39 w.params) X (by kernel_rfl) ?_
  k_steps
  refine wpC_call ?_
  try rw [List.nil_append]
  rename Fr _ _ _ _ => F1
  rename News _ _ _ _ => N1
  refine c_names (cn := "_law_agree") _ _ hO.k3 B F1 XG N1 TG hTE hbL rfl (by ktr_room) (by ktr_units) (fun r nw h2 tk2 g2 F2 N2 B2 up2 hne2 ho2 => ?_)
  obtain ⟨Z, zvs, zn, zts, rfl, rfl, hzv, rfl⟩ := ho2
  clear F1 N1 X T'
  have X := XG.keeps B2.stays
  have T' := TG.keeps B2.stays
  dsimp only [List.cons_append, List.nil_append] at N2 ⊢
  k_steps
  rename_i A3 h3 F3 N3 l3
  unfold Stop
  have htl : ∀ a ∈ headsS bd ks, a.length ≤ 100 := heads_few hbt
  have htn : (headsS bd ks).length ≤ 30 := by rw [show (headsS bd ks).length = ks.length from List.length_map _]; exact hkn
  refine LCg.ListComp_U F3 (by with_unfolding_all rfl) (by decide) (by rfl) (by decide) (by rfl) ?_
  k_steps
  unfold Stop
  have hyn : zs.toArray.size = (headsS bd ks).length := by rw [List.size_toArray, hv.length]
  refine LCg.CompSrc.ledger (by rfl) F3 N3 (by k_mem) (strs_size hv htn) (fun g4 => ?_)
  refine rest_text (ts := (headsS bd ks).map bareS) (by rw [hyn]; exact List.length_map _) (.inr ⟨_, by k_mem, rfl, _, rfl⟩) (fun i v I oI C oC D m₂ qs h5 tk5 E5 hi hv5 hC hk5 F5 N5 off5 ne5 => ?_) (fun qs hqs => ?_)
  · obtain ⟨t5, rfl, hi5⟩ := text_item hv hv5
    k_steps
    rename_i k6 F6 t6 N6 hne6
    exact TurnEnd.intro F6 N6 ⟨t6, by rw [bare_map hi5]⟩
  · unfold LCg.FinE
    intro D7 h7 tk7 F7 N7 off7
    dsimp only
    have hqn : qs.length = (headsS bd ks).length := by rw [hqs.length]; exact List.length_map _
    refine kmk_add_lit (its := #[Value.str "" tk2]) (its2 := qs.toArray) (zs := Value.str "" tk2 :: qs) F7 N7 (News.isList N7 (.tail _ (.head _))) (News.isList N7 (.head _)) (by simp) (fun D8 h8 F8 N8 l8 => ?_) (by rw [sizeLine_eq]; show 1 + qs.length ≤ _; omega)
    have heq : (namesL 16 (rep1 (rep1 (backS b (headsS bd ks)) b "==") "==" "=")).map Dat.str = (Str.ofString "" :: (headsS bd ks).map bareS).map Dat.str := by rw [hO.names2]
    refine kqd_ne N8 (.tail _ (.tail _ (.tail _ (.head _)))) rfl rfl (strs_dat hzv) (fun _ h => nomatch h) (.head _) rfl rfl (strs_dat (.cons (Str.ofString "") tk2 hqs)) (fun _ h => nomatch h) (by rw [heq]; exact ok_heads hO) (ok_heads hO) (by ktr_units) ?_
    simp only [heq, decide_true, Bool.not_true]
    clear F7 N7 off7 l8
    k_steps
    refine wpC.of (wpAny_execs_nil ?_)
    exact K g2 h8 _ F8 (N8.perm fun p hp => .tail _ (.tail _ (.tail _ (.tail _ hp)))) B2 up2
end Mine
end


section
open PySem PySem.W PyProof.Rows PySem.Calls
set_option Elab.async false
set_option maxRecDepth 100000
namespace Mine
local macro_rules | `(tactic| walk_at "compareOp NotEq ref ref") => `(tactic| (k_here; with_reducible refine Stop.intro ?_))
local macro_rules | `(tactic| walk_at "binaryOp Add ref ref") => `(tactic| (k_here; with_reducible refine Stop.intro ?_))
theorem item_nat0 {prog : Program} {w : World} {A : Around} {E : Value → Shared → Prop} {s : Shared} {Q : Value → Shared → Prop} {a : Addr} {vs : List Value} {value slice : Expr} {u : Tok} {k : Nat} {kr : List Nat} (hl : s.heap.IsList a vs.toArray) (hv : IntsAre vs ((k :: kr).map Int.ofNat)) (h : ∀ t', Q (.int (k : Nat) t') s)
    (hs : subscripted slice false (.ref a) (.int 0 u) = operate [.ref a, .int 0 u] (getItem (.ref a) (.int 0 u)) := by with_unfolding_all rfl) (hg : ∀ r, letTemporaryGo value (.ref a) r = pure () := by intro _; with_unfolding_all rfl) :
    wpAny (model prog w) A (subscriptTail value slice (.ref a) (.int 0 u)) Q E s := by
  cases hv with
  | cons n t r => exact subscriptTail_builtin hl.typeIs slot_list_getitem.lookup (wpAny_getItem_list hl (by decide) (by decide) rfl (h t)) hs hg
local macro_rules | `(tactic| walk_at "subscriptTail Name Constant ref int") => `(tactic| (k_here; k_dflt ((refine item_nat0 (by is_list) (by assumption) ?_); intro t')))
local macro_rules | `(tactic| walk_at "subscriptTail Name Slice ref ref") => `(tactic| (k_here; k_dflt ((refine slice_list (hsz := by assumption) (by k_asm) (by k_asm) (News.isList (by k_asm) (by k_mem)) (by first | exact .none | exact .int _ _) (by first | exact .none | exact .int _ _) ?_); intro h' F' N'; (try dsimp only))))
theorem drop_2nd {a b : Addr × Obj} {l : List (Addr × Obj)} : ∀ p ∈ a :: l, p ∈ a :: b :: l := fun p hp => by
  rcases List.mem_cons.mp hp with rfl | hp
  · exact .head _
  · exact .tail _ (.tail _ hp)
theorem drop_234 {a b c d : Addr × Obj} {l : List (Addr × Obj)} : ∀ p ∈ a :: l, p ∈ a :: b :: c :: d :: l := fun p hp => by
  rcases List.mem_cons.mp hp with rfl | hp
  · exact .head _
  · exact .tail _ (.tail _ (.tail _ (.tail _ hp)))
theorem rows_strs {zs bvs : List Value} {bd : List Str} {k0 : Nat} {kr : List Nat} (hv : StrsAre zs (headsS bd (k0 :: kr))) (hb : StrsAre bvs bd) :
    StrsAre ((slicePick zs.toArray none (some 1) none).toList ++ (slicePick bvs.toArray (some ((k0 : Nat) + 1 : Int)) none none).toList) (rowsS bd (k0 :: kr)) := by
  have h1 := strs_upto hv (y := 1) (by decide)
  have h2 := strs_from hb (x := (k0 : Int) + 1) (by omega)
  have e : ((k0 : Int) + 1).toNat = k0 + 1 := by omega
  rw [e] at h2
  exact strsAre_append h1 h2
theorem rows_fit {zs bvs : List Value} {bd : List Str} {k0 : Nat} {kr : List Nat} (h : StrsAre (zs ++ bvs) (rowsS bd (k0 :: kr))) (hn : bd.length ≤ 30) : zs.length + bvs.length ≤ sizeLine := by
  have := h.length
  rw [List.length_append] at this
  rw [this]
  have e : (rowsS bd (k0 :: kr)).length ≤ 40 := by
    show ((headsS bd (k0 :: kr)).take 1 ++ bd.drop (k0 + 1)).length ≤ 40
    rw [List.length_append, List.length_take, List.length_drop]
    omega
  rw [sizeLine_eq]
  omega
set_option maxHeartbeats 1000000 in
theorem agree6 {prog : Program} {w : World} {p : Program} {loose : List Str} {mean : ExcName → Option Value} {mg mb : Str → Option Value}
    {dp un : Nat} {gd : Option (List Code)} {cn : Str} {cs : Scope} {a : Addr} {ccd : Value} {cl : List (Str × Addr)} {outer : List Env} {base g : Heap} {L : Addr} {W : Addr} {ow : Obj} {s : Shared} {Q : Flow → Shared → Prop} {E : Value → Shared → Prop} (x b : Str) (t t2 tb : Tok)
    (hdp : dp + 60 < recursionLimit) (hun : un + 600 < cLine) (XG : (hd.heap_39 w.params).In base) (TG : Top p loose mean mg mb base) 
    (L' : Addr) (h : Heap) (tk : Nat) (H Bd S P T : Addr) (zs bvs ys vs tvs : List Value) (hn bn yn pn tn : Nat) (ts : List Str) (ks : List Nat) (bd : List Str) (o6 o5 o4 o3 o2 o1 : Obj) (tl : List (Addr × Obj))
    (F : Fr g L' h (fun y => if y = "back" then some (Value.str (rep1 (rep1 (backS b (headsS bd ks)) b "==") "==" "=") tb) else if y = "steps" then some (Value.ref T) else if y = "text" then some (Value.str x t) else none)) (N : News g L' h ([(T, listOf tvs.toArray tn), (H, listOf zs.toArray hn), (Bd, listOf bvs.toArray bn), (S, listOf ys.toArray yn), (P, listOf vs.toArray pn), (L' + 1 + 1 + 1 + 1 + 1 + 1, o6), (L' + 1 + 1 + 1 + 1 + 1, o5), (L' + 1 + 1 + 1 + 1, o4), (L' + 1 + 1 + 1, o3), (L' + 1 + 1, o2), (L' + 1, o1), (W, ow)] ++ tl))
    (B : Below (ktrTop dp un gd cn cs L a ccd cl outer) base (envX cn cs L a ccd cl :: outer) g)
    (d4 : o4.data = .cell (some (.ref S))) (d5 : o5.data = .cell (some (.ref Bd))) (d6 : o6.data = .cell (some (.ref H)))
    (hbv : StrsAre bvs bd) (hys : IntsAre ys (ks.map Int.ofNat)) (hbn : bd.length ≤ 30) (hv : StrsAre zs (headsS bd ks)) (hkn : ks.length ≤ 30) (hbt : ∀ a ∈ bd, a.length ≤ 100)
    (K : ∀ h tk Rw rvs rn, Fr g L' h (fun y => if y = "rows" then some (Value.ref Rw) else if y = "back" then some (Value.str (rep1 (rep1 (backS b (headsS bd ks)) b "==") "==" "=") tb) else if y = "steps" then some (Value.ref T) else if y = "text" then some (Value.str x t) else none) → News g L' h ((Rw, listOf rvs.toArray rn) :: ([(T, listOf tvs.toArray tn), (H, listOf zs.toArray hn), (Bd, listOf bvs.toArray bn), (S, listOf ys.toArray yn), (P, listOf vs.toArray pn), (L' + 1 + 1 + 1 + 1 + 1 + 1, o6), (L' + 1 + 1 + 1 + 1 + 1, o5), (L' + 1 + 1 + 1 + 1, o4), (L' + 1 + 1 + 1, o3), (L' + 1 + 1, o2), (L' + 1, o1), (W, ow)] ++ tl)) → StrsAre rvs (rowsS bd ks) →
      wpC (model prog w) ((ktrTop dp un gd cn cs L a ccd cl outer).deeper (agreeEnv L')) (execs (agreeBody.drop 10) (agreeEnv L')) Q E { s with heap := h, toks := tk }) :
    wpC (model prog w) ((ktrTop dp un gd cn cs L a ccd cl outer).deeper (agreeEnv L')) (execs (agreeBody.drop 9) (agreeEnv L')) Q E { s with heap := h, toks := tk } := by
  w_top off
  have X := XG.keeps B.stays
  have T' := TG.keeps B.stays
  unfold agreeEnv
  conv in (execs _ _) => arg 1; whnf
  repeat (conv in agreeScope => whnf)
  dsimp only [List.cons_append, List.nil_append] at N
  have hzn : zs.toArray.size ≤ sizeLine := strs_size hv (by rw [show (headsS bd ks).length = ks.length from List.length_map _]; exact hkn)
  have hbz : bvs.toArray.size ≤ sizeLine := strs_size hbv hbn
  refine wpC_execsA ?_
  k_steps
  unfold Stop
  rename_i A1 h1 F1 N1 l1
  cases ks with
  | nil =>
    refine ke_ne_ints (ys := []) (ms := []) (News.isList N1 (.tail _ (.tail _ (.tail _ (.tail _ (.head _)))))) (News.isList N1 (.head _)) hys .nil (by ktr_units) ?_
    simp only [List.map_nil, decide_true, Bool.not_true]
    k_steps
    exact K _ _ _ [Value.str "" tk] 0 (by assumption) (News.perm (by assumption) (drop_2nd)) (.cons _ _ .nil)
  | cons k0 kr =>
    refine ke_ne_ints (ys := []) (ms := []) (News.isList N1 (.tail _ (.tail _ (.tail _ (.tail _ (.head _)))))) (News.isList N1 (.head _)) hys .nil (by ktr_units) ?_
    simp only [List.map_cons, reduceCtorEq, decide_false, Bool.not_false]
    k_steps
    unfold Stop
    have hrow := rows_strs (k0 := k0) (kr := kr) hv hbv
    refine kmk_add_lit (its := slicePick zs.toArray none (some 1) none) (its2 := slicePick bvs.toArray (some ((k0 : Nat) + 1 : Int)) none none) (by k_asm) (by k_asm) (by is_list) (by is_list) rfl (fun D5 h5 F5 N5 l5 => ?_) (rows_fit hrow hbn)
    k_steps
    exact K _ _ _ _ 0 (by assumption) (News.perm (by assumption) (drop_234)) hrow
end Mine
end


section
open PySem PySem.W PyProof.Rows PySem.Calls
set_option Elab.async false
set_option maxRecDepth 100000
namespace Mine
local macro_rules | `(tactic| walk_at "no such key") => `(tactic| skip)
local macro_rules | `(tactic| walk_at "compareOp Eq ref ref") => `(tactic| (k_here; with_reducible refine Stop.intro ?_))
local macro_rules | `(tactic| walk_at "call ref") => `(tactic| (k_here; (with_reducible show wpAny _ _ (PySem.call (Value.ref 35) [Value.str _ _, Value.str _ _, Value.str _ _]) _ _ _); k_dflt ((refine Gives.use (c_replace3 _ _ _ _ _ _ (by assumption) (by decide) (by decide)) (by k_asm) (by k_asm) (by k_asm) (by k_asm) (by k_asm) (by rfl) trivial (by ktr_room) (by ktr_units) ?_); intro r' nw' h' tk' F' N' hne' ho'; obtain ⟨e1', t', e2'⟩ := ho'; subst e1'; subst e2'; (try simp only [List.nil_append] at N'))))
local macro_rules | `(tactic| walk_at "call ref") => `(tactic| (k_here; (with_reducible show wpAny _ _ (PySem.call (Value.ref 28) [Value.str _ _]) _ _ _); k_dflt ((refine Gives.use (c_splitdoc _ _ (by assumption)) (by k_asm) (by k_asm) (by k_asm) (by k_asm) (by k_asm) (by rfl) trivial (by ktr_room) (by ktr_units) ?_); intro r' nw' h' tk' F' N' hne' ho'; obtain ⟨H', t1', t2', e1', e2'⟩ := ho'; subst e1'; subst e2'; (try dsimp only [List.cons_append, List.nil_append] at N'))))
theorem own_one {o1 : Addr × Obj} {news : List (Addr × Obj)} (h1 : o1 ∈ news) : ∀ q ∈ [o1], q ∈ news := fun q hq => by rw [List.mem_singleton.mp hq]; exact h1
local macro_rules | `(tactic| walk_at "call ref") => `(tactic| (k_here; (with_reducible show wpAny _ _ (PySem.call (Value.ref 221) [Value.ref _]) _ _ _); k_dflt ((refine GivesR.use (GivesO.gives (c_lone _ _ _ _ (by assumption) (by assumption) (by assumption) (by assumption) _ _ (by assumption) (by assumption))) (by k_asm) (by k_asm) (by k_asm) (by k_asm) (by k_asm) (by rfl) (own_one (by k_mem)) (by ktr_room) (by ktr_units) ?_); intro r' nw' h' tk' F' N' hne' ho'; obtain ⟨H', t1', t2', e1', e2'⟩ := ho'; subst e1'; subst e2'; (try dsimp only [List.cons_append, List.nil_append] at N'))))
theorem tup_eq {prog : Program} {w : World} {A : Around} {E : Value → Shared → Prop} {s : Shared} {Q : Value → Shared → Prop} {h₀ : Heap} {L a b : Addr} {news : List (Addr × Obj)} {p q : Str × Str} {t1 t2 u1 u2 : Tok} (N : News h₀ L s.heap news) (ma : (a, tupOf p t1 t2) ∈ news) (mb : (b, tupOf q u1 u2) ∈ news) (e : p = q) (ok1 : PyData.strOk p.1 = true) (ok2 : PyData.strOk p.2 = true) (hu : A.units + 64 < cLine) (h : Q (.bool true) s) :
    wpAny (model prog w) A (compareOp .Eq (.ref a) (.ref b)) Q E s := by
  subst e
  have hok : kqdOk 1 (pairDat p) = true := by
    show List.all [Dat.str p.1, Dat.str p.2] (kqdOk 0) = true
    simp only [List.all_cons, List.all_nil, Bool.and_true]
    show (PyData.strOk p.1 && PyData.strOk p.2) = true
    rw [ok1, ok2]; rfl
  obtain ⟨as, ra⟩ := kqd_in N 1 (dat_tup ma) hok
  obtain ⟨bs, rb⟩ := kqd_in N 1 (dat_tup mb) hok
  have l := kqd_lay 1 (pairDat p) hok
  have hsh : SeqAt.shaped (kqdP (pairDat p)) = true := by
    unfold SeqAt.shaped
    rw [l.1, Bool.true_and]
    exact decide_eq_true (Nat.le_trans l.2 (by decide))
  have he : PyData.eqv (kqdP (pairDat p)) (kqdP (pairDat p)) = true := (kqd_eqv 1 _ _ 1 hok hok).mpr rfl
  exact eq_dataH ra rb hsh hsh hu (by rw [he]; exact h)
theorem in_led2 {a1 a2 a3 a4 a5 a6 a7 a8 a9 b1 b2 b3 z : Addr × Obj} {tl : List (Addr × Obj)} : z ∈ a1 :: a2 :: a3 :: a4 :: a5 :: a6 :: a7 :: a8 :: a9 :: b1 :: b2 :: b3 :: z :: tl := by
  iterate 12 apply List.Mem.tail
  exact .head _
set_option maxHeartbeats 1000000 in
theorem agree7 {prog : Program} {w : World} {p : Program} {loose : List Str} {mean : ExcName → Option Value} {mg mb : Str → Option Value}
    {dp un : Nat} {gd : Option (List Code)} {cn : Str} {cs : Scope} {a : Addr} {ccd : Value} {cl : List (Str × Addr)} {outer : List Env} {base g : Heap} {L : Addr} {W : Addr} {ow : Obj} {s : Shared} {Q : Flow → Shared → Prop} {E : Value → Shared → Prop} (x b : Str) (t t2 tb : Tok)
    (hdp : dp + 60 < recursionLimit) (hun : un + 600 < cLine) (XG : (hd.heap_39 w.params).In base) (TG : Top p loose mean mg mb base) 
    (L' : Addr) (h : Heap) (tk : Nat) (H Bd S P T Rw : Addr) (zs bvs ys vs tvs rvs : List Value) (hn bn yn pn tn rn : Nat) (ts : List Str) (ks : List Nat) (bd : List Str) (o6 o5 o4 o3 o2 o1 : Obj) (tl : List (Addr × Obj))
    (F : Fr g L' h (fun y => if y = "rows" then some (Value.ref Rw) else if y = "back" then some (Value.str (rep1 (rep1 (backS b (headsS bd ks)) b "==") "==" "=") tb) else if y = "steps" then some (Value.ref T) else if y = "text" then some (Value.str x t) else none)) (N : News g L' h ((Rw, listOf rvs.toArray rn) :: [(T, listOf tvs.toArray tn), (H, listOf zs.toArray hn), (Bd, listOf bvs.toArray bn), (S, listOf ys.toArray yn), (P, listOf vs.toArray pn), (L' + 1 + 1 + 1 + 1 + 1 + 1, o6), (L' + 1 + 1 + 1 + 1 + 1, o5), (L' + 1 + 1 + 1 + 1, o4), (L' + 1 + 1 + 1, o3), (L' + 1 + 1, o2), (L' + 1, o1), (W, ow)] ++ tl))
    (B : Below (ktrTop dp un gd cn cs L a ccd cl outer) base (envX cn cs L a ccd cl :: outer) g)
    (hv : StrsAre rvs (rowsS bd ks)) (hrn : (rowsS bd ks).length ≤ 30) (hrt : ∀ a ∈ rowsS bd ks, a.length ≤ 100) (hr1 : 1 ≤ (rowsS bd ks).length) (hx : x.length ≤ 1000) (hO : PlainOK x b ts ks bd)
    (K : ∀ h tk m' nw, Fr g L' h m' → News g L' h (nw ++ [(W, ow)]) → Q (.ret (.bool true)) { s with heap := h, toks := tk }) :
    wpC (model prog w) ((ktrTop dp un gd cn cs L a ccd cl outer).deeper (agreeEnv L')) (execs (agreeBody.drop 10) (agreeEnv L')) Q E { s with heap := h, toks := tk } := by
  w_top off
  have X := XG.keeps B.stays
  have T' := TG.keeps B.stays
  unfold agreeEnv
  conv in (execs _ _) => arg 1; whnf
  repeat (conv in agreeScope => whnf)
  dsimp only [List.cons_append, List.nil_append] at N
  have hl1 := hO.l1
  have hl2 := hO.l2
  obtain ⟨a1, c1, hsp, hlo⟩ := hO.lone
  refine .of (wpAny_execs_cons ?_)
  k_steps
  unfold Stop
  refine tup_eq (by k_asm) (.tail _ (.head _)) (.head _) hlo hO.okl.1 hO.okl.2 (by ktr_units) ?_
  k_steps
  exact K _ _ _ [] (by assumption) (News.perm (by assumption) (fun p hp => by rw [List.mem_singleton.mp hp]; exact .tail _ (.tail _ (in_led2))))
end Mine
end


section
open PySem PySem.W PyProof.Rows PySem.Calls
set_option Elab.async false
set_option maxRecDepth 100000
namespace Mine
theorem rows_few {bd : List Str} {ks : List Nat} {n b : Nat} (h1 : bd.length ≤ n) (h2 : ∀ a ∈ bd, a.length ≤ b) : (rowsS bd ks).length ≤ n + 1 ∧ (∀ a ∈ rowsS bd ks, a.length ≤ b) ∧ (ks ≠ [] → 1 ≤ (rowsS bd ks).length) ∧ (ks = [] → 1 ≤ (rowsS bd ks).length) := by
  cases ks with
  | nil =>
    refine ⟨Nat.le_add_left _ _, fun a ha => ?_, fun h => absurd rfl h, fun _ => Nat.le_refl _⟩
    rw [List.mem_singleton.mp ha]
    exact Nat.zero_le _
  | cons k r =>
    have e : (rowsS bd (k :: r)) = (headsS bd (k :: r)).take 1 ++ bd.drop (k + 1) := rfl
    have e2 : (headsS bd (k :: r)).length = r.length + 1 := List.length_map _
    refine ⟨?_, fun a ha => ?_, fun _ => ?_, fun h => nomatch h⟩
    · rw [e, List.length_append, List.length_take, List.length_drop, e2]; omega
    · rw [e] at ha
      rcases List.mem_append.mp ha with ha | ha
      · exact heads_few h2 a (List.mem_of_mem_take ha)
      · exact h2 a (List.mem_of_mem_drop ha)
    · rw [e, List.length_append, List.length_take, e2]; omega
theorem c_agreeAll {prog : Program} {w : World} {p : Program} {loose : List Str} {mean : ExcName → Option Value} {mg mb : Str → Option Value}
    {dp un : Nat} {gd : Option (List Code)} {cn : Str} {cs : Scope} {a : Addr} {ccd : Value} {cl : List (Str × Addr)} {outer : List Env} {A₀ : Around} {base h₀ : Heap} {L : Addr} {m : Str → Option Value} {W : Addr} {ow : Obj} {s : Shared} {R : Result → Shared → Prop} (x b : Str) (t t1 t2 : Tok) (hx : x.length ≤ 20)
    (hP : ∀ ts, ts.map tl = cut (tl x) → PlainOK x b ts (solidS ts) (bodyS ts (solidS ts)))
    (B : Below A₀ base outer h₀) (F : Fr h₀ L s.heap m) (XG : (hd.heap_39 w.params).In base) (N : News h₀ L s.heap [(W, ow)]) (TG : Top p loose mean mg mb base) (hTE : mg "TypeError" = none) (hbL : base.objs.size ≤ L) (hk : cs.kind = .function) (hdp : dp + 60 < recursionLimit) (hun : un + 600 < cLine)
    (hR : ∀ h' tk' h₁, Fr h₁ L h' m → News h₁ L h' [(W, ow)] → Below A₀ base outer h₁ → h₀.UpToSlots h₁ → R (.ok (.ret (.bool true))) { s with heap := h', toks := tk' }) :
    codeC (model prog w) (ktrTop dp un gd cn cs L a ccd cl outer) (.call (.ref 226) ⟨[.str x t, .str b t1, .str white t2], []⟩) R s := by
  refine c_agree x b t t1 t2 hx B F XG N TG hTE hbL hk hdp hun (fun g L' h tk H Bd S P zs bvs ys vs hn bn yn pn ts ks bd o6 o5 o4 o3 o2 o1 FG F1 N1 B1 d1 d2 d3 d4 d5 d6 hv hp hbv hys hzs hbd hks => ?_)
  have hO := hP ts hp
  rw [hks, hbd] at hO
  obtain ⟨htn, htl⟩ := texts_few hp hx
  have hbf := body_few htn htl
  rw [hks, hbd] at hbf
  have hbn : bd.length ≤ 30 := Nat.le_trans hbf.1 (by decide)
  have hbt : ∀ a ∈ bd, a.length ≤ 100 := fun a ha => Nat.le_trans (hbf.2 a ha) (by decide)
  have hkn : ks.length ≤ 30 := by rw [← hks]; exact Nat.le_trans (solid_len ts) (Nat.le_trans htn (by decide))
  have hrf := rows_few (ks := ks) hbf.1 hbt
  have hr1 : 1 ≤ (rowsS bd ks).length := by
    by_cases e : ks = []
    · exact hrf.2.2.2 e
    · exact hrf.2.2.1 e
  have hbL' : base.objs.size ≤ L' := Nat.le_trans hbL (Nat.le_of_lt (Nat.lt_of_lt_of_le FG.ns.lt F1.above))
  refine agree2 x b t t1 t2 hx hk hdp hun XG TG L' h tk H Bd S P zs bvs ys vs hn bn yn pn ts ks bd o6 o5 o4 o3 o2 o1 F1 N1 B1 d1 d2 d3 d4 d5 d6 hv hp hbv hys hzs hbd hks hO (fun h2 tk2 T tvs tn tl F2 N2 htd => ?_)
  refine agree3 x b t t1 t2 hx hdp hun XG TG hTE L' hbL' h2 tk2 H Bd S P T zs bvs ys vs tvs hn bn yn pn tn ts ks bd o6 o5 o4 o3 o2 o1 tl F2 N2 B1 d2 d3 hv hp hO (fun g3 h3 tk3 F3 N3 B3 up3 => ?_)
  refine agree4 x b t t1 hdp hun XG TG L' h3 tk3 H Bd S P T zs bvs ys vs tvs hn bn yn pn tn ts ks bd o6 o5 o4 o3 o2 o1 tl F3 N3 B3 d1 htd hkn hbt hO (fun h4 tk4 tb F4 N4 => ?_)
  refine agree5 x b t t2 tb hdp hun XG TG hTE L' hbL' h4 tk4 H Bd S P T zs bvs ys vs tvs hn bn yn pn tn ts ks bd o6 o5 o4 o3 o2 o1 tl F4 N4 B3 d2 d6 hzs hkn hbt hO (fun g5 h5 tk5 F5 N5 B5 up5 => ?_)
  refine agree6 x b t t2 tb hdp hun XG TG L' h5 tk5 H Bd S P T zs bvs ys vs tvs hn bn yn pn tn ts ks bd o6 o5 o4 o3 o2 o1 tl F5 N5 B5 d4 d5 d6 hbv hys hbn hzs hkn hbt (fun h6 tk6 Rw rvs rn F6 N6 hrv => ?_)
  refine agree7 x b t t2 tb hdp hun XG TG L' h6 tk6 H Bd S P T Rw zs bvs ys vs tvs rvs hn bn yn pn tn rn ts ks bd o6 o5 o4 o3 o2 o1 tl F6 N6 B5 hrv (Nat.le_trans hrf.1 (by decide)) hrf.2.1 hr1 (Nat.le_trans hx (by decide)) hO (fun h7 tk7 m7 nw F7 N7 => ?_)
  obtain ⟨h₂, F8, N8, B8, up8⟩ := names_leave (led := [(W, ow)]) B FG (up3.trans up5) B5.stays F7 (N7.perm fun p hp => List.mem_append_right _ hp)
  exact hR h7 tk7 h₂ F8 N8 B8 up8
end Mine
end


section
open PySem PySem.W PyProof.Rows PySem.Calls
set_option Elab.async false
set_option maxRecDepth 100000
namespace Mine
theorem law_end {cl : Str → Option Addr} {mean : ExcName → Option Value} {ns : List Int} {s₁ s' : Shared} (hk : ∀ b o, s₁.heap.get? b = some o → s'.heap.get? b = some o) (hg : s'.gens = #[]) (hos : s'.os = s₁.os) :
    GoodWG Challenge.rw_il0157_01.row.claim cl mean [ofPy (.list (ns.map .int))] s₁ (.ok (.ret (.bool true))) s' :=
  GoodW.toG ⟨.inl ⟨.bool true, .bool true, [], rfl, fun _ => rfl, .bool true, postW_of (r := Challenge.rw_il0157_01.row.toRowW) (by rfl) (X := true) (by first | rfl | kernel_rfl) rfl, unshared_nil⟩, hk, hos, hg⟩
theorem callC_cells {prog : Program} {w : World} {A : Around} {R : Result → Shared → Prop} {s : Shared} {name : Str} {params : Arguments} {body : List Stmt} {scope : Scope}
    {pm cd doc : Value} {a : Addr} {o : Obj} {args : List Value} {binds : List (Str × Value)}
    (hroom : A.depth < recursionLimit) (ho : s.heap.get? a = some o) (hdata : o.data = .func (Calls.docDef name params body scope pm cd doc)) (hlim : s.heap.NoLimit) (hcd : s.heap.CodeRec cd name)
    (hbind : BindsTo s (Calls.docDef name params body scope pm cd doc) ⟨args, []⟩ binds)
    (hkind : (binds.all fun y => scope.names.lookup y.1 == some .local || scope.names.lookup y.1 == some .cell) = true)
    (hnd : ((cellsFrom 0 scope.names []).map (·.1)).Nodup)
    (h : ∀ h₁ tk cells, Fr s.heap s.heap.objs.size h₁ (bindL (envOfC name scope s.heap.objs.size a cd).kindOf binds fun _ => none) → News s.heap s.heap.objs.size h₁ cells →
      CellsAre (bindC (envOfC name scope s.heap.objs.size a cd).kindOf binds fun _ => none) (cellsFrom (s.heap.objs.size + 1) scope.names []) cells →
      wpC (model prog w) (A.deeper (envOfC name scope s.heap.objs.size a cd)) (execs body (envOfC name scope s.heap.objs.size a cd))
        (fun f s' => R (.ok (.ret (match f with | .ret v => v | _ => .none))) s')
        (fun e s' => wpAny (model prog w) (A.deeper (envOfC name scope s.heap.objs.size a cd)) (leaving (envOfC name scope s.heap.objs.size a cd) e)
          (fun _ s'' => R (.error e) s'') (fun e' s'' => R (.error e') s'') s')
        { s with heap := h₁, toks := tk })
    (hco : scope.isCoroutine = false := by rfl) (hgen : scope.isGenerator = false := by rfl) (hk : scope.kind = .function := by rfl) :
    codeC (model prog w) A (.call (.ref a) ⟨args, []⟩) R s := by
  refine codeC_call_function (fd := Calls.docDef name params body scope pm cd doc) (body := body) hroom ho hdata hco hgen rfl hcd ?_
  refine hbind _ _ _ _ ?_
  refine wpAny_newFunctionEnv_cells hk (kindsX hkind _) fun env' he s' x => ?_
  subst he
  refine ⟨hlim.keeps x.toInCall.keep, codeC_func ?_⟩
  obtain ⟨h₁, tk, rfl, _⟩ := x.done
  obtain ⟨cells, NC, Y⟩ := Cl.news (h₀ := s.heap) (Nat.le_refl _) fun n c hm => ⟨x.cell n c (lookup_of_mem_nodup (cellsFrom_names scope.names 0 (s.heap.objs.size + 1) [] [] rfl ▸ hnd) hm), x.above n c hm⟩
  exact h h₁ tk cells ⟨x.toInCall.ns, x.toInCall.keep, Nat.le_refl _⟩ NC Y
theorem rest_texts {prog : Program} {w : World} {A : Around} {h₀ : Heap} {L : Addr} {m : Str → Option Value} {env : Env} {elt : Expr} {x : Str} {scope : Scope} {cl : List (Str × Addr)} {s : Shared} {S : List (Addr × Obj) → Prop} {P : Nat → Value → Prop} {Fin : List Value → List (Addr × Obj) → Prop} {news : List (Addr × Obj)} {n : Nat} (T : Str → Prop) (hS : S news)
    (turn : ∀ i v I oI C oC D m₂ ys h tk (E' : Value → Shared → Prop), i < n → P i v → LCg.NsObj oC m₂ → m₂ x = some v → Fr h₀ L h m → News h₀ L h ((I, oI) :: (C, oC) :: (D, LCg.lst ys) :: news) → LCg.Off3 I C D news → ((@Ne Nat I C) ∧ (@Ne Nat I D) ∧ (@Ne Nat C D)) →
      wpAny (model prog w) A (eval elt (compEnvC scope cl C env)) (TurnEnd h₀ L m { s with heap := h, toks := tk } ((I, oI) :: (C, oC) :: (D, LCg.lst ys) :: news) (fun y => ∃ (z : Str) (t : Tok), y = .str z t ∧ T z)) E' { s with heap := h, toks := tk })
    (fin : ∀ ys ts, StrsAre ys ts → ts.length = n → (∀ t ∈ ts, T t) → Fin ys news) : LCg.CompRest prog w A h₀ L m env elt x scope cl s S P Fin n 0 [] news := by
  refine rest_inv (fun i ys nw => nw = news ∧ ∃ ts, StrsAre ys ts ∧ ts.length = i ∧ ∀ t ∈ ts, T t) ?_ ?_ ⟨rfl, [], .nil, rfl, fun _ h => nomatch h⟩
  · intro i v I oI C oC D m₂ ys nw h tk E' hi hv hJ hC hx F N off ne
    obtain ⟨rfl, ts, hy, hl, hT⟩ := hJ
    refine wpAny_mono (turn i v I oI C oC D m₂ ys h tk E' hi hv hC hx F N off ne) (fun y s₂ hq => ?_) fun _ _ e => e
    obtain ⟨h', tk', rfl, F', N', z, t, rfl, hz⟩ := hq
    refine ⟨h', tk', _, rfl, F', N', off, hS, rfl, ts ++ [z], strsAre_append hy (.cons _ _ .nil), by rw [List.length_append, hl]; rfl, fun a ha => ?_⟩
    rcases List.mem_append.mp ha with ha | ha
    · exact hT a ha
    · rw [List.mem_singleton.mp ha]; exact hz
  · intro ys nw hJ
    obtain ⟨rfl, ts, hy, hl, hT⟩ := hJ
    exact fin ys ts hy hl hT
theorem tl_join0 : ∀ ts : List Str, tl (Txt.join (Str.ofString "") ts) = (ts.map tl).flatten := by
  intro ts
  rw [show Txt.join (Str.ofString "") ts = Str.join (Str.ofString "") ts from StrLaws.glued_eq_join _ _]
  induction ts with
  | nil => rfl
  | cons x r ih =>
    cases r with
    | nil => simp only [List.map_cons, List.map_nil, List.flatten_cons, List.flatten_nil, List.append_nil]; rfl
    | cons y r =>
      show tl (x ++ Str.ofString "" ++ Str.join (Str.ofString "") (y :: r)) = _
      rw [tl_append, tl_append, ih]
      have : tl (Str.ofString "") = [] := by decide +kernel
      rw [this, List.append_nil]
      rfl
/-- the border that the law draws -/
def EdgeOK (b : Str) : Prop := ∃ ws, tl b = 10 :: ws ++ [10] ∧ ws.length ≤ 2 ∧ ∀ c ∈ ws, c ∈ whiteL
theorem item_in {j : Int} (h0 : 0 ≤ j) (h1 : j < 28) : ∃ c, Txt.item white j = ⟨#[c]⟩ ∧ c ∈ whiteL := by
  have hl : (white : Str).length = 28 := by decide +kernel
  refine ⟨_, item_at h0 (by rw [hl]; exact h1), ?_⟩
  rw [white_eq]
  have hi : j.toNat < whiteL.length := by show _ < 28; omega
  rw [List.getD_eq_getElem?_getD, List.getElem?_eq_getElem hi]
  exact List.getElem_mem hi
theorem edge_ok {ts : List Str} (h1 : ts.length ≤ 2) (h2 : ∀ t ∈ ts, ∃ c, t = ⟨#[c]⟩ ∧ c ∈ whiteL) : EdgeOK ((Str.ofString "\n" ++ Txt.join (Str.ofString "") ts) ++ Str.ofString "\n") := by
  have hn : tl (Str.ofString "\n") = [10] := by decide +kernel
  refine ⟨(ts.map tl).flatten, by rw [tl_append, tl_append, tl_join0, hn]; rfl, ?_, fun c hc => ?_⟩
  · refine Nat.le_trans ?_ h1
    clear h1
    induction ts with
    | nil => exact Nat.le_refl _
    | cons x r ih =>
      obtain ⟨c, rfl, _⟩ := h2 _ (.head _)
      have := ih fun t ht => h2 t (.tail _ ht)
      simp only [List.map_cons, List.flatten_cons, List.length_append, List.length_cons]
      show 1 + _ ≤ _
      omega
  · obtain ⟨l, hl, hc⟩ := List.mem_flatten.mp hc
    obtain ⟨t, ht, rfl⟩ := List.mem_map.mp hl
    obtain ⟨d, rfl, hd⟩ := h2 t ht
    rw [List.mem_singleton.mp hc]; exact hd
theorem signs_ok {ts : List Str} (h1 : ts.length ≤ 10) (h2 : ∀ t ∈ ts, ∃ c, t = ⟨#[c]⟩ ∧ SignOk c) : (Txt.join (Str.ofString "") ts).length ≤ 10 ∧ ∀ c ∈ tl (Txt.join (Str.ofString "") ts), SignOk c := by
  rw [← tl_length, tl_join0]
  constructor
  · refine Nat.le_trans ?_ h1
    clear h1
    induction ts with
    | nil => exact Nat.le_refl _
    | cons x r ih =>
      obtain ⟨c, rfl, _⟩ := h2 _ (.head _)
      have := ih fun t ht => h2 t (.tail _ ht)
      simp only [List.map_cons, List.flatten_cons, List.length_append, List.length_cons]
      show 1 + _ ≤ _
      omega
  · intro c hc
    obtain ⟨l, hl, hc⟩ := List.mem_flatten.mp hc
    obtain ⟨t, ht, rfl⟩ := List.mem_map.mp hl
    obtain ⟨d, rfl, hd⟩ := h2 t ht
    rw [List.mem_singleton.mp hc]; exact hd
end Mine
end


section
open PySem PySem.W PyProof.Rows PySem.Calls
set_option Elab.async false
namespace Mine
open StrLaws (At ChainG partsFrom)
def mkS (l : List Nat) : Str := ⟨l.toArray⟩
theorem tl_S (l : List Nat) : tl (mkS l) = l := tl_mk l
theorem S_tl (x : Str) : mkS (tl x) = x := tl_ext (tl_S _)
theorem S_len (l : List Nat) : (mkS l).length = l.length := by rw [← tl_length, tl_S]
theorem S_inj {a b : List Nat} (h : mkS a = mkS b) : a = b := by rw [← tl_S a, h, tl_S]
theorem map_S {ts : List Str} {ps : List (List Nat)} (h : ts.map tl = ps) : ts = ps.map mkS := by
  subst h
  rw [List.map_map]
  exact ((List.map_congr_left (g := id) fun x _ => S_tl x).trans (List.map_id _)).symm
def joinL (s : List Nat) : List (List Nat) → List Nat
  | [] => []
  | [x] => x
  | x :: y :: r => x ++ s ++ joinL s (y :: r)
theorem joinL_cons (s x y : List Nat) (r : List (List Nat)) : joinL s (x :: y :: r) = x ++ s ++ joinL s (y :: r) := rfl
theorem joinL_ne {s x : List Nat} {r : List (List Nat)} (h : r ≠ []) : joinL s (x :: r) = (x ++ s) ++ joinL s r := by
  cases r with
  | nil => exact absurd rfl h
  | cons y r => rfl
theorem join_S (y : Str) : ∀ ps : List (List Nat), Txt.join y (ps.map mkS) = mkS (joinL (tl y) ps) := by
  intro ps
  rw [show Txt.join y (ps.map mkS) = Str.join y (ps.map mkS) from StrLaws.glued_eq_join _ _]
  induction ps with
  | nil => rfl
  | cons p r ih =>
    cases r with
    | nil => rfl
    | cons q r =>
      show mkS p ++ y ++ Str.join y ((q :: r).map mkS) = _
      rw [ih]
      refine tl_ext ?_
      rw [tl_append, tl_append, tl_S, tl_S, tl_S]
      rfl
theorem joinL_snoc (s q : List Nat) : ∀ {ts : List (List Nat)}, ts ≠ [] → joinL s (ts ++ [q]) = joinL s ts ++ s ++ q
  | [], h => absurd rfl h
  | [x], _ => rfl
  | x :: y :: r, _ => by
    show x ++ s ++ joinL s ((y :: r) ++ [q]) = (x ++ s ++ joinL s (y :: r)) ++ s ++ q
    rw [joinL_snoc s q (by simp)]
    simp only [List.append_assoc]
theorem joinL_last (s q r : List Nat) : ∀ ts : List (List Nat), joinL s (ts ++ [q ++ r]) = joinL s (ts ++ [q]) ++ r
  | [] => rfl
  | [x] => by show x ++ s ++ (q ++ r) = (x ++ s ++ q) ++ r; simp only [List.append_assoc]
  | x :: y :: t => by
    show x ++ s ++ joinL s ((y :: t) ++ [q ++ r]) = (x ++ s ++ joinL s ((y :: t) ++ [q])) ++ r
    rw [joinL_last s q r (y :: t)]
    simp only [List.append_assoc]
theorem mem_joinL {s : List Nat} : ∀ {ts : List (List Nat)} {c : Nat}, c ∈ joinL s ts → c ∈ s ∨ ∃ p ∈ ts, c ∈ p
  | [], c, h => nomatch h
  | [x], c, h => .inr ⟨x, .head _, h⟩
  | x :: y :: r, c, h => by
    rw [joinL_cons] at h
    rcases List.mem_append.mp h with h | h
    · rcases List.mem_append.mp h with h | h
      · exact .inr ⟨x, .head _, h⟩
      · exact .inl h
    · rcases mem_joinL h with h | ⟨p, hp, h⟩
      · exact .inl h
      · exact .inr ⟨p, .tail _ hp, h⟩
theorem part_mem {s p : List Nat} : ∀ {ts : List (List Nat)}, p ∈ ts → ∀ c ∈ p, c ∈ joinL s ts
  | [x], h, c, hc => by rw [List.mem_singleton.mp h] at hc; exact hc
  | x :: y :: r, h, c, hc => by
    rw [joinL_cons]
    rcases List.mem_cons.mp h with rfl | h
    · exact List.mem_append_left _ (List.mem_append_left _ hc)
    · exact List.mem_append_right _ (part_mem h c hc)
theorem joinL_len {s : List Nat} {n b : Nat} : ∀ {ts : List (List Nat)}, ts.length ≤ n → (∀ p ∈ ts, p.length ≤ b) → (joinL s ts).length ≤ n * (b + s.length)
  | [], _, _ => Nat.zero_le _
  | [x], h, hb => by
    have h1 := hb x (.head _)
    have h2 : 1 ≤ n := h
    show x.length ≤ _
    calc x.length ≤ b := h1
      _ ≤ b + s.length := Nat.le_add_right _ _
      _ = 1 * (b + s.length) := (Nat.one_mul _).symm
      _ ≤ n * (b + s.length) := Nat.mul_le_mul_right _ h2
  | x :: y :: r, h, hb => by
    obtain ⟨m, rfl⟩ : ∃ m, n = m + 1 := ⟨n - 1, by simp only [List.length_cons] at h; omega⟩
    have h1 := hb x (.head _)
    have h2 := joinL_len (s := s) (n := m) (b := b) (ts := y :: r) (by simp only [List.length_cons] at h ⊢; omega) (fun p hp => hb p (.tail _ hp))
    rw [joinL_cons, List.length_append, List.length_append, Nat.succ_mul]
    omega
/-- the pieces between the signs 61 -/
theorem cut_facts (l : List Nat) : cut l ≠ [] ∧ (∀ p ∈ cut l, 61 ∉ p) ∧ joinL [61] (cut l) = l ∧ (cut l).length = l.count 61 + 1 := by
  have key : ∀ (l pre : List Nat) (ts : List (List Nat)), ts ≠ [] → (∀ p ∈ ts, 61 ∉ p) → joinL [61] ts = pre →
      l.foldl cutStep ts ≠ [] ∧ (∀ p ∈ l.foldl cutStep ts, 61 ∉ p) ∧ joinL [61] (l.foldl cutStep ts) = pre ++ l ∧ (l.foldl cutStep ts).length = ts.length + l.count 61 := by
    intro l
    induction l with
    | nil => intro pre ts h1 h2 h3; exact ⟨h1, h2, by rw [List.append_nil]; exact h3, rfl⟩
    | cons c r ih =>
      intro pre ts h1 h2 h3
      have hs : cutStep ts c ≠ [] ∧ (∀ p ∈ cutStep ts c, 61 ∉ p) ∧ joinL [61] (cutStep ts c) = pre ++ [c] ∧ (cutStep ts c).length = ts.length + [c].count 61 := by
        unfold cutStep
        split
        · rename_i hc
          subst hc
          refine ⟨by simp, fun p hp => ?_, by rw [joinL_snoc _ _ h1, h3, List.append_nil], by simp⟩
          rcases List.mem_append.mp hp with hp | hp
          · exact h2 p hp
          · rw [List.mem_singleton.mp hp]; simp
        · rename_i hc
          have e : ts = ts.dropLast ++ [ts.getLastD []] := by
            rw [List.getLastD_eq_getLast?, List.getLast?_eq_some_getLast h1]
            exact (List.dropLast_concat_getLast h1).symm
          generalize ts.dropLast = i at e ⊢
          generalize ts.getLastD [] = q at e ⊢
          subst e
          refine ⟨by simp, fun p hp => ?_, by rw [joinL_last, h3], ?_⟩
          · rcases List.mem_append.mp hp with hp | hp
            · exact h2 p (List.mem_append_left _ hp)
            · rw [List.mem_singleton.mp hp]
              intro hm
              rcases List.mem_append.mp hm with hm | hm
              · exact h2 q (by simp) hm
              · exact hc (List.mem_singleton.mp hm).symm
          · have : [c].count 61 = 0 := by
              rw [List.count_eq_zero]
              intro hm
              exact hc (List.mem_singleton.mp hm).symm
            rw [this]; simp
      obtain ⟨a1, a2, a3, a4⟩ := ih (pre ++ [c]) _ hs.1 hs.2.1 hs.2.2.1
      refine ⟨a1, a2, by rw [List.foldl_cons, a3]; simp, ?_⟩
      rw [List.foldl_cons, a4, hs.2.2.2, show c :: r = [c] ++ r from rfl, List.count_append]
      omega
  obtain ⟨a1, a2, a3, a4⟩ := key l [] [[]] (by simp) (by simp) rfl
  exact ⟨a1, a2, a3, by unfold cut; rw [a4]; simp; omega⟩
section
variable {x y : Str} {c : Nat} {s' : List Nat}
theorem at_head {k : Nat} (hy : tl y = c :: s') (h : At x y x.length k) : c ∈ (tl x).drop k := by
  have h2 := h.2
  rw [StrLaws.subAt_eq] at h2
  have e : ((tl x).drop k).take y.length = tl y := eq_of_beq h2
  refine List.mem_of_mem_take (i := y.length) ?_
  rw [e, hy]
  exact .head _
theorem at_first {k : Nat} (hy : tl y = c :: s') (h : At x y x.length k) : ((tl x).drop k).head? = some c := by
  have h2 := h.2
  rw [StrLaws.subAt_eq] at h2
  have e : ((tl x).drop k).take y.length = tl y := eq_of_beq h2
  cases hd : (tl x).drop k with
  | nil => rw [hd, hy] at e; simp at e
  | cons a r =>
    rw [hd, hy] at e
    cases hl : y.length with
    | zero => rw [hl] at e; simp at e
    | succ n => rw [hl] at e; simp at e; rw [List.head?_cons, e.1]
theorem at_of {k : Nat} {z : List Nat} (h : (tl x).drop k = tl y ++ z) (hk : k ≤ x.length) : At x y x.length k := by
  have hl := congrArg List.length h
  rw [List.length_drop, List.length_append, tl_length, tl_length] at hl
  refine ⟨by omega, ?_⟩
  rw [StrLaws.subAt_eq]
  have e : ((tl x).drop k).take y.length = tl y := by
    rw [h, List.take_append_of_le_length (by rw [tl_length]; exact Nat.le_refl _), List.take_of_length_le (by rw [tl_length]; exact Nat.le_refl _)]
  exact beq_iff_eq.mpr e
theorem sub_tl (i j : Nat) : tl (Builtin.Str.strSub x i j) = ((tl x).drop i).take (j - i) := StrLaws.strSub_toList x i j
theorem parts_chain (hy : tl y = c :: s') : ∀ (ps : List (List Nat)) (p : List Nat) (a : Nat) (cuts : List Nat) (f : Nat), (∀ q ∈ p :: ps, c ∉ q) → (tl x).drop a = joinL (tl y) (p :: ps) → a ≤ x.length → ChainG x y x.length a cuts f → (∀ k, f ≤ k → ¬ At x y x.length k) →
    (partsFrom x y.length a cuts).map tl = p :: ps
  | [], p, a, cuts, f, hc, hd, ha, hG, hn => by
    have hd' : (tl x).drop a = p := hd
    have none : ∀ k, a ≤ k → ¬ At x y x.length k := fun k hk hA => by
      have h1 := at_head hy hA
      have e : (tl x).drop k = ((tl x).drop a).drop (k - a) := by rw [List.drop_drop]; congr 1; omega
      rw [e, hd'] at h1
      exact hc p (.head _) (List.mem_of_mem_drop h1)
    cases cuts with
    | nil =>
      show [tl (Builtin.Str.strSub x a x.length)] = [p]
      rw [sub_tl, hd', List.take_of_length_le]
      have := congrArg List.length hd'
      rw [List.length_drop, tl_length] at this
      omega
    | cons d r => exact absurd hG.2.1 (none d hG.1)
  | q :: qs, p, a, cuts, f, hc, hd, ha, hG, hn => by
    have hd' : (tl x).drop a = p ++ (tl y ++ joinL (tl y) (q :: qs)) := by rw [hd, joinL_cons, List.append_assoc]
    have hl := congrArg List.length hd'
    rw [List.length_drop, List.length_append, List.length_append, tl_length, tl_length] at hl
    have hyl : 1 ≤ y.length := by rw [← tl_length, hy]; exact Nat.succ_le_succ (Nat.zero_le _)
    have hda : (tl x).drop (a + p.length) = tl y ++ joinL (tl y) (q :: qs) := by
      rw [← List.drop_drop, hd', List.drop_left]
    have hAt : At x y x.length (a + p.length) := at_of hda (by omega)
    have none : ∀ k, a ≤ k → k < a + p.length → ¬ At x y x.length k := fun k h1 h2 hA => by
      have h3 := at_first hy hA
      have e : (tl x).drop k = ((tl x).drop a).drop (k - a) := by rw [List.drop_drop]; congr 1; omega
      rw [e, hd', List.drop_append_of_le_length (by omega)] at h3
      cases hp : p.drop (k - a) with
      | nil => have := List.drop_eq_nil_iff.mp hp; omega
      | cons z r =>
        rw [hp] at h3
        have hz : z = c := Option.some.inj h3
        exact hc p (.head _) (List.mem_of_mem_drop (by rw [hp, ← hz]; exact .head _))
    cases cuts with
    | nil =>
      have e : f = a := hG
      subst e
      exact absurd hAt (hn _ (by omega))
    | cons d r =>
      obtain ⟨g1, g2, g3, g4⟩ := hG
      have hdp : d = a + p.length := by
        rcases Nat.lt_or_ge d (a + p.length) with h | h
        · exact absurd g2 (none d g1 h)
        · rcases Nat.lt_or_ge (a + p.length) d with h' | h'
          · exact absurd hAt (g3 _ (by omega) h')
          · omega
      subst hdp
      show tl (Builtin.Str.strSub x a (a + p.length)) :: (partsFrom x y.length (a + p.length + y.length) r).map tl = _
      rw [sub_tl, hd', show a + p.length - a = p.length by omega, List.take_left]
      rw [parts_chain hy qs q (a + p.length + y.length) r f (fun z hz => hc z (.tail _ hz)) (by rw [← List.drop_drop, hda, ← tl_length, List.drop_left]) (by omega) g4 hn]
theorem kind_le (h : ∀ z ∈ tl y, z ∈ tl x) : Builtin.Str.strKind y ≤ Builtin.Str.strKind x := by
  have hall : ∀ B : Nat, x.cps.all (· < B) = true → y.cps.all (· < B) = true := fun B hB => by
    rw [← Array.all_toList] at hB ⊢
    rw [List.all_eq_true] at hB ⊢
    exact fun z hz => hB z (h z hz)
  unfold Builtin.Str.strKind
  by_cases a1 : x.cps.all (· < 256) = true
  · rw [if_pos a1, if_pos (hall 256 a1)]; exact Nat.le_refl _
  · rw [if_neg a1]
    by_cases a2 : x.cps.all (· < 65536) = true
    · rw [if_pos a2]
      split
      · decide
      · rw [if_pos (hall _ a2)]; exact Nat.le_refl _
    · rw [if_neg a2]
      split
      · decide
      · split <;> decide
theorem split_join (hy : tl y = c :: s') {p : List Nat} {ps : List (List Nat)} (hc : ∀ q ∈ p :: ps, c ∉ q) (hx : tl x = joinL (tl y) (p :: ps)) : Txt.split x y = (p :: ps).map mkS := by
  have hyl : 1 ≤ y.length := by rw [← tl_length, hy]; exact Nat.succ_le_succ (Nat.zero_le _)
  obtain ⟨f, hG, hn⟩ := StrLaws.occ_tight x y hyl
  have hparts := parts_chain hy ps p 0 _ f hc (by rw [List.drop_zero]; exact hx) (Nat.zero_le _) hG hn
  refine map_S ?_
  unfold Txt.split
  split
  · rename_i hcond
    cases ps with
    | nil => rw [List.map_cons, List.map_nil, hx]; rfl
    | cons q qs =>
      rw [joinL_cons] at hx
      rw [Bool.or_eq_true, decide_eq_true_eq, decide_eq_true_eq] at hcond
      rcases hcond with h | h
      · have := congrArg List.length hx
        rw [List.length_append, List.length_append, tl_length, tl_length] at this
        omega
      · have := kind_le (x := x) (y := y) fun z hz => by rw [hx]; exact List.mem_append_left _ (List.mem_append_right _ hz)
        omega
  · split
    · rename_i he
      rw [List.isEmpty_iff.mp he] at hparts
      have e : partsFrom x y.length 0 [] = [x] := by
        show [Builtin.Str.strSub x 0 x.length] = [x]
        rw [StrLaws.sub_whole]
      rw [e] at hparts
      exact hparts
    · rw [StrLaws.partsBetween_eq]; exact hparts
end
end Mine
end


section
open PySem PySem.W PyProof.Rows PySem.Calls
set_option Elab.async false
namespace Mine
open StrLaws (At ChainG partsFrom)
theorem eq_tl : tl (Str.ofString "=") = [61] := by decide +kernel
theorem nl_tl : tl (Str.ofString "\n") = [10] := by decide +kernel
theorem eqeq_tl : tl (Str.ofString "==") = [61, 61] := by decide +kernel
theorem nil_tl : tl (Str.ofString "") = [] := by decide +kernel
theorem S_nil : mkS [] = Str.ofString "" := tl_ext (by rw [tl_S, nil_tl])
theorem S_nil' : Str.empty = Str.ofString "" := tl_ext (by rw [nil_tl]; rfl)
theorem sm_none {x : Str} (h : 61 ∉ tl x) : Txt.splitMax x (Str.ofString "=") 1 = [x] := by
  unfold Txt.splitMax
  split
  · rfl
  · split
    · rfl
    · rename_i h2
      exfalso
      rcases StrLaws.occ_head x (Str.ofString "=") (limitOf x 1) (by show 1 ≤ 1; decide) with ⟨h0, _⟩ | ⟨i, r, _, hA, _⟩
      · exact h2 (by rw [h0]; rfl)
      · exact h (List.mem_of_mem_drop (at_head eq_tl hA))
theorem sm_some {x : Str} {p z : List Nat} (hp : 61 ∉ p) (hx : tl x = p ++ 61 :: z) : Txt.splitMax x (Str.ofString "=") 1 = [mkS p, mkS z] := by
  have hl := congrArg List.length hx
  rw [List.length_append, List.length_cons, tl_length] at hl
  have hy1 : (Str.ofString "=").length = 1 := by decide +kernel
  have hAt : At x (Str.ofString "=") x.length p.length := at_of (z := z) (by rw [hx, List.drop_left, eq_tl]; rfl) (by omega)
  unfold Txt.splitMax
  split
  · rename_i hcond
    exfalso
    rw [Bool.or_eq_true, decide_eq_true_eq, decide_eq_true_eq, hy1] at hcond
    rcases hcond with h | h
    · omega
    · have := kind_le (x := x) (y := Str.ofString "=") fun c hc => by
        rw [eq_tl] at hc
        rw [List.mem_singleton.mp hc, hx]
        exact List.mem_append_right _ (.head _)
      omega
  · rcases StrLaws.occ_head x (Str.ofString "=") (limitOf x 1) (by show 1 ≤ 1; decide) with ⟨h0, hn⟩ | ⟨i, r, h0, hA, hn⟩
    · exact absurd hAt (hn _)
    · have hr : r = [] := by
        have := StrLaws.occ_length_le x (Str.ofString "=") 0 x.length (limitOf x 1)
        rw [h0, List.length_cons] at this
        have e : limitOf x 1 = 1 := rfl
        rw [e] at this
        exact List.length_eq_zero_iff.mp (by omega)
      subst hr
      have hi : i = p.length := by
        rcases Nat.lt_or_ge p.length i with h | h
        · exact absurd hAt (hn _ h)
        · rcases Nat.lt_or_ge i p.length with h' | h'
          · exfalso
            have h3 := at_first eq_tl hA
            rw [hx, List.drop_append_of_le_length (by omega)] at h3
            cases hq : p.drop i with
            | nil => have := List.drop_eq_nil_iff.mp hq; omega
            | cons c r =>
              rw [hq] at h3
              have hc : c = 61 := Option.some.inj h3
              exact hp (List.mem_of_mem_drop (by rw [hq, ← hc]; exact .head _))
          · omega
      subst hi
      rw [h0, hy1, StrLaws.partsBetween_eq]
      split
      · rename_i h; cases h
      · show [Builtin.Str.strSub x 0 p.length, Builtin.Str.strSub x (p.length + 1) x.length] = _
        have e1 : Builtin.Str.strSub x 0 p.length = mkS p := tl_ext (by rw [sub_tl, tl_S, hx, List.drop_zero, Nat.sub_zero, List.take_left])
        have e2 : Builtin.Str.strSub x (p.length + 1) x.length = mkS z := tl_ext (by
          rw [sub_tl, tl_S, hx, ← List.drop_drop, List.drop_left]
          show List.take _ z = z
          exact List.take_of_length_le (by omega))
        rw [e1, e2]
section
variable {p : Nat → Bool}
theorem dw_nil : ∀ {q : List Nat}, q.dropWhile p = [] ↔ q.all p = true
  | [] => ⟨fun _ => rfl, fun _ => rfl⟩
  | a :: r => by
    rw [List.dropWhile_cons, List.all_cons]
    by_cases ha : p a = true
    · rw [if_pos ha, ha, Bool.true_and]; exact dw_nil
    · rw [if_neg ha, Bool.eq_false_iff.mpr ha, Bool.false_and]
      exact ⟨fun h => (nomatch h), fun h => (nomatch h)⟩
theorem dw_all : ∀ {l : List Nat}, (l.dropWhile p).all p = true → l.all p = true
  | [], _ => rfl
  | a :: r, h => by
    rw [List.dropWhile_cons] at h
    by_cases ha : p a = true
    · rw [if_pos ha] at h
      rw [List.all_cons, ha, Bool.true_and]
      exact dw_all h
    · rw [if_neg ha] at h; exact h
theorem rtrim_nil_iff {l : List Nat} : rtrim p l = [] ↔ l.all p = true := by
  unfold rtrim
  rw [List.reverse_eq_nil_iff, dw_nil, List.all_reverse]
theorem rtrim_append (A X : List Nat) : rtrim p (A ++ X) = if rtrim p X = [] then rtrim p A else A ++ rtrim p X := by
  unfold rtrim
  rw [List.reverse_append, List.dropWhile_append]
  by_cases h : X.reverse.dropWhile p = []
  · rw [if_pos (by rw [h]; rfl), if_pos (by rw [h]; rfl)]
  · rw [if_neg (by rw [List.isEmpty_iff]; exact h), if_neg (by rw [List.reverse_eq_nil_iff]; exact h), List.reverse_append, List.reverse_reverse]
theorem rtrim_congr {A X X' : List Nat} (h : rtrim p X = rtrim p X') : rtrim p (A ++ X) = rtrim p (A ++ X') := by
  rw [rtrim_append, rtrim_append, h]
theorem dw_blank {q l : List Nat} (h : q.all p = true) : (q ++ l).dropWhile p = l.dropWhile p := by
  induction q with
  | nil => rfl
  | cons a r ih =>
    rw [List.all_cons, Bool.and_eq_true] at h
    rw [List.cons_append, List.dropWhile_cons, if_pos h.1]
    exact ih h.2
theorem dw_app {q l : List Nat} (h : q.all p = false) : (q ++ l).dropWhile p = q.dropWhile p ++ l := by
  induction q with
  | nil => cases h
  | cons a r ih =>
    rw [List.cons_append, List.dropWhile_cons, List.dropWhile_cons]
    by_cases ha : p a = true
    · rw [if_pos ha, if_pos ha]
      exact ih (by rw [List.all_cons, ha, Bool.true_and] at h; exact h)
    · rw [if_neg ha, if_neg ha]; rfl
theorem dw_idem : ∀ l : List Nat, (l.dropWhile p).dropWhile p = l.dropWhile p
  | [] => rfl
  | a :: r => by
    rw [List.dropWhile_cons]
    by_cases ha : p a = true
    · rw [if_pos ha]; exact dw_idem r
    · rw [if_neg ha, List.dropWhile_cons, if_neg ha]
theorem rtrim_idem (l : List Nat) : rtrim p (rtrim p l) = rtrim p l := by
  unfold rtrim
  rw [List.reverse_reverse, dw_idem]
theorem trim_comm : ∀ l : List Nat, trim p l = (rtrim p l).dropWhile p
  | [] => rfl
  | a :: r => by
    have e : rtrim p (a :: r) = if rtrim p r = [] then rtrim p [a] else a :: rtrim p r := rtrim_append [a] r
    have ih := trim_comm r
    unfold trim at ih ⊢
    rw [List.dropWhile_cons]
    by_cases ha : p a = true
    · rw [if_pos ha, ih, e]
      have e2 : rtrim p [a] = [] := rtrim_nil_iff.mpr (by rw [List.all_cons, ha]; rfl)
      split
      · rename_i h; rw [h, e2]
      · rw [List.dropWhile_cons, if_pos ha]
    · rw [if_neg ha, e]
      have e2 : rtrim p [a] = [a] := by
        unfold rtrim
        show ([a].dropWhile p).reverse = _
        rw [List.dropWhile_cons, if_neg ha]; rfl
      split
      · rw [e2, List.dropWhile_cons, if_neg ha]
      · rw [List.dropWhile_cons, if_neg ha]
theorem trim_nil_iff {l : List Nat} : trim p l = [] ↔ l.all p = true := by
  constructor
  · intro h
    exact dw_all (rtrim_nil_iff.mp h)
  · intro h
    unfold trim
    rw [dw_nil.mpr h]
    rfl
theorem trim_dw (l : List Nat) : trim p (l.dropWhile p) = trim p l := by unfold trim; rw [dw_idem]
theorem trim_rt (l : List Nat) : trim p (rtrim p l) = trim p l := by rw [trim_comm, rtrim_idem, ← trim_comm]
theorem trim_of_rt {l l' : List Nat} (h : rtrim p l = rtrim p l') : trim p l = trim p l' := by rw [trim_comm, trim_comm, h]
theorem trim_blank {q l : List Nat} (h : q.all p = true) : trim p (q ++ l) = trim p l := by unfold trim; rw [dw_blank h]
theorem dw_congr {q : Nat → Bool} : ∀ {l : List Nat}, (∀ c ∈ l, p c = q c) → l.dropWhile p = l.dropWhile q
  | [], _ => rfl
  | a :: r, h => by
    rw [List.dropWhile_cons, List.dropWhile_cons, h a (.head _), dw_congr fun c hc => h c (.tail _ hc)]
theorem rt_congr {q : Nat → Bool} {l : List Nat} (h : ∀ c ∈ l, p c = q c) : rtrim p l = rtrim q l := by
  unfold rtrim; rw [dw_congr fun c hc => h c (List.mem_reverse.mp hc)]
theorem trim_congr {q : Nat → Bool} {l : List Nat} (h : ∀ c ∈ l, p c = q c) : trim p l = trim q l := by
  unfold trim
  rw [dw_congr h, rt_congr fun c hc => h c ((List.dropWhile_sublist q).subset hc)]
end
abbrev sp : Nat → Bool := Unicode.isSpace
theorem wb_sp {c : Nat} (h : c ≠ 10) : wb c = sp c := by
  show decide (c ∈ tl white) = Unicode.isSpace c
  rw [space_eq, white_eq]
  have : (c == 10) = false := by simpa using h
  rw [this, Bool.or_false]
  rfl
theorem bare_eq {x : Str} (h : ∀ c ∈ tl x, c ≠ 10) : bareS x = mkS (trim sp (tl x)) := tl_ext (by rw [bareS_tl, tl_S, trim_congr fun c hc => wb_sp (h c hc)])
theorem strip_S (l : List Nat) : Txt.strip (mkS l) = mkS (trim sp l) := tl_ext (by rw [strip_eq, tl_S, tl_S])
theorem rstrip_S (l : List Nat) : Txt.rstrip (mkS l) = mkS (rtrim sp l) := tl_ext (by rw [rstrip_eq, tl_S, tl_S])
theorem head_eq {x : Str} (h : ∀ c ∈ tl x, c ≠ 10) : headS x = mkS ((tl x).dropWhile sp) := tl_ext (by
  rw [headS_tl, tl_S]
  have e : ∀ c ∈ tl x ++ [124], wb c = sp c := fun c hc => by
    rcases List.mem_append.mp hc with hc | hc
    · exact wb_sp (h c hc)
    · rw [List.mem_singleton.mp hc]; exact wb_sp (by decide)
  rw [trim_congr e]
  have h124 : sp 124 = false := by decide +kernel
  have r1 : rtrim sp [124] = [124] := by unfold rtrim; show ([124].dropWhile sp).reverse = _; rw [List.dropWhile_cons, if_neg (by rw [h124]; decide)]; rfl
  unfold trim
  cases hb : (tl x).all sp with
  | true => rw [dw_blank hb, dw_nil.mpr hb, List.dropWhile_cons, if_neg (by rw [h124]; decide), r1]; rfl
  | false => rw [dw_app hb, rtrim_append, r1, if_neg (by simp), List.dropLast_concat])
theorem tail_eq {x : Str} (h : ∀ c ∈ tl x, c ≠ 10) : tailS x = mkS (rtrim sp (tl x)) := tl_ext (by
  rw [tailS_tl, tl_S]
  have e : ∀ c ∈ 124 :: tl x, wb c = sp c := fun c hc => by
    rcases List.mem_cons.mp hc with rfl | hc
    · exact wb_sp (by decide)
    · exact wb_sp (h c hc)
  rw [trim_congr e]
  have h124 : sp 124 = false := by decide +kernel
  have r1 : rtrim sp [124] = [124] := by unfold rtrim; show ([124].dropWhile sp).reverse = _; rw [List.dropWhile_cons, if_neg (by rw [h124]; decide)]; rfl
  unfold trim
  rw [List.dropWhile_cons, if_neg (by rw [h124]; decide), show 124 :: tl x = [124] ++ tl x from rfl, rtrim_append, r1]
  split
  · rename_i h0; rw [h0]; rfl
  · rfl)
end Mine
end


section
open PySem PySem.W PyProof.Rows PySem.Calls
set_option Elab.async false
namespace Mine
/-- no line end in any text -/
def No10 (ts : List Str) : Prop := ∀ t ∈ ts, ∀ c ∈ tl t, c ≠ 10
def so (t : Str) : Bool := !(bareS t == Str.ofString "")
theorem No10.head {t : Str} {r : List Str} (h : No10 (t :: r)) : ∀ c ∈ tl t, c ≠ 10 := h t (.head _)
theorem No10.tail {t : Str} {r : List Str} (h : No10 (t :: r)) : No10 r := fun x hx => h x (.tail _ hx)
theorem S_empty_iff {l : List Nat} : mkS l = Str.ofString "" ↔ l = [] := by
  constructor
  · intro h; rw [← S_nil] at h; exact S_inj h
  · rintro rfl; exact S_nil
theorem so_iff {t : Str} (h : ∀ c ∈ tl t, c ≠ 10) : so t = !((tl t).all sp) := by
  unfold so
  congr 1
  rw [Bool.eq_iff_iff, beq_iff_eq, bare_eq h, S_empty_iff, trim_nil_iff]
theorem so_true {t : Str} (h : ∀ c ∈ tl t, c ≠ 10) (hs : so t = true) : (tl t).all sp = false := by
  rw [so_iff h] at hs; simpa using hs
theorem so_false {t : Str} (h : ∀ c ∈ tl t, c ≠ 10) (hs : so t = false) : (tl t).all sp = true := by
  rw [so_iff h] at hs; simpa using hs
theorem rt_sub {p : Nat → Bool} {l : List Nat} : ∀ c ∈ rtrim p l, c ∈ l := fun c hc => by
  unfold rtrim at hc
  exact List.mem_reverse.mp ((List.dropWhile_sublist p).subset (List.mem_reverse.mp hc))
theorem tail_mem {t : Str} (h : ∀ c ∈ tl t, c ≠ 10) : ∀ c ∈ tl (tailS t), c ∈ tl t := fun c hc => by
  rw [tail_eq h, tl_S] at hc; exact rt_sub c hc
theorem head_mem {t : Str} (h : ∀ c ∈ tl t, c ≠ 10) : ∀ c ∈ tl (headS t), c ∈ tl t := fun c hc => by
  rw [head_eq h, tl_S] at hc; exact (List.dropWhile_sublist sp).subset hc
theorem so_tail {t : Str} (h : ∀ c ∈ tl t, c ≠ 10) (hs : so t = true) : so (tailS t) = true := by
  rw [so_iff fun c hc => h c (tail_mem h c hc), tail_eq h, tl_S]
  have := so_true h hs
  cases e : (rtrim sp (tl t)).all sp with
  | false => rfl
  | true =>
    have e2 := rtrim_nil_iff.mpr e
    rw [rtrim_idem] at e2
    rw [rtrim_nil_iff.mp e2] at this
    cases this
theorem solid_cons (t : Str) (r : List Str) : solidS (t :: r) = (if so t = true then [0] else []) ++ (solidS r).map (· + 1) := by
  unfold solidS
  rw [List.length_cons, List.range_succ_eq_map, List.filter_cons, List.filter_map]
  have e1 : solidB (t :: r) 0 = so t := rfl
  have e2 : (solidB (t :: r) ∘ Nat.succ) = solidB r := rfl
  rw [e1, e2]
  split <;> rfl
def bodyR : List Str → List Str
  | [] => []
  | t :: r => if solidS r = [] then (if so t = true then [tailS t] else []) else t :: bodyR r
theorem body_eq : ∀ ts : List Str, bodyS ts (solidS ts) = bodyR ts
  | [] => rfl
  | t :: r => by
    rw [solid_cons]
    unfold bodyR
    by_cases h : solidS r = []
    · rw [h, if_pos rfl]
      cases hs : so t with
      | true => simp [bodyS]
      | false => simp [bodyS]
    · rw [if_neg h, ← body_eq r]
      obtain ⟨k, hk⟩ : ∃ k, (solidS r).getLast? = some k := by
        cases e : (solidS r).getLast? with
        | none => exact absurd (List.getLast?_eq_none_iff.mp e) h
        | some k => exact ⟨k, rfl⟩
      have hl : ((if so t = true then [0] else []) ++ (solidS r).map (· + 1)).getLast? = some (k + 1) := by
        rw [List.getLast?_append, List.getLast?_map, hk]; rfl
      rw [body_at hl, body_at hk]
      rfl
theorem body_ne {r : List Str} (h : solidS r ≠ []) : bodyR r ≠ [] := by
  rw [← body_eq]
  cases e : (solidS r).getLast? with
  | none => exact absurd (List.getLast?_eq_none_iff.mp e) h
  | some k => rw [body_at e]; simp
def pairsR (b : Str) : List Str → List (Str × Str)
  | [] => [(Str.ofString "", Str.ofString "")]
  | t :: r => if so t = true then (headS t, Txt.join b r) :: pairsR b r else pairsR b r
theorem pairs_shift (b x : Str) (bd : List Str) (ks : List Nat) : pairsS b (x :: bd) (ks.map (· + 1)) = pairsS b bd ks := by
  unfold pairsS
  rw [List.map_map]
  rfl
theorem pairs_app (b : Str) (bd : List Str) (A B : List Nat) : pairsS b bd (A ++ B) = (A.map fun k => (headS (bd.getD k Str.empty), restS b bd k)) ++ pairsS b bd B := by
  unfold pairsS
  rw [List.map_append, List.append_assoc]
theorem pairs_eq (b : Str) : ∀ {ts : List Str}, No10 ts → pairsS b (bodyR ts) (solidS ts) = pairsR b (bodyR ts)
  | [], _ => rfl
  | t :: r, hn => by
    have ih := pairs_eq b (ts := r) hn.tail
    rw [solid_cons, pairs_app]
    unfold bodyR
    by_cases h : solidS r = []
    · rw [h, if_pos rfl]
      cases hs : so t with
      | true =>
        simp only [if_true, pairsR, so_tail hn.head hs]
        rfl
      | false => simp [pairsR, pairsS]
    · rw [if_neg h, pairs_shift, ih]
      cases hs : so t with
      | true => simp only [if_true, pairsR, hs]; rfl
      | false => simp [pairsR, hs]
def rowsR : List Str → List Str
  | [] => [Str.ofString ""]
  | t :: r => if so t = true then headS t :: r else rowsR r
theorem rows_eq : ∀ {ts : List Str}, No10 ts → rowsS (bodyR ts) (solidS ts) = rowsR (bodyR ts)
  | [], _ => rfl
  | t :: r, hn => by
    have ih := rows_eq (ts := r) hn.tail
    rw [solid_cons]
    unfold bodyR
    by_cases h : solidS r = []
    · rw [h, if_pos rfl]
      cases hs : so t with
      | true => simp only [if_true, rowsR, so_tail hn.head hs]; rfl
      | false => simp [rowsR, rowsS]
    · rw [if_neg h]
      cases hs : so t with
      | true => simp only [if_true, rowsR, hs]; rfl
      | false =>
        cases e : solidS r with
        | nil => exact absurd e h
        | cons k kr =>
          rw [e] at ih
          simp only [Bool.false_eq_true, if_false, List.nil_append, rowsR, hs]
          rw [← ih]
          rfl
/-- the last text ends in no blank -/
def Tr : List Str → Prop
  | [] => True
  | [t] => so t = true ∧ rtrim sp (tl t) = tl t
  | _ :: t :: r => Tr (t :: r)
theorem Tr.tail {t : Str} : ∀ {r : List Str}, Tr (t :: r) → Tr r
  | [], _ => trivial
  | _ :: _, h => h
theorem tr_body : ∀ {ts : List Str}, No10 ts → Tr (bodyR ts)
  | [], _ => trivial
  | t :: r, hn => by
    unfold bodyR
    by_cases h : solidS r = []
    · rw [if_pos h]
      cases hs : so t with
      | true =>
        rw [if_pos rfl]
        exact ⟨so_tail hn.head hs, by rw [tail_eq hn.head, tl_S, rtrim_idem]⟩
      | false => rw [if_neg (by decide)]; trivial
    · rw [if_neg h]
      have ih := tr_body (ts := r) hn.tail
      cases e : bodyR r with
      | nil => exact absurd e (body_ne h)
      | cons t' r' => rw [e] at ih; exact ih
theorem body_chars {P : Nat → Prop} : ∀ {ts : List Str}, No10 ts → (∀ t ∈ ts, ∀ c ∈ tl t, P c) → ∀ t ∈ bodyR ts, ∀ c ∈ tl t, P c
  | [], _, _, t, ht, _, _ => nomatch ht
  | x :: r, hn, hP, t, ht, c, hc => by
    unfold bodyR at ht
    by_cases h : solidS r = []
    · rw [if_pos h] at ht
      cases hs : so x with
      | true =>
        rw [hs, if_pos rfl, List.mem_singleton] at ht
        rw [ht] at hc
        exact hP x (.head _) c (tail_mem hn.head c hc)
      | false => rw [hs, if_neg (by decide)] at ht; cases ht
    · rw [if_neg h] at ht
      rcases List.mem_cons.mp ht with rfl | ht
      · exact hP t (.head _) c hc
      · exact body_chars hn.tail (fun t ht => hP t (.tail _ ht)) t ht c hc
abbrev J (s : List Nat) (bd : List Str) : List Nat := joinL s (bd.map tl)
theorem J_ne {s : List Nat} {t : Str} {r : List Str} (h : r ≠ []) : J s (t :: r) = (tl t ++ s) ++ J s r := joinL_ne (by simpa using h)
theorem J_S (b : Str) (bd : List Str) : Txt.join b bd = mkS (J (tl b) bd) := by
  have : bd = (bd.map tl).map mkS := map_S rfl
  rw [this, join_S, ← this]
theorem blank_J {s : List Nat} (hs : s.all sp = true) : ∀ {ts : List Str}, No10 ts → solidS ts = [] → (J s ts).all sp = true
  | [], _, _ => rfl
  | [t], hn, h => by
    refine so_false hn.head ?_
    rw [solid_cons] at h
    cases hs : so t with
    | false => rfl
    | true => rw [hs] at h; simp at h
  | t :: t' :: r, hn, h => by
    rw [solid_cons] at h
    have h1 : so t = false := by
      cases hs : so t with
      | false => rfl
      | true => rw [hs] at h; simp at h
    have h2 : solidS (t' :: r) = [] := by
      rw [h1] at h
      simpa using h
    rw [J_ne (by simp), List.all_append, List.all_append, so_false hn.head h1, hs, blank_J hs hn.tail h2]
    rfl
theorem rt_body {s : List Nat} (hs : s.all sp = true) : ∀ {ts : List Str}, No10 ts → rtrim sp (J s ts) = rtrim sp (J s (bodyR ts))
  | [], _ => rfl
  | t :: r, hn => by
    unfold bodyR
    by_cases h : solidS r = []
    · rw [if_pos h]
      have hb := blank_J hs hn.tail h
      have e : rtrim sp (J s (t :: r)) = rtrim sp (tl t) := by
        by_cases hr : r = []
        · subst hr; rfl
        · rw [J_ne hr, List.append_assoc, rtrim_append, if_pos (rtrim_nil_iff.mpr (by rw [List.all_append, hs, hb]; rfl))]
      cases hs2 : so t with
      | true =>
        rw [if_pos rfl, e]
        show _ = rtrim sp (tl (tailS t))
        rw [tail_eq hn.head, tl_S, rtrim_idem]
      | false =>
        rw [if_neg (by decide), e, rtrim_nil_iff.mpr (so_false hn.head hs2)]
        rfl
    · rw [if_neg h]
      have hr : r ≠ [] := fun e => by subst e; exact h rfl
      rw [J_ne hr, J_ne (body_ne h)]
      exact rtrim_congr (rt_body hs hn.tail)
theorem Tr_nb {s : List Nat} : ∀ {bd : List Str}, No10 bd → Tr bd → bd ≠ [] → (J s bd).all sp = false
  | [], _, _, h => absurd rfl h
  | [t], hn, ht, _ => so_true hn.head ht.1
  | t :: t' :: r, hn, ht, _ => by
    rw [J_ne (by simp), List.all_append, Tr_nb hn.tail ht (by simp), Bool.and_false]
theorem Tr_rt {s : List Nat} : ∀ {bd : List Str}, No10 bd → Tr bd → rtrim sp (J s bd) = J s bd
  | [], _, _ => rfl
  | [t], _, ht => ht.2
  | t :: t' :: r, hn, ht => by
    have ih := Tr_rt (s := s) hn.tail ht
    have nb := Tr_nb (s := s) hn.tail ht (by simp)
    rw [J_ne (by simp), rtrim_append, ih, if_neg]
    intro e
    rw [e] at nb
    cases nb
theorem lead {s : List Nat} (hs : s.all sp = true) {t : Str} {r : List Str} (hn : No10 (t :: r)) (ht : so t = false) (hr : r ≠ []) : trim sp (J s (t :: r)) = trim sp (J s r) := by
  rw [J_ne hr]
  exact trim_blank (by rw [List.all_append, so_false hn.head ht, hs]; rfl)
theorem solid_trim {s : List Nat} {t : Str} {r : List Str} (hn : No10 (t :: r)) (ht : so t = true) (hT : Tr (t :: r)) : trim sp (J s (t :: r)) = joinL s ((tl t).dropWhile sp :: r.map tl) := by
  rw [trim_comm, Tr_rt hn hT]
  by_cases hr : r = []
  · subst hr; rfl
  · rw [J_ne hr, joinL_ne (by simpa using hr), List.append_assoc, dw_app (so_true hn.head ht), List.append_assoc]
theorem Tr_last {t : Str} {r : List Str} (hT : Tr (t :: r)) (ht : so t = false) : r ≠ [] := fun e => by
  subst e
  rw [hT.1] at ht
  cases ht
end Mine
end


section
open PySem PySem.W PyProof.Rows PySem.Calls
set_option Elab.async false
namespace Mine
theorem sdoc_strip {x y : Str} (h : Txt.strip x = Txt.strip y) : sdoc x = sdoc y := by unfold sdoc; rw [h]
theorem split_S {l : List Nat} {p : List Nat} {ps : List (List Nat)} (hc : ∀ q ∈ p :: ps, 10 ∉ q) (hx : l = joinL [10] (p :: ps)) : Txt.split (mkS l) (Str.ofString "\n") = (p :: ps).map mkS :=
  split_join (y := Str.ofString "\n") (c := 10) (s' := []) nl_tl hc (by rw [tl_S, nl_tl]; exact hx)
theorem sdoc_one' {x q : Str} (e : Txt.split (Txt.strip x) (Str.ofString "\n") = [q]) : sdoc x = (q, Str.ofString "") := by
  unfold sdoc
  rw [e, if_pos (show ([q] : List Str).length = 1 from rfl)]
  rfl
theorem sdoc_nil {x : Str} (h : Txt.strip x = Str.ofString "") : sdoc x = (Str.ofString "", Str.ofString "") := by
  have e : Txt.split (Txt.strip x) (Str.ofString "\n") = [mkS []] := by
    rw [h, ← S_nil]
    exact split_S (p := []) (ps := []) (by simp) rfl
  rw [sdoc_one' e, S_nil]
/-- the lines that a border makes -/
def ex (ws : List Nat) : List (List Nat) → List (List Nat)
  | [] => []
  | [q] => [q]
  | q :: r :: rs => q :: ws :: ex ws (r :: rs)
theorem ex_cons (ws q : List Nat) : ∀ rs : List (List Nat), ∃ es, ex ws (q :: rs) = q :: es
  | [] => ⟨[], rfl⟩
  | r :: rs => ⟨ws :: ex ws (r :: rs), rfl⟩
theorem join_ex (ws : List Nat) : ∀ l : List (List Nat), joinL (10 :: ws ++ [10]) l = joinL [10] (ex ws l)
  | [] => rfl
  | [q] => rfl
  | q :: r :: rs => by
    rw [joinL_cons, join_ex ws (r :: rs)]
    obtain ⟨es, he⟩ := ex_cons ws r rs
    show _ = joinL [10] (q :: ws :: ex ws (r :: rs))
    rw [he, joinL_cons, joinL_cons]
    simp
theorem ex_no10 {ws : List Nat} (hw : 10 ∉ ws) : ∀ {l : List (List Nat)}, (∀ q ∈ l, 10 ∉ q) → ∀ q ∈ ex ws l, 10 ∉ q
  | [], h, q, hq => nomatch hq
  | [p], h, q, hq => h q hq
  | p :: r :: rs, h, q, hq => by
    rcases List.mem_cons.mp hq with rfl | hq
    · exact h q (.head _)
    · rcases List.mem_cons.mp hq with rfl | hq
      · exact hw
      · exact ex_no10 hw (fun q hq => h q (.tail _ hq)) q hq
theorem no10_part {t : Str} (h : ∀ c ∈ tl t, c ≠ 10) : 10 ∉ tl t := fun hm => h 10 hm rfl
theorem no10_dw {t : Str} (h : ∀ c ∈ tl t, c ≠ 10) : 10 ∉ (tl t).dropWhile sp := fun hm => h 10 ((List.dropWhile_sublist sp).subset hm) rfl
/-- a border: a line end, blanks, a line end -/
structure Edge (b : Str) (ws : List Nat) : Prop where
  e : tl b = 10 :: ws ++ [10]
  w : ws.all sp = true
  n : 10 ∉ ws
  l : ws.length ≤ 2
theorem Edge.blank {b : Str} {ws : List Nat} (h : Edge b ws) : (tl b).all sp = true := by
  have : sp 10 = true := by decide +kernel
  rw [h.e, List.cons_append, List.all_cons, List.all_append, h.w, this]
  show (true && (true && [10].all sp)) = true
  rw [show [10].all sp = (sp 10 && true) from rfl, this]; rfl
theorem sdoc_solid {b : Str} {ws : List Nat} (hb : Edge b ws) {t : Str} {r : List Str} {x : Str} (hn : No10 (t :: r)) (ht : so t = true) (hT : Tr (t :: r)) (hx : Txt.strip x = mkS (trim sp (J (tl b) (t :: r)))) : sdoc x = (headS t, Txt.join b r) := by
  rw [solid_trim hn ht hT, hb.e, join_ex] at hx
  have hno : ∀ q ∈ (tl t).dropWhile sp :: r.map tl, 10 ∉ q := fun q hq => by
    rcases List.mem_cons.mp hq with rfl | hq
    · exact no10_dw hn.head
    · obtain ⟨y, hy, rfl⟩ := List.mem_map.mp hq
      exact no10_part (hn.tail y hy)
  cases r with
  | nil =>
    have e : Txt.split (Txt.strip x) (Str.ofString "\n") = [mkS ((tl t).dropWhile sp)] := by rw [hx]; exact split_S (ps := []) hno rfl
    rw [sdoc_one' e, head_eq hn.head, J_S, show J (tl b) [] = [] from rfl, S_nil]
  | cons r0 r' =>
    have e : Txt.split (Txt.strip x) (Str.ofString "\n") = (ex ws ((tl t).dropWhile sp :: (r0 :: r').map tl)).map mkS := by
      rw [hx]
      exact split_S (p := (tl t).dropWhile sp) (ps := ws :: ex ws ((r0 :: r').map tl)) (fun q hq => ex_no10 hb.n hno q hq) rfl
    have e2 : ex ws ((tl t).dropWhile sp :: (r0 :: r').map tl) = (tl t).dropWhile sp :: ws :: ex ws ((r0 :: r').map tl) := rfl
    rw [e2] at e
    unfold sdoc
    rw [e, if_neg (by simp), List.map_cons, List.map_cons]
    show (if Txt.rstrip (mkS ws) = Str.ofString "" then (mkS ((tl t).dropWhile sp), Txt.join (Str.ofString "\n") ((ex ws ((r0 :: r').map tl)).map mkS)) else _) = _
    rw [rstrip_S, rtrim_nil_iff.mpr hb.w, if_pos S_nil, head_eq hn.head, join_S, nl_tl, ← join_ex, J_S, hb.e]
theorem head_ne {t : Str} (h : ∀ c ∈ tl t, c ≠ 10) (hs : so t = true) : headS t ≠ Str.ofString "" := by
  rw [head_eq h]
  intro e
  have := S_empty_iff.mp e
  have h1 := so_true h hs
  rw [dw_nil.mp this] at h1
  cases h1
theorem steps_eq {b : Str} {ws : List Nat} (hb : Edge b ws) : ∀ (bd : List Str) (n : Nat) (x : Str), No10 bd → Tr bd → (bd.filter so).length + 1 ≤ n → Txt.strip x = mkS (trim sp (J (tl b) bd)) → stepsL n x = pairsR b bd
  | [], 0, x, _, _, hl, _ => by simp at hl
  | [], n + 1, x, _, _, _, hx => by
    have : sdoc x = (Str.ofString "", Str.ofString "") := sdoc_nil (hx.trans S_nil)
    show sdoc x :: (if (sdoc x).1 = Str.ofString "" then [] else _) = _
    rw [this, if_pos rfl]
    rfl
  | t :: r, n, x, hn, hT, hl, hx => by
    cases hs : so t with
    | false =>
      have hr := Tr_last hT hs
      rw [lead hb.blank hn hs hr] at hx
      have := steps_eq hb r n x hn.tail hT.tail (by rw [List.filter_cons, if_neg (by rw [hs]; decide)] at hl; exact hl) hx
      rw [this]
      simp only [pairsR, hs, Bool.false_eq_true, if_false]
    | true =>
      rw [List.filter_cons, if_pos hs, List.length_cons] at hl
      obtain ⟨m, rfl⟩ : ∃ m, n = m + 1 := ⟨n - 1, by omega⟩
      have hd := sdoc_solid hb hn hs hT hx
      show sdoc x :: (if (sdoc x).1 = Str.ofString "" then [] else stepsL m (sdoc x).2) = _
      rw [hd, if_neg (head_ne hn.head hs)]
      rw [steps_eq hb r m (Txt.join b r) hn.tail hT.tail (by omega) (by rw [J_S, strip_S])]
      simp only [pairsR, hs, if_true]
theorem sp61 : sp 61 = false := by decide +kernel
theorem names_trim : ∀ (ps : List (List Nat)) (p : List Nat) (n : Nat), (∀ q ∈ p :: ps, 61 ∉ q) → (p :: ps).length ≤ n → namesL n (mkS (trim sp (joinL [61] (p :: ps)))) = (p :: ps).map fun q => mkS (trim sp q)
  | [], p, 0, _, h => by simp at h
  | [], p, n + 1, hp, _ => by
    have hno : 61 ∉ tl (mkS (trim sp p)) := by
      rw [tl_S]
      intro hm
      unfold trim at hm
      exact hp p (.head _) ((List.dropWhile_sublist sp).subset (rt_sub _ hm))
    show (match Txt.splitMax (mkS (trim sp p)) (Str.ofString "=") 1 with | [a, b] => Txt.strip a :: namesL n (Txt.strip b) | _ => [mkS (trim sp p)]) = _
    rw [sm_none hno]
    rfl
  | q :: qs, p, 0, _, h => by simp at h
  | q :: qs, p, n + 1, hp, hl => by
    have e : trim sp (joinL [61] (p :: q :: qs)) = p.dropWhile sp ++ 61 :: rtrim sp (joinL [61] (q :: qs)) := by
      rw [joinL_cons, List.append_assoc, trim_comm, rtrim_congr (rtrim_idem ([61] ++ joinL [61] (q :: qs))).symm]
      have r1 : rtrim sp ([61] ++ joinL [61] (q :: qs)) = 61 :: rtrim sp (joinL [61] (q :: qs)) := by
        have r2 : rtrim sp [61] = [61] := by unfold rtrim; show ([61].dropWhile sp).reverse = _; rw [List.dropWhile_cons, if_neg (by rw [sp61]; decide)]; rfl
        rw [rtrim_append, r2]
        split
        · rename_i h0; rw [h0]
        · rfl
      have r3 : rtrim sp (p ++ rtrim sp ([61] ++ joinL [61] (q :: qs))) = p ++ rtrim sp ([61] ++ joinL [61] (q :: qs)) := by
        rw [rtrim_append, rtrim_idem, if_neg (by rw [r1]; simp)]
      rw [r3, r1]
      cases hb : p.all sp with
      | true => rw [dw_blank hb, dw_nil.mpr hb, List.dropWhile_cons, if_neg (by rw [sp61]; decide)]; rfl
      | false => rw [dw_app hb]
    have hno : 61 ∉ p.dropWhile sp := fun hm => hp p (.head _) ((List.dropWhile_sublist sp).subset hm)
    show (match Txt.splitMax (mkS (trim sp (joinL [61] (p :: q :: qs)))) (Str.ofString "=") 1 with | [a, b] => Txt.strip a :: namesL n (Txt.strip b) | _ => [mkS (trim sp (joinL [61] (p :: q :: qs)))]) = _
    rw [sm_some (p := p.dropWhile sp) (z := rtrim sp (joinL [61] (q :: qs))) hno (by rw [tl_S, e])]
    show Txt.strip (mkS _) :: namesL n (Txt.strip (mkS _)) = _
    rw [strip_S, strip_S, trim_dw, trim_rt, names_trim qs q n (fun z hz => hp z (.tail _ hz)) (by simp only [List.length_cons] at hl ⊢; omega)]
    rfl
theorem names_raw {ps : List (List Nat)} {p q : List Nat} {n : Nat} {x : Str} (hp : ∀ z ∈ p :: q :: ps, 61 ∉ z) (hl : (p :: q :: ps).length ≤ n) (hx : tl x = joinL [61] (p :: q :: ps)) : namesL n x = (p :: q :: ps).map fun q => mkS (trim sp q) := by
  obtain ⟨m, rfl⟩ : ∃ m, n = m + 1 := ⟨n - 1, by simp only [List.length_cons] at hl; omega⟩
  show (match Txt.splitMax x (Str.ofString "=") 1 with | [a, b] => Txt.strip a :: namesL m (Txt.strip b) | _ => [x]) = _
  rw [sm_some (p := p) (z := joinL [61] (q :: ps)) (hp p (.head _)) (by rw [hx, joinL_cons, List.append_assoc]; rfl)]
  show Txt.strip (mkS _) :: namesL m (Txt.strip (mkS _)) = _
  rw [strip_S, strip_S, names_trim ps q m (fun z hz => hp z (.tail _ hz)) (by simp only [List.length_cons] at hl ⊢; omega)]
  rfl
/-- the lines where lone line ends stand -/
theorem lines_eq : ∀ (bd : List Str) (x : Str), No10 bd → Tr bd → Txt.strip x = mkS (trim sp (J [10] bd)) → Txt.split (Txt.strip x) (Str.ofString "\n") = rowsR bd
  | [], x, _, _, hx => by
    rw [hx]
    exact (split_S (p := []) (ps := []) (by simp) rfl).trans (by rw [List.map_cons, List.map_nil, S_nil]; rfl)
  | t :: r, x, hn, hT, hx => by
    have h10 : [10].all sp = true := by decide +kernel
    cases hs : so t with
    | false =>
      have hr := Tr_last hT hs
      rw [lead h10 hn hs hr] at hx
      rw [lines_eq r x hn.tail hT.tail hx]
      simp only [rowsR, hs, Bool.false_eq_true, if_false]
    | true =>
      rw [solid_trim hn hs hT] at hx
      rw [hx, split_S (fun q hq => ?_) rfl]
      · simp only [rowsR, hs, if_true, List.map_cons, head_eq hn.head]
        rw [← map_S (ts := r) rfl]
      · rcases List.mem_cons.mp hq with rfl | hq
        · exact no10_dw hn.head
        · obtain ⟨y, hy, rfl⟩ := List.mem_map.mp hq
          exact no10_part (hn.tail y hy)
theorem strip_nil_iff (y : Str) : Txt.strip y = Str.ofString "" ↔ Txt.rstrip y = Str.ofString "" := by
  rw [← S_tl y, strip_S, rstrip_S, S_empty_iff, S_empty_iff, trim_nil_iff, rtrim_nil_iff]
theorem rows_ne : ∀ bd : List Str, rowsR bd ≠ []
  | [] => by simp [rowsR]
  | t :: r => by
    unfold rowsR
    split
    · simp
    · exact rows_ne r
theorem lone_eq {rows : List Str} {x : Str} (hne : rows ≠ []) (h61 : ∀ t ∈ rows, 61 ∉ tl t) (hl : Txt.split (Txt.strip x) (Str.ofString "\n") = rows) :
    ∃ a c, Txt.splitMax (Txt.join (Str.ofString "=") (rows.drop 1) ++ Str.ofString "=") (Str.ofString "=") 1 = [a, c] ∧ sdoc x = loneOf rows a := by
  cases rows with
  | nil => exact absurd rfl hne
  | cons r0 r =>
    cases r with
    | nil =>
      refine ⟨mkS [], mkS [], ?_, ?_⟩
      · refine sm_some (by simp) ?_
        rw [tl_append, eq_tl, J_S]
        show tl (mkS []) ++ [61] = [61]
        rw [tl_S]; rfl
      · rw [sdoc_one' hl]
        unfold loneOf
        rw [strip_S, if_pos (by rw [show trim sp [] = [] from rfl]; exact S_nil)]
        show (r0, Str.ofString "") = (r0, Txt.join (Str.ofString "\n") [])
        rw [J_S, show J (tl (Str.ofString "\n")) [] = [] from rfl, S_nil]
    | cons r1 rr =>
      have hj : tl (Txt.join (Str.ofString "=") ((r0 :: r1 :: rr).drop 1) ++ Str.ofString "=") = tl r1 ++ 61 :: (if rr = [] then [] else J [61] rr ++ [61]) := by
        rw [tl_append, eq_tl, J_S, tl_S, eq_tl]
        show J [61] (r1 :: rr) ++ [61] = _
        by_cases hr : rr = []
        · subst hr; rfl
        · rw [J_ne hr, if_neg hr]; simp
      refine ⟨mkS (tl r1), _, sm_some (h61 r1 (.tail _ (.head _))) hj, ?_⟩
      rw [S_tl]
      unfold sdoc loneOf
      rw [hl, if_neg (by simp)]
      show (if Txt.rstrip r1 = Str.ofString "" then _ else _) = (if Txt.strip r1 = Str.ofString "" then _ else _)
      by_cases h : Txt.strip r1 = Str.ofString ""
      · rw [if_pos h, if_pos ((strip_nil_iff r1).mp h)]
        rfl
      · rw [if_neg h, if_neg fun e => h ((strip_nil_iff r1).mpr e)]
end Mine
end


section
open PySem PySem.W PyProof.Rows PySem.Calls
set_option Elab.async false
namespace Mine
theorem strOk_of {x : Str} (h : ∀ c ∈ tl x, c < 1114112) : PyData.strOk x = true := by
  unfold PyData.strOk
  rw [← Array.all_toList, List.all_eq_true]
  exact fun c hc => decide_eq_true (h c hc)
theorem getD_P {P : Str → Prop} {bd : List Str} (h : ∀ t ∈ bd, P t) (h0 : P Str.empty) (k : Nat) : P (bd.getD k Str.empty) := by
  rw [List.getD_eq_getElem?_getD]
  cases e : bd[k]? with
  | none => exact h0
  | some y => exact h y (List.mem_of_getElem? e)
theorem join_P {P : Nat → Prop} {b : Str} {bd : List Str} (hb : ∀ c ∈ tl b, P c) (h : ∀ t ∈ bd, ∀ c ∈ tl t, P c) : ∀ c ∈ tl (Txt.join b bd), P c := by
  intro c hc
  rw [J_S, tl_S] at hc
  rcases mem_joinL hc with hc | ⟨p, hp, hc⟩
  · exact hb c hc
  · obtain ⟨t, ht, rfl⟩ := List.mem_map.mp hp
    exact h t ht c hc
theorem rows_P {P : Nat → Prop} : ∀ {bd : List Str}, No10 bd → (∀ t ∈ bd, ∀ c ∈ tl t, P c) → ∀ t ∈ rowsR bd, ∀ c ∈ tl t, P c
  | [], _, _, t, ht, c, hc => by
    rw [List.mem_singleton.mp ht, nil_tl] at hc; cases hc
  | x :: r, hn, h, t, ht, c, hc => by
    unfold rowsR at ht
    split at ht
    · rcases List.mem_cons.mp ht with rfl | ht
      · exact h x (.head _) c (head_mem hn.head c hc)
      · exact h t (.tail _ ht) c hc
    · exact rows_P hn.tail (fun t ht => h t (.tail _ ht)) t ht c hc
theorem rows_len {n : Nat} : ∀ {bd : List Str}, (∀ t ∈ bd, t.length ≤ n) → (rowsR bd).length ≤ bd.length + 1 ∧ ∀ t ∈ rowsR bd, t.length ≤ n
  | [], _ => ⟨Nat.le_refl _, fun t ht => by rw [List.mem_singleton.mp ht]; exact Nat.zero_le _⟩
  | x :: r, h => by
    unfold rowsR
    split
    · refine ⟨by simp, fun t ht => ?_⟩
      rcases List.mem_cons.mp ht with rfl | ht
      · exact Nat.le_trans (headS_len _) (h x (.head _))
      · exact h t (.tail _ ht)
    · have ih := rows_len (bd := r) fun t ht => h t (.tail _ ht)
      exact ⟨Nat.le_trans ih.1 (by simp), ih.2⟩
theorem sdoc_P {P : Nat → Prop} {x : Str} (h10 : P 10) (h : ∀ t ∈ Txt.split (Txt.strip x) (Str.ofString "\n"), ∀ c ∈ tl t, P c) : (∀ c ∈ tl (sdoc x).1, P c) ∧ ∀ c ∈ tl (sdoc x).2, P c := by
  have hnil : ∀ c ∈ tl (Str.ofString ""), P c := fun c hc => by rw [nil_tl] at hc; cases hc
  have hnl : ∀ c ∈ tl (Str.ofString "\n"), P c := fun c hc => by rw [nl_tl, List.mem_singleton] at hc; rw [hc]; exact h10
  unfold sdoc
  generalize Txt.split (Txt.strip x) (Str.ofString "\n") = ls at h
  have h0 : ∀ c ∈ tl (ls.getD 0 (Str.ofString "")), P c := by
    cases ls with
    | nil => exact hnil
    | cons a r => exact h a (.head _)
  split
  · exact ⟨h0, hnil⟩
  · split
    · exact ⟨h0, join_P hnl fun t ht => h t (List.mem_of_mem_drop ht)⟩
    · exact ⟨hnil, join_P hnl h⟩
theorem J_len {s : List Nat} {ts : List Str} {n b : Nat} (h1 : ts.length ≤ n) (h2 : ∀ t ∈ ts, t.length ≤ b) : (J s ts).length ≤ n * (b + s.length) := by
  refine joinL_len (by rw [List.length_map]; exact h1) fun p hp => ?_
  obtain ⟨t, ht, rfl⟩ := List.mem_map.mp hp
  rw [tl_length]; exact h2 t ht
theorem back_J (b : Str) : ∀ hs : List Str, joinL [] ((hs.map fun h => b ++ h).map tl) = joinL (tl b) ([] :: hs.map tl)
  | [] => rfl
  | [h] => by
    show tl (b ++ h) = [] ++ tl b ++ tl h
    rw [tl_append]; rfl
  | h :: h' :: r => by
    show tl (b ++ h) ++ [] ++ joinL [] (((h' :: r).map fun h => b ++ h).map tl) = [] ++ tl b ++ joinL (tl b) (tl h :: tl h' :: r.map tl)
    rw [back_J b (h' :: r), tl_append, joinL_cons]
    show _ = [] ++ tl b ++ (tl h ++ tl b ++ joinL (tl b) (tl h' :: r.map tl))
    rw [show joinL (tl b) ([] :: (h' :: r).map tl) = [] ++ tl b ++ joinL (tl b) (tl h' :: r.map tl) from rfl]
    simp
theorem back_eq (b : Str) (hs : List Str) : backS b hs = Txt.join b (mkS [] :: hs) := by
  unfold backS
  rw [J_S, J_S, nil_tl]
  show mkS (joinL [] _) = mkS (joinL (tl b) (tl (mkS []) :: hs.map tl))
  rw [tl_S, back_J]
theorem split_ts {y : Str} {c : Nat} {s' : List Nat} (hy : tl y = c :: s') {ts : List Str} (hne : ts ≠ []) (hc : ∀ t ∈ ts, c ∉ tl t) : Txt.split (Txt.join y ts) y = ts := by
  cases ts with
  | nil => exact absurd rfl hne
  | cons t r =>
    have h := split_join (x := Txt.join y (t :: r)) hy (p := tl t) (ps := r.map tl) (fun q hq => ?_) (by rw [J_S, tl_S]; rfl)
    · rw [h]; exact (map_S (ts := t :: r) rfl).symm
    · rcases List.mem_cons.mp hq with rfl | hq
      · exact hc t (.head _)
      · obtain ⟨z, hz, rfl⟩ := List.mem_map.mp hq
        exact hc z (.tail _ hz)
theorem rep_ts {y z : Str} {c : Nat} {s' : List Nat} (hy : tl y = c :: s') {ts : List Str} (hne : ts ≠ []) (hc : ∀ t ∈ ts, c ∉ tl t) : rep1 (Txt.join y ts) y z = Txt.join z ts := by
  unfold rep1
  rw [split_ts hy hne hc]
theorem aeq_tl : tl (Str.ofString " a =") = [32, 97, 32, 61] := by decide +kernel
theorem a_S : mkS (trim sp [32, 97, 32]) = Str.ofString "a" := by decide +kernel
set_option maxHeartbeats 1000000 in
theorem plain_ok (x b : Str) (hx : x.length ≤ 20) (hcount : (tl x).count 61 ≤ 14) (hs : ∀ c ∈ tl x, c ≠ 10 ∧ c < 1114112) (hb : ∃ ws, tl b = 10 :: ws ++ [10] ∧ ws.length ≤ 2 ∧ ∀ c ∈ ws, c ∈ whiteL) (ts : List Str) (hts : ts.map tl = cut (tl x)) :
    PlainOK x b ts (solidS ts) (bodyS ts (solidS ts)) := by
  obtain ⟨c1, c2, c3, c4⟩ := cut_facts (tl x)
  rw [← hts] at c1 c2 c3 c4
  have hne : ts ≠ [] := fun e => c1 (by rw [e]; rfl)
  have h61 : ∀ t ∈ ts, 61 ∉ tl t := fun t ht => c2 _ (List.mem_map_of_mem ht)
  have hsub : ∀ t ∈ ts, ∀ c ∈ tl t, c ∈ tl x := fun t ht c hc => by rw [← c3]; exact part_mem (List.mem_map_of_mem ht) c hc
  have hn : No10 ts := fun t ht c hc => (hs c (hsub t ht c hc)).1
  have hgood : ∀ t ∈ ts, ∀ c ∈ tl t, c < 1114112 := fun t ht c hc => (hs c (hsub t ht c hc)).2
  have hlen : ts.length ≤ 15 := by rw [List.length_map] at c4; omega
  have hlong : ∀ t ∈ ts, t.length ≤ 20 := fun t ht => Nat.le_trans ((texts_few hts (Nat.le_refl _)).2 t ht) hx
  have hxj : x = Txt.join (Str.ofString "=") ts := tl_ext (by rw [J_S, tl_S, eq_tl]; exact c3.symm)
  obtain ⟨ws, hbe, hbl, hbw⟩ := hb
  have E : Edge b ws := ⟨hbe, List.all_eq_true.mpr fun c hc => by
      show Unicode.isSpace c = true
      rw [space_eq, Bool.or_eq_true]
      exact .inl (decide_eq_true (hbw c hc)), fun hm => white_not_nl 10 (hbw 10 hm) rfl, hbl⟩
  have hb4 : b.length ≤ 4 := by rw [← tl_length, hbe]; simp; omega
  have hbgood : ∀ c ∈ tl b, c < 1114112 := by
    intro c hc
    rw [hbe, List.cons_append] at hc
    rcases List.mem_cons.mp hc with rfl | hc
    · decide
    · rcases List.mem_append.mp hc with hc | hc
      · exact (white_facts c (hbw c hc)).2.1
      · rw [List.mem_singleton.mp hc]; decide
  have hb61 : 61 ∉ tl b := by
    intro hm
    rw [hbe, List.cons_append] at hm
    rcases List.mem_cons.mp hm with h | h
    · cases h
    · rcases List.mem_append.mp h with h | h
      · exact (white_facts 61 (hbw 61 h)).2.2 rfl
      · have := List.mem_singleton.mp h; cases this
  -- the body
  rw [body_eq]
  have hbn : No10 (bodyR ts) := body_chars hn hn
  have hbT := tr_body hn
  have hbgd := body_chars hn hgood
  have hb61' : ∀ t ∈ bodyR ts, 61 ∉ tl t := fun t ht hm => body_chars (P := fun c => c ≠ 61) hn (fun t ht c hc e => h61 t ht (e ▸ hc)) t ht 61 hm rfl
  have hbf := body_few (ts := ts) hlen hlong
  rw [body_eq] at hbf
  -- the replaced texts
  have e1 : rep1 x (Str.ofString "=") (Str.ofString "==") = Txt.join (Str.ofString "==") ts := by rw [hxj]; exact rep_ts eq_tl hne h61
  have e2 : rep1 (rep1 x (Str.ofString "=") (Str.ofString "==")) (Str.ofString "==") b = Txt.join b ts := by rw [e1]; exact rep_ts eqeq_tl hne h61
  have e3 : rep1 x (Str.ofString "=") (Str.ofString "\n") = Txt.join (Str.ofString "\n") ts := by rw [hxj]; exact rep_ts eq_tl hne h61
  have hjl : ∀ y : Str, y.length ≤ 4 → (Txt.join y ts).length ≤ 1000 := fun y hy => by
    rw [J_S, S_len]
    refine Nat.le_trans (J_len hlen hlong) ?_
    rw [tl_length]
    omega
  have hkl : (solidS ts).length ≤ 15 := Nat.le_trans (solid_len ts) hlen
  -- the heads
  have hhd : ∀ h ∈ headsS (bodyR ts) (solidS ts), ∃ t, h = headS t ∧ (∀ c ∈ tl t, c ≠ 10) ∧ (∀ c ∈ tl t, c < 1114112) ∧ 61 ∉ tl t ∧ t.length ≤ 20 := by
    intro h hh
    obtain ⟨k, _, rfl⟩ := List.mem_map.mp hh
    have hempty : ∀ c, c ∉ tl Str.empty := fun c hc => nomatch hc
    exact ⟨_, rfl, getD_P (P := fun t => ∀ c ∈ tl t, c ≠ 10) hbn (fun c hc => absurd hc (hempty c)) k, getD_P (P := fun t => ∀ c ∈ tl t, c < 1114112) hbgd (fun c hc => absurd hc (hempty c)) k,
      getD_P (P := fun t => 61 ∉ tl t) hb61' (hempty 61) k, getD_P (P := fun t => t.length ≤ 20) hbf.2 (Nat.zero_le _) k⟩
  have hhl : (headsS (bodyR ts) (solidS ts)).length ≤ 15 := by rw [show (headsS (bodyR ts) (solidS ts)).length = (solidS ts).length from List.length_map _]; exact hkl
  generalize hhs : headsS (bodyR ts) (solidS ts) = hds at hhd hhl
  have hd10 : ∀ h ∈ hds, 10 ∉ tl h := fun h hh hm => by
    obtain ⟨t, rfl, h1, _⟩ := hhd h hh
    exact h1 10 (head_mem h1 10 hm) rfl
  have hd61 : ∀ h ∈ hds, 61 ∉ tl h := fun h hh hm => by
    obtain ⟨t, rfl, h1, _, h3, _⟩ := hhd h hh
    exact h3 (head_mem h1 61 hm)
  have hdgd : ∀ h ∈ hds, ∀ c ∈ tl h, c < 1114112 := fun h hh c hc => by
    obtain ⟨t, rfl, h1, h2, _⟩ := hhd h hh
    exact h2 c (head_mem h1 c hc)
  have hdln : ∀ h ∈ hds, h.length ≤ 20 := fun h hh => by
    obtain ⟨t, rfl, _, _, _, h4⟩ := hhd h hh
    exact Nat.le_trans (headS_len t) h4
  have hdne : mkS [] :: hds ≠ [] := by simp
  have hdc : ∀ (d : Nat), (∀ h ∈ hds, d ∉ tl h) → ∀ h ∈ mkS [] :: hds, d ∉ tl h := fun d hd h hh => by
    rcases List.mem_cons.mp hh with rfl | hh
    · rw [tl_S]; simp
    · exact hd h hh
  have f1 : backS b hds = Txt.join b (mkS [] :: hds) := back_eq b hds
  have f2 : rep1 (backS b hds) b (Str.ofString "==") = Txt.join (Str.ofString "==") (mkS [] :: hds) := by
    rw [f1]; exact rep_ts (by rw [hbe, List.cons_append]) hdne (hdc 10 hd10)
  have f3 : rep1 (rep1 (backS b hds) b (Str.ofString "==")) (Str.ofString "==") (Str.ofString "=") = Txt.join (Str.ofString "=") (mkS [] :: hds) := by
    rw [f2]; exact rep_ts eqeq_tl hdne (hdc 61 hd61)
  have hdl : ∀ y : Str, y.length ≤ 4 → (Txt.join y (mkS [] :: hds)).length ≤ 1000 := fun y hy => by
    rw [J_S, S_len]
    refine Nat.le_trans (J_len (n := 16) (b := 20) (by rw [List.length_cons]; omega) (fun t ht => ?_)) ?_
    · rcases List.mem_cons.mp ht with rfl | ht
      · exact Nat.zero_le _
      · exact hdln t ht
    · rw [tl_length]
      omega
  have bare_ts : ts.map bareS = (ts.map tl).map fun q => mkS (trim sp q) := by
    rw [List.map_map]
    exact List.map_congr_left fun t ht => bare_eq (hn t ht)
  have bare_hs : hds.map bareS = (hds.map tl).map fun q => mkS (trim sp q) := by
    rw [List.map_map]
    exact List.map_congr_left fun t ht => bare_eq fun c hc e => hd10 t ht (e ▸ hc)
  have ok_bare : ∀ t : Str, (∀ c ∈ tl t, c < 1114112) → PyData.strOk (bareS t) = true := fun t h => strOk_of fun c hc => by
    rw [bareS_tl] at hc
    unfold trim at hc
    exact h c ((List.dropWhile_sublist wb).subset (rt_sub c hc))
  -- the rows
  have hrw := rows_eq hn
  have hrne := rows_ne (bodyR ts)
  have hr61 : ∀ t ∈ rowsR (bodyR ts), 61 ∉ tl t := fun t ht hm => rows_P (P := fun c => c ≠ 61) hbn (fun t ht c hc e => hb61' t ht (e ▸ hc)) t ht 61 hm rfl
  have hrgd := rows_P (P := fun c => c < 1114112) hbn hbgd
  have hrl := rows_len hbf.2
  have h10 : [10].all sp = true := by decide +kernel
  have hlines : Txt.split (Txt.strip (Txt.join (Str.ofString "\n") ts)) (Str.ofString "\n") = rowsR (bodyR ts) := by
    refine lines_eq (bodyR ts) _ hbn hbT ?_
    rw [J_S, strip_S, nl_tl, trim_of_rt (rt_body h10 hn)]
  refine ⟨?_, ?_, hb4, ?_, ?_, ?_, ?_, ?_, ?_, ?_, ?_, ?_, ?_, ?_, ?_, ?_, ?_, ?_⟩
  · rw [e1]; exact hjl _ (by decide)
  · rw [e2]; exact hjl b hb4
  · rw [beq_eq_false_iff_ne, ← tl_length, hbe]; simp
  · rw [e2, pairs_eq b hn]
    refine steps_eq E (bodyR ts) 16 _ hbn hbT ?_ ?_
    · have := List.length_filter_le so (bodyR ts)
      omega
    · rw [J_S, strip_S, trim_of_rt (rt_body E.blank hn)]
  · rw [hhs]; exact fun h hh => strOk_of (hdgd h hh)
  · intro k _
    refine strOk_of (join_P hbgood fun t ht => hbgd t (List.mem_of_mem_drop ht))
  · cases hps : ts.map tl with
    | nil => exact absurd hps c1
    | cons p0 ps0 =>
      rw [hps] at c2 c3
      have hl2 : (p0 :: ps0).length ≤ 15 := by rw [← hps, List.length_map]; exact hlen
      rw [names_raw (p := [32, 97, 32]) (q := p0) (ps := ps0) (fun z hz => ?_) (by rw [List.length_cons]; omega) (by rw [tl_append, aeq_tl, ← c3]; rfl), bare_ts, hps, List.map_cons, a_S]
      rcases List.mem_cons.mp hz with rfl | hz
      · decide
      · exact c2 z hz
  · exact fun t ht => ok_bare t (hgood t ht)
  · rw [hhs, f1]; exact hdl b hb4
  · rw [hhs, f2]; exact hdl _ (by decide)
  · rw [hhs, f3]; exact hdl _ (by decide)
  · rw [hhs, f3]
    cases hds with
    | nil =>
      have e0 : Txt.join (Str.ofString "=") [mkS []] = mkS [] := by rw [J_S]; rfl
      rw [e0]
      show (match Txt.splitMax (mkS []) (Str.ofString "=") 1 with | [a, b] => Txt.strip a :: namesL 15 (Txt.strip b) | _ => [mkS []]) = _
      rw [sm_none (by rw [tl_S]; simp)]
      show [mkS []] = [Str.ofString ""]
      rw [S_nil]
    | cons h0 hr =>
      rw [names_raw (p := []) (q := tl h0) (ps := hr.map tl) (fun z hz => ?_) (by simp only [List.length_cons, List.length_map] at hhl ⊢; omega) (by rw [J_S, tl_S, eq_tl]; rfl), bare_hs]
      · rw [List.map_cons]
        show mkS (trim sp []) :: _ = _
        rw [show trim sp [] = [] from rfl, S_nil]
        rfl
      · rcases List.mem_cons.mp hz with rfl | hz
        · simp
        · have : z ∈ (h0 :: hr).map tl := hz
          obtain ⟨y, hy, rfl⟩ := List.mem_map.mp this
          exact hd61 y hy
  · rw [hhs]; exact fun h hh => ok_bare h (hdgd h hh)
  · rw [e3]; exact hjl _ (by decide)
  · rw [hrw, e3]; exact lone_eq hrne hr61 hlines
  · rw [hrw, J_S, S_len]
    refine Nat.le_trans (J_len (n := 16) (b := 20) ?_ (fun t ht => hrl.2 t (List.mem_of_mem_drop ht))) ?_
    · rw [List.length_drop]
      have := hrl.1
      have := hbf.1
      omega
    · rw [eq_tl]; decide
  · rw [e3]
    have := sdoc_P (P := fun c => c < 1114112) (x := Txt.join (Str.ofString "\n") ts) (by decide) (by rw [hlines]; exact hrgd)
    exact ⟨strOk_of this.1, strOk_of this.2⟩
end Mine
end


section
open PySem PySem.W PyProof.Rows PySem.Calls
set_option Elab.async false
set_option maxRecDepth 100000
namespace Mine
local macro_rules | `(tactic| walk_at "eval ListComp") => `(tactic| (with_reducible refine Stop.intro ?_))
local macro_rules | `(tactic| walk_at "CompSrc") => `(tactic| (with_reducible refine Stop.intro ?_))
theorem int_item {ys : List Value} {ks : List Int} {i : Nat} {v : Value} (h : IntsAre ys ks) (hv : ys.toArray[i]? = some v) : ∃ (k : Int) (t : Tok), v = .int k t ∧ ks[i]? = some k := by
  obtain ⟨z, t, e, hz⟩ := IntsAre.at h i v (by simpa using hv)
  exact ⟨z, t, e, hz⟩
theorem edge_at {ns : List Int} {i : Nat} {k : Int} (h : (ns.take 2)[i]? = some k) : ((ns.take 2).map fun n => Txt.item white (n.fmod 28)).getD i Str.empty = Txt.item white (k.fmod 28) := by
  rw [List.getD_eq_getElem?_getD, List.getElem?_map, h]; rfl
theorem edge_items (ns : List Int) : ∀ t ∈ (ns.take 2).map fun n => Txt.item white (n.fmod 28), ∃ c, t = ⟨#[c]⟩ ∧ c ∈ whiteL := by
  intro t ht
  obtain ⟨n, _, rfl⟩ := List.mem_map.mp ht
  exact item_in (Int.fmod_nonneg_of_pos n (by decide)) (Int.fmod_lt_of_pos n (by decide))
theorem one_long {ts : List Str} {P : Nat → Prop} (h : ∀ t ∈ ts, ∃ c, t = ⟨#[c]⟩ ∧ P c) : ∀ a ∈ ts, a.length ≤ 1 := by
  intro a ha
  obtain ⟨c, rfl, _⟩ := h a ha
  exact Nat.le_refl 1
theorem edge_fit {y e : Str} (he : (Str.ofString "\n" ++ y) ++ Str.ofString "\n" = e) (h : EdgeOK e) : (Str.ofString "\n").length + y.length ≤ sizeLine ∧ (Str.ofString "\n" ++ y).length + (Str.ofString "\n").length ≤ sizeLine := by
  obtain ⟨ws, h1, h2, _⟩ := h
  have hl : e.length ≤ 4 := by rw [← tl_length, h1]; simp; omega
  rw [← he, ← tl_length, tl_append, tl_append, List.length_append, List.length_append, tl_length, tl_length] at hl
  rw [← tl_length (_ ++ _), tl_append, List.length_append, tl_length, tl_length, sizeLine_eq]
  omega
theorem count_few {x : Str} (h : x.length ≤ 10) : (tl x).count 61 ≤ 14 := by
  have := List.count_le_length (l := tl x) (a := 61)
  rw [tl_length] at this
  omega
theorem count_more {x : Str} (h : x.length ≤ 10) : (tl (x ++ Str.ofString "a = b== c ")).count 61 ≤ 14 := by
  have e : tl (Str.ofString "a = b== c ") = [97, 32, 61, 32, 98, 61, 61, 32, 99, 32] := by decide +kernel
  have := List.count_le_length (l := tl x) (a := 61)
  rw [tl_length] at this
  rw [tl_append, e, List.count_append]
  have e2 : List.count 61 [97, 32, 61, 32, 98, 61, 61, 32, 99, 32] = 3 := by decide
  rw [e2]
  omega
theorem more_ok {x : Str} (h1 : x.length ≤ 10) (h2 : ∀ c ∈ tl x, SignOk c) : (x ++ Str.ofString "a = b== c ").length ≤ 20 ∧ ∀ c ∈ tl (x ++ Str.ofString "a = b== c "), SignOk c := by
  have e : tl (Str.ofString "a = b== c ") = [97, 32, 61, 32, 98, 61, 61, 32, 99, 32] := by decide +kernel
  rw [← tl_length, tl_append, e]
  constructor
  · rw [List.length_append, tl_length]
    show x.length + 10 ≤ 20
    omega
  · intro c hc
    rcases List.mem_append.mp hc with hc | hc
    · exact h2 c hc
    · unfold SignOk
      simp only [List.mem_cons, List.not_mem_nil, or_false] at hc
      omega
local macro_rules | `(tactic| walk_at "call ref") => `(tactic| (k_here; (with_reducible show wpAny _ _ (PySem.call (Value.ref 179) [Value.int _ _, Value.str _ _]) _ _ _); k_dflt ((refine Gives.use (c_sign _ _ _) (by k_asm) (by k_asm) (by k_asm) (by k_asm) (by k_asm) (by rfl) trivial (by ktr_room) (by ktr_units) ?_); intro r' nw' h' tk' F' N' hne' ho'; obtain ⟨e1', c', t', e2', hc'⟩ := ho'; subst e1'; subst e2'; (try simp only [List.nil_append] at N'))))
set_option maxHeartbeats 1000000 in
theorem law_holds : PySem.Challenge.rw_il0157_01.Holds := by
  refine Mine.hd ?_
  w_top off
  intro w s₀ s₁ mg mb G Y fa o pm cd doc dV kV ho hd hcd hD hmg hg args vals as hpre hlay hrd hwl hlo
  have KX := kIn_of Y
  have X := (Ground.X G).1
  have V := (Ground.X G).2
  refine Ground.open G ?_
  intro T B D TE TW
  try (refine guard_noD D (by decide +kernel) ?_; clear D)
  obtain ⟨_, _, M⟩ := bmod_of_top T
  have TA := at_of_top T
  clear hmg
  wrow_args hpre hlay hrd hwl hlo
  have he := Dflts.none hD rfl
  subst he
  have he := Dflts.noKw hD
  subst he
  rename_i w7 w6 ns hs0 hlay0 hL1 hr1 hl2 w4 w3 sl vs w0 hL ra w1 r0 hI hr hc1 hc2
  refine wpAny_underV ?_ (law_end (fun _ _ e => e) (by assumption) rfl)
  refine callC_cells (by decide) ho (fd_plain hd) (Top.nolimit T) hcd (BindsTo.of_eq rfl) rfl (by decide +kernel) (fun h₁ tk₁ cells F N0 X0 => ?_)
  obtain ⟨oW, hE, dW⟩ := CellsAre.one X0
  subst hE
  clear X0
  have dW : oW.data = .cell none := dW
  have F1 : Fr s₁.heap s₁.heap.objs.size h₁ (fun y => if y = "script" then some (Value.ref sl) else none) := F
  clear F hd hD ho hcd TA M TE TW
  dsimp only
  have BB := below_caller s₁.heap
  refine wpC_execsA ?_
  k_steps
  rename_i h2 oW2 F2 N2 dW2
  clear dW
  refine wpC_execs (wpC_Assign (.of ?_))
  k_steps
  unfold Stop
  refine LCg.ListComp_U F2 (by with_unfolding_all rfl) (by decide) (by rfl) (by decide) (by rfl) ?_
  k_steps
  unfold Stop
  rename_i D3 ws h3 F3 N3 hws hc3 hl3 l3
  have hwn : ws.toArray.size = (ns.take 2).length := by rw [List.size_toArray, hws.length]
  refine LCg.CompSrc.ledger (by rfl) F3 N3 (.head _) (by rw [hwn]; exact sizeLine_ge (by omega)) (fun g4 => ?_)
  refine rest_text (ts := (ns.take 2).map fun n => Txt.item white (n.fmod 28)) (by rw [hwn]; exact List.length_map _) (.inr ⟨_, .head _, rfl, _, rfl⟩) (fun i v I oI C oC D m₂ qs h5 tk5 E5 hi hv5 hC hk5 F5 N5 off5 ne5 => ?_) (fun qs hqs => ?_)
  · obtain ⟨k5, t5, rfl, hk5'⟩ := int_item hws hv5
    have hb1 := Int.fmod_lt_of_pos k5 (show (0 : Int) < 28 by decide)
    have hb2 := Int.fmod_nonneg_of_pos k5 (show (0 : Int) < 28 by decide)
    k_steps
    exact TurnEnd.intro (by assumption) (by assumption) ⟨_, by rw [edge_at hk5']⟩
  · unfold LCg.FinE
    intro D6 h6 tk6 F6 N6 off6
    dsimp only
    k_steps
    have hen : ((ns.take 2).map fun n => Txt.item white (n.fmod 28)).length ≤ 2 := by rw [List.length_map, List.length_take]; omega
    have hei : ∀ t ∈ (ns.take 2).map fun n => Txt.item white (n.fmod 28), ∃ c, t = ⟨#[c]⟩ ∧ c ∈ whiteL := edge_items ns
    have hE := edge_ok hen hei
    refine join_ts (News.isList N6 (.head _)) hqs (joinOk_few' (n := 2) (k := 1) (b := 4) hen (one_long hei) (by decide)) (fun t7 k7 => ?_)
    generalize hed : (Str.ofString "\n" ++ Txt.join (Str.ofString "") ((ns.take 2).map fun n => Txt.item white (n.fmod 28))) ++ Str.ofString "\n" = edge at hE
    have hfit := edge_fit hed hE
    dsimp only
    refine SB.add (fun t8 k8 => ?_) hfit.1
    dsimp only
    k_steps
    rename Fr _ _ _ _ => F10
    rename News _ _ _ _ => N10
    rw [hed] at F10
    clear hed hfit hei hen off6 hqs
    refine wpC_execs (wpC_Assign (.of ?_))
    k_steps
    unfold Stop
    refine LCg.ListComp_U F10 (by with_unfolding_all rfl) (by decide) (by rfl) (by decide) (by rfl) ?_
    k_steps
    unfold Stop
    rename_i D11 ws11 h11 F11 N11 hws11 hc11 hl11 l11
    have hwn11 : ws11.toArray.size = (ns.take 10).length := by rw [List.size_toArray, hws11.length]
    refine LCg.CompSrc.ledger (by rfl) F11 N11 (.head _) (by rw [hwn11]; exact sizeLine_ge (by omega)) (fun g12 => ?_)
    refine rest_texts (fun z => ∃ c, z = ⟨#[c]⟩ ∧ SignOk c) (.inr ⟨_, .head _, rfl, _, rfl⟩) (fun i v I oI C oC D m₂ qs h13 tk13 E13 hi hv13 hC hk13 F13 N13 off13 ne13 => ?_) (fun qs ts hqs hts htc => ?_)
    · obtain ⟨k13, t13, rfl, hk13'⟩ := int_item hws11 hv13
      k_steps
      exact TurnEnd.intro (by assumption) (by assumption) ⟨_, _, rfl, _, rfl, by assumption⟩
    · unfold LCg.FinE
      intro D14 h14 tk14 F14 N14 off14
      dsimp only
      k_steps
      have hlen : ts.length ≤ 10 := by rw [hts, hwn11, List.length_take]; exact Nat.min_le_left _ _
      have hS := signs_ok hlen htc
      refine join_ts (News.isList N14 (.head _)) hqs (joinOk_few' (n := 10) (k := 1) (b := 4) hlen (one_long htc) (by decide)) (fun t15 k15 => ?_)
      generalize Txt.join (Str.ofString "") ts = drawn at hS ⊢
      clear hqs hts htc hlen off14
      dsimp only
      k_steps
      rename Fr _ _ _ _ => F15
      rename News _ _ _ _ => N15
      have N16 : News s₁.heap s₁.heap.objs.size _ [(s₁.heap.objs.size + 1, oW2)] := N15.perm (fun p hp => .tail _ (.tail _ (.tail _ (.tail _ hp))))
      clear N15
      have hTE : mg "TypeError" = none := T.free "TypeError" (by decide +kernel) (by decide +kernel) (by decide +kernel) (by decide +kernel) (by decide +kernel)
      refine wpC_execs (wpC_Return (wpC_And2 (wpC_Call ?_)))
      k_steps
      refine wpC_callK (K := hd.heap_39 w.params) KX (by kernel_rfl) ?_
      k_steps
      refine wpC_call ?_
      rename Fr _ _ _ _ => F16
      rename News _ _ _ _ => N17
      refine c_agreeAll (cn := "law") drawn edge _ _ _ (Nat.le_trans hS.1 (by decide)) (plain_ok drawn edge (Nat.le_trans hS.1 (by decide)) (count_few hS.1) hS.2 hE) BB F16 KX N17 T hTE (Nat.le_refl _) rfl (by ktr_room) (by ktr_units) (fun h17 tk17 g17 F17 N18 B17 up17 => ?_)
      clear F16 N17
      have X17 := KX.keeps B17.stays
      have T17 := T.keeps B17.stays
      dsimp only
      k_steps
      refine wpC_Call ?_
      k_steps
      refine wpC_callK (K := hd.heap_39 w.params) X17 (by kernel_rfl) ?_
      k_steps
      have hS2 := more_ok hS.1 hS.2
      rename Fr _ _ _ _ => F20
      rename News _ _ _ _ => N20
      refine wpC_call ?_
      refine c_agreeAll (cn := "law") (drawn ++ Str.ofString "a = b== c ") edge _ _ _ hS2.1 (plain_ok _ edge hS2.1 (count_more hS.1) hS2.2 hE) B17 F20 KX N20 T hTE (Nat.le_refl _) rfl (by ktr_room) (by ktr_units) (fun h21 tk21 g21 F21 N21 B21 up21 => ?_)
      exact law_end (fun b o e => F21.keep b o (B21.stays b o e)) (by assumption) rfl
end Mine
end
theorem PySem.Challenge.cw_il0157_01_holds : PySem.Challenge.rw_il0157_01.Holds :=
  Mine.law_holds
