import PyProof.Rows.All
import Wide.All
import OpenK.AllK
import Wide.FinOn
import PySem.Sre
import KE.KLcPair
import KE.KxPercent
import PyProof.StrWalks
import KE.KLcTest
import PySem.Challenge.RW_sw0068_03
set_option Elab.async false
set_option maxRecDepth 100000
set_option maxHeartbeats 8000000
section
open PySem PySem.W PyProof.Rows
open_top hd03 for PySem.Challenge.rw_sw0068_03
end
theorem Mine.top_off : True := by
  w_top off
  trivial
section
open PySem PySem.W PyProof.Rows PySem.Calls
local macro_rules | `(tactic| k_room) => `(tactic| ktr_room)
local macro_rules | `(tactic| k_units) => `(tactic| first | exact Nat.le_of_ble_eq_true rfl | ktr_units)
section
namespace Mine
open PySem

noncomputable def okc (c : Nat) : Bool := (65 ≤ c && c ≤ 90) || (97 ≤ c && c ≤ 122)
noncomputable def nameCode : Array Nat := #[14, 10, 4, 1, 1, 22, 0, 31, 16, 127, 0, 13, 7, 22, 0, 31, 16, 127, 0, 1]
noncomputable def valueCode : Array Nat := #[14, 14, 4, 1, 1, 9, 4294966783, 0, 0, 2147483648, 0, 0, 0, 0, 0, 13, 11, 9, 4294966783, 0, 0, 2147483648, 0, 0, 0, 0, 0, 1]

theorem inSet_name {c : Nat} (h : okc c = true) (seen : Sre.Seen) : ∃ seen', Sre.inSet nameCode c nameCode.size 5 true seen = .ok (false, seen') := by
  simp only [okc, Bool.or_eq_true, Bool.and_eq_true, decide_eq_true_eq] at h
  refine ⟨((seen.add 22).add 16).add 0, ?_⟩
  show Sre.inSet nameCode c 20 5 true seen = _
  have e1 : (decide (0 ≤ c) && decide (c ≤ 31)) = false := by
    rw [Bool.and_eq_false_iff]; right; exact decide_eq_false (by omega)
  have e2 : (c == 127) = false := beq_false_of_ne (by omega)
  show (if (decide (0 ≤ c) && decide (c ≤ 31)) = true then _ else if (c == 127) = true then _ else Except.ok (!true, ((seen.add 22).add 16).add 0)) = _
  rw [e1, e2]; rfl

theorem inSet_value {c : Nat} (h : okc c = true) (seen : Sre.Seen) : ∃ seen', Sre.inSet valueCode c valueCode.size 5 true seen = .ok (false, seen') := by
  refine ⟨(seen.add 9).add 0, ?_⟩
  have e : (decide (c < 256) && (valueCode.getD (5 + (1 + c / 32)) 0).testBit (c % 32)) = false := by
    simp only [okc, Bool.or_eq_true, Bool.and_eq_true, decide_eq_true_eq] at h
    have : ∀ c : Fin 123, 65 ≤ c.val → (decide (c.val < 256) && (valueCode.getD (5 + (1 + c.val / 32)) 0).testBit (c.val % 32)) = false := by decide +kernel
    exact this ⟨c, by omega⟩ (by show 65 ≤ c; omega)
  show (if (decide (c < 256) && (valueCode.getD (5 + (1 + c / 32)) 0).testBit (c % 32)) = true then _ else Except.ok (!true, (seen.add 9).add 0)) = _
  rw [e]; rfl

theorem admitted_none {m : Sre.M} (hs : ∀ i, i < m.lim → ∀ seen, ∃ seen', Sre.inSet m.code (m.text.getD i 0) m.code.size 5 true seen = .ok (false, seen')) :
    ∀ fuel s seen, ∃ seen', Sre.M.admitted m fuel s seen = .ok (none, seen') := by
  intro fuel
  induction fuel with
  | zero => intro s seen; exact ⟨seen, rfl⟩
  | succ n ih =>
    intro s seen
    unfold Sre.M.admitted
    by_cases h : s ≥ m.lim
    · rw [if_pos h]; exact ⟨seen, rfl⟩
    · rw [if_neg h]
      obtain ⟨seen', e⟩ := hs s (by omega) seen
      rw [e]
      exact ih _ _

theorem search_fails {code text : Array Nat} (groups : Nat) (hc : code = nameCode ∨ code = valueCode) (ht : ∀ i, i < text.size → okc (text.getD i 0) = true) :
    ((Sre.forSearch code text groups 0 text.size false).runFor 4).outcome = some .failed := by
  have hin : ∀ i, i < text.size → ∀ seen, ∃ seen', Sre.inSet code (text.getD i 0) code.size 5 true seen = .ok (false, seen') := fun i hi seen => by
    rcases hc with rfl | rfl
    · exact inSet_name (ht i hi) seen
    · exact inSet_value (ht i hi) seen
  have hhead : Sre.header code = (1, (Sre.header code).2) := by rcases hc with rfl | rfl <;> rfl
  have key : ∃ m : Sre.M, Sre.forSearch code text groups 0 text.size false = m.say false ∧ m.outcome = none ∧ m.frames = [] := by
    unfold Sre.forSearch
    dsimp only
    split
    · exact ⟨_, rfl, rfl, rfl⟩
    · unfold Sre.M.attemptFrom
      rw [if_neg (by rcases hc with rfl | rfl <;> exact Bool.false_ne_true)]
      split
      · rename_i s seen heq
        exfalso
        obtain ⟨seen', e⟩ := admitted_none (m := _) hin _ _ _ |>.imp fun _ e => e.symm.trans heq |>.symm
        cases e
      · exact ⟨_, rfl, rfl, rfl⟩
      · rename_i why heq
        exfalso
        obtain ⟨seen', e⟩ := admitted_none (m := _) hin _ _ _ |>.imp fun _ e => e.symm.trans heq |>.symm
        cases e
  obtain ⟨m, e, ho, hf⟩ := key
  rw [e]
  have h1 : (m.say false).step = { m.say false with outcome := some .failed } := by
    unfold Sre.M.step
    rw [if_neg (by show ¬ (m.outcome.isSome = true); rw [ho]; exact Bool.false_ne_true)]
    show (match some false, m.frames with | some yes, [] => _ | some yes, f :: rest => _ | none, _ => _ : Sre.M) = _
    rw [hf]; rfl
  have h0 : (m.say false).runFor 4 = ((m.say false).step).runFor 3 := by
    show (if (m.say false).outcome.isSome = true then _ else _ : Sre.M) = _
    rw [if_neg (by show ¬ (m.outcome.isSome = true); rw [ho]; exact Bool.false_ne_true)]
  rw [h0, h1]
  rfl
end Mine
end
section
namespace Mine
open PySem PySem.Calls PySem.Builtin PyProof.Rows

theorem plainAttrs_pat : PlainAttrs "re.Pattern" :=
  ⟨⟨"object.__getattribute__", by rw [typeLookup_type, builtinLookup_eq_fast]; kernel_rfl, by decide +kernel⟩, by rw [typeLookup_type, builtinLookup_eq_fast]; kernel_rfl⟩
theorem slot_search : Slot "re.Pattern" "search" "re.Pattern.search" :=
  .of (owner := "re.Pattern") (n := "search") (by rw [typeLookup_type, builtinLookup_eq_fast]; kernel_rfl) (by decide +kernel) (by decide +kernel) (by decide +kernel)
    (by first | exact .inl (by decide +kernel) | exact .inr (by decide +kernel)) (by rw [isSubtype_type]; kernel_rfl)
theorem type_search : typeOf (.builtin "re.Pattern.search") = pure (.type "method_descriptor") := by show builtinType _ = _; rw [builtinType_eq_fast]; kernel_rfl
theorem entry_search : entryFor table "re.Pattern.search" = some Builtin.«re.Pattern.search» := entryFor_of_fast (by kernel_rfl)
theorem args_search (a b : Value) : argsOk "re.Pattern.search" ⟨[a, b], []⟩ := by unfold argsOk; kernel_rfl

end Mine
end
section
namespace Mine
open PySem PySem.Calls PySem.Builtin PyProof.Rows

open PySem.Builtin.Re in
theorem search_rule {prog : Program} {w : World} {A : Around} {E : Value → Shared → Prop} {s : Shared} {Q : Value → Shared → Prop} {P T : Addr} {fs ws : Array Value} {n : Nat} {x : Str} {t : Tok} {code : Array Nat}
    (h1 : s.heap.get? P = some { cls := .type "re.Pattern", data := .fields fs }) (h5 : fs.getD 5 .none = .ref T) (h6 : reRawNat (fs.getD 6 .none) = 0)
    (hT : s.heap.get? T = some { cls := .type "tuple", data := .seq ws n }) (hcode : (ws.map reRawOf).map (·.toNat) = code) (hc : code = nameCode ∨ code = valueCode)
    (hl : x.cps.size ≤ 1048576) (hx : ∀ i, i < x.cps.size → okc (x.cps.getD i 0) = true) (h : Q .none s) :
    wpAny (model prog w) A (call (.builtin "re.Pattern.search") [.ref P, .str x t]) Q E s := by
  refine wpAny_call_entry slot_search ⟨_, h1, rfl⟩ entry_search ?_ (args_search _ _)
  unfold Builtin.«re.Pattern.search»
  have hlim : min ((2 ^ 63 - 1 : Int)).toNat x.cps.size = x.cps.size := by omega
  have hfail := search_fails (code := code) (text := x.cps) (reRawNat (fs.getD 2 .none)) hc hx
  have target : ∀ {R : ReTarget → Shared → Prop}, R { pattern := .ref P, string := .str x t, code := code, text := x.cps, kind := 0, groups := reRawNat (fs.getD 2 .none), pos := 0, lim := x.cps.size } s →
      wpAny (model prog w) A.in1 (reTarget "re.Pattern.search" "search" ⟨[.ref P, .str x t], []⟩) R E s := by
    intro R hR
    unfold reTarget
    have hni : reNoCollectionInside (.str x t) 0 = pure () := rfl
    have hn : reNamed "re.Pattern.search" "search" ["string", "pos", "endpos"] 1 [.str x t] [] = pure [some (.str x t), none, none] := by rfl
    dsimp only
    rw [hn]
    refine wpAny_bind (wpAny_pure ?_)
    refine wpAny_bind (wpAny_pure ?_)
    refine wpAny_bind (wpAny_pure ?_)
    refine wpAny_bind (wpAny_fieldsOf h1 rfl ?_)
    refine wpAny_bind (m := reTextOf (.str x t)) (wpAny_pure ?_)
    dsimp only
    rw [h6]
    refine wpAny_bind ?_
    rw [hni]
    refine wpAny_pure (wpAny_bind ?_)
    rw [h5]
    unfold reRawItems
    refine wpAny_bind (wpAny_seqItems hT rfl (wpAny_pure (wpAny_pure ?_)))
    have e0 : Min.min (Int.toNat 0) x.cps.size = 0 := Nat.zero_min _
    rw [hlim, e0]
    show R { pattern := .ref P, string := .str x t, code := (ws.map reRawOf).map (·.toNat), text := x.cps, kind := 0, groups := reRawNat (fs.getD 2 .none), pos := 0, lim := x.cps.size } s
    rw [hcode]
    exact hR
  refine wpAny_bind (target ?_)
  dsimp only
  unfold reAnswer reRunToEnd
  refine wpAny_bind (wpAny_bind (m := reDrive (2 ^ 64) _) ?_)
  show wpAny _ _ (reDrive (18446744073709551615 + 1) _) _ _ _
  unfold reDrive
  dsimp only
  rw [show reTurnSteps = 4 from rfl, if_pos (by rw [hfail]; rfl)]
  refine wpAny_pure (wpAny_bind ?_)
  refine wpAny_mono (wpAny_forIn_list _ (fun _ _ s' => s' = s) (fun _ s' => s' = s) (fun i rest b s' e => ?_) (fun _ _ e => e) _ _ rfl) (fun _ s' e => ?_) fun _ _ e => e
  · subst e
    split
    · exact wpAny_bind (wpAny_rule (wpAny_pure rfl))
    · exact wpAny_pure rfl
  · subst e
    rw [hfail]
    exact wpAny_pure (wpAny_pure ⟨_, rfl, h⟩)
end Mine
end
section
namespace Mine
open PySem PySem.Calls PySem.Builtin PyProof.Rows PySem.W

noncomputable def okS (x : Str) : Prop := x.cps.size ≤ 1048576 ∧ ∀ i, i < x.cps.size → okc (x.cps.getD i 0) = true
theorem okS_len {x : Str} (h : okS x) : x.length ≤ 1048576 := h.1

section
variable {prog : Program} {w : World} {A : Around} {E : Value → Shared → Prop} {s : Shared} {K : Frag} {h₀ : Heap} {L : Addr} {m : Str → Option Value}
theorem search_method {P : Addr} {fs : Array Value} {pl : Sem Bool} {Q : Value × List Value → Shared → Prop} (F : Fr h₀ L s.heap m) (X : K.In h₀)
    (ho : K.lookup P = some { cls := .type "re.Pattern", dict := none, data := .fields fs, slots := #[] }) (h : Q (.builtin "re.Pattern.search", [.ref P]) s) :
    wpAny (model prog w) A (getMethod (.ref P) "search" pl) Q E s := by
  have h1 : s.heap.get? P = some { cls := .type "re.Pattern", dict := none, data := .fields fs, slots := #[] } := X.keeps F.keep _ _ ho
  exact getMethod_builtin (T := "re.Pattern") ⟨_, h1, rfl⟩ plainAttrs_pat slot_search type_search (fun a e => by cases e; exact ⟨_, h1, rfl⟩) h

theorem search_K {P T : Addr} {fs ws : Array Value} {n : Nat} {x : Str} {t : Tok} {Q : Value → Shared → Prop} (F : Fr h₀ L s.heap m) (X : K.In h₀)
    (ho : K.lookup P = some { cls := .type "re.Pattern", dict := none, data := .fields fs, slots := #[] }) (h5 : fs.getD 5 .none = .ref T) (h6 : Re.reRawNat (fs.getD 6 .none) = 0)
    (hT : K.lookup T = some { cls := .type "tuple", dict := none, data := .seq ws n, slots := #[] })
    (hc : (ws.map Re.reRawOf).map (·.toNat) = nameCode ∨ (ws.map Re.reRawOf).map (·.toNat) = valueCode) (hx : okS x) (h : Q .none s) :
    wpAny (model prog w) A (call (.builtin "re.Pattern.search") [.ref P, .str x t]) Q E s :=
  search_rule (X.keeps F.keep _ _ ho) h5 h6 (X.keeps F.keep _ _ hT) rfl hc hx.1 hx.2 h
end
end Mine
namespace Mine
open PySem PySem.Calls PySem.Builtin PyProof.Rows PySem.W
section
variable {prog : Program} {w : World} {A : Around} {E : Value → Shared → Prop} {s : Shared} {K : Frag} {h₀ : Heap} {L : Addr} {m : Str → Option Value}
theorem txt_join_one (x y : Str) : Txt.join x [y] = y := by
  show Builtin.Str.glued x [y] = y
  rw [StrLaws.glued_eq_join]
  rfl
theorem join_single {D : Addr} {x y : Str} {t ty : Tok} {Q : Value → Shared → Prop} (hl : s.heap.IsList D #[.str y ty]) (hy : y.length ≤ 1048576) (hx : x.length ≤ 64)
    (h : ∀ t' k, Q (.str y t') { s with toks := k }) : wpAny (model prog w) A (call (.builtin "str.join") [.str x t, .ref D]) Q E s :=
  join_list (ys := [y]) hl (.cons y ty .nil) (by simp only [List.map_cons, List.map_nil, List.sum_cons, List.sum_nil, List.length_cons, List.length_nil]; omega) (by rw [txt_join_one]; exact h)
end
end Mine
namespace Mine
open PySem PySem.Calls PySem.Builtin PyProof.Rows PySem.W
theorem news_drop2 {h₀ h : Heap} {L : Addr} {x y : Addr × Obj} {r : List (Addr × Obj)} (N : News h₀ L h (x :: y :: r)) : News h₀ L h (x :: r) := fun p hp => by
  rcases List.mem_cons.mp hp with rfl | hp
  · exact N _ List.mem_cons_self
  · exact N _ (List.mem_cons_of_mem _ (List.mem_cons_of_mem _ hp))
end Mine
namespace Mine
open PySem PySem.Calls PySem.Builtin PyProof.Rows PySem.W
noncomputable abbrev pairObj (k v : Str) (t1 t2 : Tok) : Obj := { cls := .type "tuple", data := .seq #[.str k t1, .str v t2] }
inductive PairsIn (news : List (Addr × Obj)) : List Value → List (Str × Str) → Prop
  | nil : PairsIn news [] []
  | cons {a : Addr} {k v : Str} {t1 t2 : Tok} {vs : List Value} {ps : List (Str × Str)} : (a, pairObj k v t1 t2) ∈ news → PairsIn news vs ps → PairsIn news (.ref a :: vs) ((k, v) :: ps)
theorem PairsIn.length {news : List (Addr × Obj)} {vs : List Value} {ps : List (Str × Str)} (h : PairsIn news vs ps) : vs.length = ps.length := by
  induction h with
  | nil => rfl
  | cons _ _ ih => simp [ih]
theorem PairsIn.get {news : List (Addr × Obj)} {vs : List Value} {ps : List (Str × Str)} (h : PairsIn news vs ps) {i : Nat} {v : Value} (hv : vs[i]? = some v) :
    ∃ a k x t1 t2, v = .ref a ∧ (a, pairObj k x t1 t2) ∈ news ∧ ps[i]? = some (k, x) := by
  induction h generalizing i with
  | nil => simp at hv
  | cons hm _ ih =>
    cases i with
    | zero => simp at hv; exact ⟨_, _, _, _, _, hv.symm, hm, rfl⟩
    | succ i => exact ih (by simpa using hv)
theorem PairsIn.mono {news news' : List (Addr × Obj)} (hs : ∀ p ∈ news, p ∈ news') {vs : List Value} {ps : List (Str × Str)} (h : PairsIn news vs ps) : PairsIn news' vs ps := by
  induction h with
  | nil => exact .nil
  | cons hm _ ih => exact .cons (hs _ hm) ih
theorem PairsIn.snoc {news : List (Addr × Obj)} {a : Addr} {k v : Str} {t1 t2 : Tok} {vs : List Value} {ps : List (Str × Str)} (h : PairsIn news vs ps) (hm : (a, pairObj k v t1 t2) ∈ news) :
    PairsIn news (vs ++ [.ref a]) (ps ++ [(k, v)]) := by
  induction h with
  | nil => exact .cons hm .nil
  | cons hm' _ ih => exact .cons hm' ih
end Mine
end
section
namespace Mine
open PySem PySem.Calls PySem.Builtin PySem.Builtin.Str PyProof.Rows PySem.W
noncomputable def lowC (c : Nat) : Nat := if 65 ≤ c ∧ c ≤ 90 then c + 32 else c
noncomputable def upC (c : Nat) : Nat := if 97 ≤ c ∧ c ≤ 122 then c - 32 else c
noncomputable def swC (c : Nat) : Nat := if 65 ≤ c ∧ c ≤ 90 then c + 32 else if 97 ≤ c ∧ c ≤ 122 then c - 32 else c
noncomputable def lowS (x : Str) : Str := ⟨x.cps.map lowC⟩
noncomputable def upS (x : Str) : Str := ⟨x.cps.map upC⟩
noncomputable def swS (x : Str) : Str := ⟨x.cps.map swC⟩

theorem placed_map {x : Str} {f : Nat → Nat → List Nat} {g : Nat → Nat} (h : ∀ i (hi : i < x.cps.size), f i x.cps[i] = [g x.cps[i]]) : placed x f = x.cps.map g := by
  unfold placed
  have e : x.cps.mapIdx (fun i c => (f i c).toArray) = x.cps.map (fun c => #[g c]) := by
    apply Array.ext
    · simp
    · intro i h1 h2
      simp only [Array.size_mapIdx] at h1
      simp [h i h1]
  rw [e]
  apply Array.toList_inj.mp
  rw [Array.toList_flatten, Array.toList_map, List.map_map]
  generalize x.cps = a
  rw [Array.toList_map]
  induction a.toList with
  | nil => rfl
  | cons c r ih => simp only [List.map_cons, List.flatten_cons, ih]; rfl

theorem cases_okc (P : Nat → Prop) (h1 : ∀ c : Fin 123, (65 ≤ c.val ∧ c.val ≤ 90) ∨ 97 ≤ c.val → P c.val) (c : Nat) (h : okc c = true) : P c := by
  simp only [okc, Bool.or_eq_true, Bool.and_eq_true, decide_eq_true_eq] at h
  exact h1 ⟨c, by omega⟩ (by show (65 ≤ c ∧ c ≤ 90) ∨ 97 ≤ c; omega)
theorem lowerOf_okc (c : Nat) (h : okc c = true) : Unicode.lowerOf c = [lowC c] := cases_okc (fun c => Unicode.lowerOf c = [lowC c]) (by decide +kernel) c h
theorem upperOf_okc (c : Nat) (h : okc c = true) : Unicode.upperOf c = [upC c] := cases_okc (fun c => Unicode.upperOf c = [upC c]) (by decide +kernel) c h
theorem isUpper_okc (c : Nat) (h : okc c = true) : Unicode.isUpper c = decide (c ≤ 90) := cases_okc (fun c => Unicode.isUpper c = decide (c ≤ 90)) (by decide +kernel) c h
theorem isLower_okc (c : Nat) (h : okc c = true) : Unicode.isLower c = decide (97 ≤ c) := cases_okc (fun c => Unicode.isLower c = decide (97 ≤ c)) (by decide +kernel) c h
theorem okc_bounds {c : Nat} (h : okc c = true) : (65 ≤ c ∧ c ≤ 90) ∨ (97 ≤ c ∧ c ≤ 122) := by
  simpa only [okc, Bool.or_eq_true, Bool.and_eq_true, decide_eq_true_eq] using h
theorem okc_of {c : Nat} (h : (65 ≤ c ∧ c ≤ 90) ∨ (97 ≤ c ∧ c ≤ 122)) : okc c = true := by
  simpa only [okc, Bool.or_eq_true, Bool.and_eq_true, decide_eq_true_eq] using h
theorem lowerAt_okc {t : Array Nat} {i : Nat} (hi : i < t.size) (h : okc t[i] = true) : Unicode.lowerAt t i = [lowC t[i]] := by
  unfold Unicode.lowerAt
  rw [Array.getElem?_eq_getElem hi]
  have hb := okc_bounds h
  have e : (t[i] == 0x3A3) = false := beq_false_of_ne (by omega)
  simp only [e, Bool.false_and, Bool.false_eq_true, if_false]
  exact lowerOf_okc _ h
theorem okS_get {x : Str} (h : okS x) {i : Nat} (hi : i < x.cps.size) : okc x.cps[i] = true := by
  have := h.2 i hi
  rwa [← Array.getElem_eq_getD (h := hi) 0] at this

theorem txt_lower {x : Str} (h : okS x) : Txt.lower x = lowS x := by
  show Str.mk (placed x _) = Str.mk _
  rw [placed_map (g := lowC) fun i hi => lowerAt_okc hi (okS_get h hi)]
theorem txt_swapcase {x : Str} (h : okS x) : Txt.swapcase x = swS x := by
  show Str.mk (placed x _) = Str.mk _
  rw [placed_map (g := swC) fun i hi => ?_]
  have hk := okS_get h hi
  have hb := okc_bounds hk
  rw [isUpper_okc _ hk, isLower_okc _ hk, lowerAt_okc hi hk, upperOf_okc _ hk]
  unfold lowC upC swC
  by_cases h1 : x.cps[i] ≤ 90
  · have h2 : 65 ≤ x.cps[i] := by omega
    simp [h1, h2]
  · have h2 : 97 ≤ x.cps[i] ∧ x.cps[i] ≤ 122 := by omega
    have h3 : ¬ (65 ≤ x.cps[i] ∧ x.cps[i] ≤ 90) := by omega
    simp [h1, h2, h3]
theorem okS_map {x : Str} {g : Nat → Nat} (hg : ∀ c, okc c = true → okc (g c) = true) (h : okS x) : okS ⟨x.cps.map g⟩ := by
  refine ⟨by simpa using h.1, fun i hi => ?_⟩
  have hi' : i < x.cps.size := by simpa using hi
  rw [← Array.getElem_eq_getD (h := by simpa using hi') 0]
  simp only [Array.getElem_map]
  exact hg _ (okS_get h hi')
theorem okS_low {x : Str} (h : okS x) : okS (lowS x) := okS_map (fun c hc => by have := okc_bounds hc; apply okc_of; unfold lowC; split <;> omega) h
theorem okS_sw {x : Str} (h : okS x) : okS (swS x) := okS_map (fun c hc => by have := okc_bounds hc; apply okc_of; unfold swC; split <;> (try split) <;> omega) h

section
variable {prog : Program} {w : World} {A : Around} {E : Value → Shared → Prop} {s : Shared} {x : Str} {t : Tok} {Q : Value → Shared → Prop}
theorem notLong {x : Str} (h : okS x) : tooLong x.length = false := by
  have := h.1
  unfold tooLong
  rw [sizeLine_eq]
  exact decide_eq_false (by show ¬ 16777216 < x.cps.size; omega)
theorem call_lower (h : okS x) (hq : Q (.str (lowS x) s.toks) { s with toks := s.toks + 1 }) : wpAny (model prog w) A (call (.builtin "str.lower") [.str x t]) Q E s := by
  have e := txt_lower h
  exact SC.lower (by rw [e]; exact notLong (okS_low h)) (by rw [e]; exact hq)
theorem call_swapcase (h : okS x) (hq : Q (.str (swS x) s.toks) { s with toks := s.toks + 1 }) : wpAny (model prog w) A (call (.builtin "str.swapcase") [.str x t]) Q E s := by
  have e := txt_swapcase h
  exact SC.swapcase (by rw [e]; exact notLong (okS_sw h)) (by rw [e]; exact hq)
end
end Mine
namespace Mine
open PySem PySem.W PyProof.Rows
theorem news_more {h₀ h : Heap} {L : Addr} {x : Addr × Obj} {r : List (Addr × Obj)} (N : News h₀ L h r) (hx : x ∈ r) : News h₀ L h (x :: r) := fun p hp => by
  rcases List.mem_cons.mp hp with rfl | hp
  · exact N _ hx
  · exact N _ hp
theorem allLt_mem {d : Nat} {l : List (Addr × Obj)} (h : AllLt d l) : ∀ p ∈ l, @LT.lt Nat _ p.1 d := by
  induction l with
  | nil => intro p hp; cases hp
  | cons x r ih =>
    intro p hp
    rcases List.mem_cons.mp hp with rfl | hp
    · exact h.1
    · exact ih h.2 p hp
theorem allLt_ne {d c : Addr} {l : List (Addr × Obj)} (h : AllLt d l) (hc : @LE.le Nat _ d c) : ∀ p ∈ l, p.1 ≠ c := fun p hp => Nat.ne_of_lt (Nat.lt_of_lt_of_le (allLt_mem h p hp) hc)
end Mine
namespace Mine
open PySem
noncomputable def subS (x y : Str) : Int := if (x == y) = true then 0 else if (lowS x == lowS y) = true then 1 else 2
end Mine
end
section
namespace Mine
open PySem PySem.Calls PySem.Builtin PyProof.Rows PySem.W LCg LCt
section
variable {prog : Program} {w : World} {A : Around} {s : Shared} {h₀ : Heap} {L : Addr} {m : Str → Option Value} {env : Env}
theorem compEnd_mono {s₁ s₂ : Shared} {I C D : Addr} {oI oC oD : Obj} {S : List (Addr × Obj) → Prop} {r r' : Value → List (Addr × Obj) → Prop} {y : Value} (h : CompEnd h₀ L m s₁ I oI C oC D oD S r y s₂) (hr : ∀ n, r y n → r' y n) :
    CompEnd h₀ L m s₁ I oI C oC D oD S r' y s₂ := by
  obtain ⟨h', tk, n, e, F, N, o, hs, hr'⟩ := h
  exact ⟨h', tk, n, e, F, N, o, hs, hr _ hr'⟩
theorem restT_of {ct elt : Expr} {x : Str} {scope : Scope} {cl : List (Str × Addr)} {S : List (Addr × Obj) → Prop} {P : Nat → Value → Prop} {Fin : List Value → List (Addr × Obj) → Prop} {n : Nat} {news : List (Addr × Obj)}
    (J : Nat → List Value → Prop) (hfin : ∀ ys, J n ys → Fin ys news)
    (turn : ∀ i v ys I oI C oC D m₂ h tk (E' : Value → Shared → Prop), i < n → P i v → J i ys → NsObj oC m₂ → m₂ x = some v → Fr h₀ L h m → News h₀ L h ((I, oI) :: (C, oC) :: (D, lst ys) :: news) → Off3 I C D news → ((@Ne Nat I C) ∧ (@Ne Nat I D) ∧ (@Ne Nat C D)) →
      wpAny (model prog w) A (isTrue ct (compEnvC scope cl C env) (eval ct (compEnvC scope cl C env))) (fun ok s' => if ok = true then
        wpAny (model prog w) A (eval elt (compEnvC scope cl C env)) (CompEnd h₀ L m { s with heap := h, toks := tk } I oI C oC D (lst ys) S (fun y news' => news' = news ∧ J (i + 1) (ys ++ [y]))) E' s'
        else CompEnd h₀ L m { s with heap := h, toks := tk } I oI C oC D (lst ys) S (fun _ news' => news' = news ∧ J (i + 1) ys) Value.none s') E' { s with heap := h, toks := tk }) :
    ∀ k i ys, i + k = n → J i ys → CompRestT prog w A h₀ L m env ct elt x scope cl s S P Fin k i ys news := by
  intro k
  induction k with
  | zero => intro i ys e hj; exact .zero (hfin _ (by rw [Nat.add_zero] at e; exact e ▸ hj))
  | succ k ih =>
    intro i ys e hj
    refine .succ fun v I oI C oC D m₂ h tk E' hP hN hx F N O ne => ?_
    refine wpAny_mono (turn i v ys I oI C oC D m₂ h tk E' (by omega) hP hj hN hx F N O ne) (fun ok s' h1 => ?_) fun _ _ e => e
    split at h1
    · rename_i ht
      rw [if_pos ht]
      refine wpAny_mono h1 (fun y s'' h2 => compEnd_mono h2 fun nw hr => ?_) fun _ _ e => e
      obtain ⟨rfl, hj'⟩ := hr
      exact ih _ _ (by omega) hj'
    · rename_i ht
      rw [if_neg ht]
      refine compEnd_mono h1 fun nw hr => ?_
      obtain ⟨rfl, hj'⟩ := hr
      exact ih _ _ (by omega) hj'
end
end Mine
namespace Mine
open PySem PySem.Calls PySem.Builtin PyProof.Rows PySem.W
theorem StrsAre.snoc' {y : Str} {t : Tok} : ∀ {vs : List Value} {ys : List Str}, StrsAre vs ys → StrsAre (vs ++ [.str y t]) (ys ++ [y])
  | _, _, .nil => .cons y t .nil
  | _, _, .cons y' t' r => .cons y' t' (StrsAre.snoc' r)
theorem strs_take_pos {ys : List Value} {ps : List (Str × Str)} {q : Str × Str → Bool} {i : Nat} {k x : Str} {t : Tok} (hJ : StrsAre ys (((ps.take i).filter q).map (·.2))) (hp : ps[i]? = some (k, x)) (hq : q (k, x) = true) :
    StrsAre (ys ++ [.str x t]) (((ps.take (i + 1)).filter q).map (·.2)) := by
  rw [List.take_add_one, hp]
  simp only [Option.toList_some, List.filter_append, List.map_append, List.filter_cons, hq, if_true, List.filter_nil, List.map_cons, List.map_nil]
  exact StrsAre.snoc' hJ
theorem strs_take_neg {ys : List Value} {ps : List (Str × Str)} {q : Str × Str → Bool} {i : Nat} {k x : Str} (hJ : StrsAre ys (((ps.take i).filter q).map (·.2))) (hp : ps[i]? = some (k, x)) (hq : q (k, x) = false) :
    StrsAre ys (((ps.take (i + 1)).filter q).map (·.2)) := by
  rw [List.take_add_one, hp]
  simpa only [Option.toList_some, List.filter_append, List.map_append, List.filter_cons, hq, Bool.false_eq_true, if_false, List.filter_nil, List.map_nil, List.append_nil] using hJ
end Mine
namespace Mine
open PySem PySem.Calls PySem.Builtin PyProof.Rows PySem.W
end Mine
namespace Mine
open PySem PySem.W
end Mine
end
section
namespace Mine
open PySem PySem.Calls PySem.Builtin PyProof.Rows PySem.W
theorem fr_known {h₀ h : Heap} {L : Addr} {m : Str → Option Value} (ps : List (Str × Value)) (hp : ∀ p ∈ ps, m p.1 = some p.2) (F : Fr h₀ L h m) : Fr h₀ L h (kstB m ps) := by
  have e : kstB m ps = m := funext fun z => kstB_eq hp fun _ => rfl
  rw [e]; exact F
section
variable {prog : Program} {w : World} {A : Around} {E : Value → Shared → Prop} {s : Shared} {h₀ : Heap} {env : Env} {target : Expr} {body : List Stmt} {Q : Flow → Shared → Prop}
theorem itemsRest_inv {ws : List (Addr × String)} {keep : List (Addr × Obj)} {xs : List Itm} (J : Nat → (Str → Option Value) → List (Addr × Obj) → Prop)
    (turn : ∀ i a v h tk m news, xs[i]? = some a → a.Is v h → J i m news → Fr h₀ env.locals h m → AllObj ws (fun its => News h₀ env.locals h (its ++ news) →
      wpAny (model prog w) A (assign target env v) (fun _ s₂ => wpAny (model prog w) A (execs body env) (UnrPostW h₀ env.locals { s with heap := h, toks := tk } its (fun m' n' => SubL keep n' ∧ J (i + 1) m' n') Q) E s₂) E { s with heap := h, toks := tk }))
    (done : ∀ h tk m news, J xs.length m news → Fr h₀ env.locals h m → News h₀ env.locals h news → Q .next { s with heap := h, toks := tk })
    {m : Str → Option Value} {news : List (Addr × Obj)} (h0 : J 0 m news) : ItemsRest prog w A E h₀ env target body Q s ws keep xs m news := by
  have all : ∀ (r : List Itm) (i : Nat) (m : Str → Option Value) (news : List (Addr × Obj)), (∀ j, r[j]? = xs[i + j]?) → i + r.length = xs.length → J i m news → ItemsRest prog w A E h₀ env target body Q s ws keep r m news := by
    intro r
    induction r with
    | nil => intro i m news hr hl hj; exact ItemsRest.zero fun h tk F N => done h tk m news (by simp at hl; exact hl ▸ hj) F N
    | cons a r ih =>
      intro i m news hr hl hj
      show ∀ v h tk, a.Is v h → _
      intro v h tk ha F
      have hx : xs[i]? = some a := by have := hr 0; simpa using this.symm
      have t := turn i a v h tk m news hx ha hj F
      have mono : ∀ (k k' : List (Addr × Obj) → Prop) (ws : List (Addr × String)), (∀ its, k its → k' its) → AllObj ws k → AllObj ws k' := by
        intro k k' ws
        induction ws generalizing k k' with
        | nil => intro hk h1; exact hk _ h1
        | cons w1 r1 ih1 => intro hk h1; exact fun o ho => ih1 _ _ (fun its h2 => hk _ h2) (h1 o ho)
      refine mono _ _ ws (fun its ht N => ?_) t
      refine wpAny_mono (ht N) (fun _ s₂ h2 => wpAny_mono h2 (fun f s₃ h3 => ?_) fun _ _ e => e) fun _ _ e => e
      have up : UnrEndW h₀ env.locals { s with heap := h, toks := tk } its (fun m' n' => SubL keep n' ∧ J (i + 1) m' n') s₃ → UnrEndW h₀ env.locals { s with heap := h, toks := tk } its (fun m' n' => SubL keep n' ∧ ItemsRest prog w A E h₀ env target body Q s ws keep r m' n') s₃ := by
        rintro ⟨h', tk', m', n', e, F', N', o, hs, hj'⟩
        exact ⟨h', tk', m', n', e, F', N', o, hs, ih (i + 1) m' n' (fun j => by have := hr (j + 1); simp at this; rw [this]; congr 1; omega) (by simp at hl; omega) hj'⟩
      cases f with
      | ret v => exact h3
      | brk => exact h3
      | next => exact up h3
      | cont => exact up h3
  exact all xs 0 m news (fun j => by simp) (by simp) h0
end
end Mine
namespace Mine
open PySem PySem.Calls PySem.Builtin PyProof.Rows PySem.W
section
variable {prog : Program} {w : World} {A : Around} {E : Value → Shared → Prop} {s : Shared} {h₀ : Heap} {env : Env} {target : Expr} {body : List Stmt} {Q : Flow → Shared → Prop}
end
end Mine
namespace Mine
open PySem
end Mine
namespace Mine
noncomputable def Hold (P : Prop) : Prop := P
theorem Hold.on {P : Prop} (h : Hold P) : P := h
theorem Hold.off {P : Prop} (h : P) : Hold P := h
end Mine
namespace Mine
open PySem PySem.Calls PySem.Builtin PyProof.Rows PySem.W
noncomputable def NextWith (h₀ : Heap) (L : Addr) (s₁ : Shared) (R : (Str → Option Value) → List (Addr × Obj) → Prop) (f : Flow) (s' : Shared) : Prop :=
  f = .next ∧ ∃ h tk m news, s' = { s₁ with heap := h, toks := tk } ∧ Fr h₀ L h m ∧ News h₀ L h news ∧ R m news
theorem nextWith_seq {M : Model} {A : Around} {E : Value → Shared → Prop} {s : Shared} {t : Sem Flow} {Q : Flow → Shared → Prop} {h₀ h9 : Heap} {L : Addr} {m9 : Str → Option Value} (_F : Fr h₀ L h9 m9) (R : (Str → Option Value) → List (Addr × Obj) → Prop)
    (h1 : wpAny M A t (NextWith h₀ L s R) E s) (h2 : ∀ h tk m news, Fr h₀ L h m → News h₀ L h news → R m news → Q .next { s with heap := h, toks := tk }) : wpAny M A t Q E s :=
  wpAny_mono h1 (fun f s' h => by obtain ⟨rfl, h', tk, m, news, rfl, F, N, r⟩ := h; exact h2 h' tk m news F N r) fun _ _ e => e
theorem NextWith.intro {h₀ : Heap} {L : Addr} {s₁ : Shared} {R : (Str → Option Value) → List (Addr × Obj) → Prop} {h : Heap} {tk : Nat} {m : Str → Option Value} {news : List (Addr × Obj)} (F : Fr h₀ L h m) (N : News h₀ L h news) (r : R m news) :
    NextWith h₀ L s₁ R .next { s₁ with heap := h, toks := tk } := ⟨rfl, h, tk, m, news, rfl, F, N, r⟩
end Mine
namespace Mine
structure NoHold : Prop where
end Mine
end
section
open PySem PySem.W PyProof.Rows PySem.Calls
namespace Mine
local macro_rules | `(tactic| walk_at "getMethod ref") => `(tactic| (k_here; refine Hold.on ?_))
local macro_rules | `(tactic| walk_at "call builtin:re.Pattern.search") => `(tactic| (k_here; refine Hold.on ?_))

theorem conv_walk {w : World} {loose : List Str} {mean : ExcName → Option Value} {mg mb : Str → Option Value}
  {dp un : Nat} {gd : Option (List Code)} {cn : Str} {csn : List (Str × NameKind)} {csg csc : Bool} {csm : List (Str × Const)} {a : Addr} {ccd : Value} {cl : List (Str × Addr)} {outer : List Env} {A₀ : Around} {base h₀ : Heap} {L : Addr} {m : Str → Option Value} {news : List (Addr × Obj)} {s : Shared} {Q E : Value → Shared → Prop}
  {x : Str} {t1 : Tok} {sf : Value} {b : Bool}
  (B : Below A₀ base outer h₀) (F : Fr h₀ L s.heap m) (X : (hd03.heap_39 w.params).In h₀) (N : News h₀ L s.heap news) (T : Top hd03.view_39 loose mean mg mb h₀) 
  (hd : dp + 3 < recursionLimit) (hu : un + 24 < cLine) (hx : okS x)
  (ret : ∀ (t' : Tok) h' tk', Fr h₀ L h' m → News h₀ L h' news → Q (.str x t') { s with heap := h', toks := tk' }) :
  wpAny (model PySem.Challenge.rw_sw0068_03.row.prog w) (ktrTop dp un gd cn ⟨.function, csn, csg, csc, csm⟩ L a ccd cl outer) (call (.ref 104) [sf, .str x t1] [("name", .bool b)]) Q E s := by
  revert X; k_fill; intro X
  refine wpAny_call ?_
  k_dflt k_enter
  (k_steps; repeat' (refine Hold.off ?_; first | ((with_reducible show wpAny _ _ (call (Value.builtin "re.Pattern.search") _ _) _ _ _); k_dflt (refine' search_K ?k1 ?k2 ?k3 ?k4 ?k5 ?k6 ?k7 ?k8 ?_; (case k1 => k_asm); (case k2 => k_asm); (case k3 => k_is); (case k4 => exact rfl); (case k5 => exact rfl); (case k6 => k_is); (case k7 => first | exact Or.inl (by decide +kernel) | exact Or.inr (by decide +kernel)); (case k8 => assumption); k_whole); k_steps) | ((with_reducible show wpAny _ _ (getMethod (Value.ref _) (PySem.Str.ofString "search") _) _ _ _); k_dflt (refine' search_method ?k1 ?k2 ?k3 ?_; (case k1 => k_asm); (case k2 => k_asm); (case k3 => k_is); k_whole); k_steps)))
  all_goals exact ret _ _ _ (by k_asm) (by k_asm)
end Mine
end
open Mine

section
open PySem PySem.W PyProof.Rows PySem.Calls
namespace Mine
local macro_rules | `(tactic| walk_at "call ref") => `(tactic| (k_here; refine Hold.on ?_))

local macro_rules | `(tactic| walk_at "call builtin:str.join") => `(tactic| (k_here; refine Hold.on ?_))
local macro_rules | `(tactic| walk_at "no such key") => `(tactic| (k_here; refine Hold.on ?_))

local macro_rules | `(tactic| k_all) => `(tactic| assumption)
theorem add_walk {w : World} {loose : List Str} {mean : ExcName → Option Value} {mg mb : Str → Option Value}
  {dp un : Nat} {gd : Option (List Code)} {cn : Str} {csn : List (Str × NameKind)} {csg csc : Bool} {csm : List (Str × Const)} {a : Addr} {ccd : Value} {cl : List (Str × Addr)} {outer : List Env} {A₀ : Around} {base h₀ : Heap} {L : Addr} {m : Str → Option Value} {news : List (Addr × Obj)} {s : Shared} {Q E : Value → Shared → Prop}
  {hA dx l : Addr} {tk nn : Nat} {vs : List Value} {x y : Str} {t1 t2 : Tok} 
  (B : Below A₀ base outer h₀) (F : Fr h₀ L s.heap m) (X : (hd03.heap_39 w.params).In h₀)
  (N : News h₀ L s.heap ((hA, instObj 203 dx) :: (dx, dictOf [⟨PyData.keyHash w.params "_headers", .str "_headers" tk, .ref l⟩] 1) :: (l, listOf vs.toArray nn) :: news)) (T : Top hd03.view_39 loose mean mg mb h₀) 
  (hd : dp + 6 < recursionLimit) (hu : un + 48 < cLine) (hx : okS x) (hy : okS y) (ne1 : hA ≠ l) (ne2 : dx ≠ l) (hoff : ∀ p ∈ news, p.1 ≠ l) (hlen : vs.length ≤ 1000)
  (ret : ∀ (T : Addr) (t1 t2 : Tok) (h' : Heap) (tk' : Nat), Fr h₀ L h' m → News h₀ L h' ((T, ({ cls := .type "tuple", data := .seq #[.str x t1, .str y t2] } : Obj)) :: (hA, instObj 203 dx) :: (dx, dictOf [⟨PyData.keyHash w.params "_headers", .str "_headers" tk, .ref l⟩] 1) :: (l, listOf (vs.toArray.push (Value.ref T)) (nn + 1)) :: news) → Q .none { s with heap := h', toks := tk' }) :
  wpAny (model PySem.Challenge.rw_sw0068_03.row.prog w) (ktrTop dp un gd cn ⟨.function, csn, csg, csc, csm⟩ L a ccd cl outer) (call (.ref 200) [.ref hA, .str x t1, .str y t2]) Q E s := by
  revert X; k_fill; intro X
  refine wpAny_call ?_
  k_dflt k_enter
  (k_steps; repeat' (refine Hold.off ?_; first | ((with_reducible show wpAny _ _ (call (Value.builtin "str.join") _ _) _ _ _); k_dflt (refine' join_single ?k1 ?k2 ?k3 ?_; (case k1 => is_list); (case k2 => exact okS_len (by assumption)); (case k3 => decide +kernel)); (intro t9 k9; try dsimp only); k_steps) | ((with_reducible show wpAny _ _ (call (Value.ref 104) _ _) _ _ _); k_dflt (refine' conv_walk ?k1 ?k2 ?k3 ?k4 ?k5 ?kd ?ku ?kx ?_; (case k1 => k_asm); (case k2 => k_asm); (case k3 => k_asm); (case k4 => k_asm); (case k5 => k_asm); (case kd => ktr_room); (case ku => ktr_units); (case kx => assumption)); intro t9' h' tk' F' N'; (try dsimp only); (try k_fold); k_steps)))
  (with_reducible rename News _ _ _ _ => NN)
  have N2 := news_drop2 NN
  clear NN
  k_dflt (refine' append_K ?k1 N2 ?k3 ?_ ?z)
  case k1 => k_asm
  case k3 => k_upd
  case z => (simp only [List.size_toArray, sizeLine_eq]; omega)
  clear N2
  intro h' F' N'
  (k_steps; repeat' (refine Hold.off ?_; first | ((with_reducible show wpAny _ _ (call (Value.builtin "str.join") _ _) _ _ _); k_dflt (refine' join_single ?k1 ?k2 ?k3 ?_; (case k1 => is_list); (case k2 => exact okS_len (by assumption)); (case k3 => decide +kernel)); (intro t9 k9; try dsimp only); k_steps) | ((with_reducible show wpAny _ _ (call (Value.ref 104) _ _) _ _ _); k_dflt (refine' conv_walk ?k1 ?k2 ?k3 ?k4 ?k5 ?kd ?ku ?kx ?_; (case k1 => k_asm); (case k2 => k_asm); (case k3 => k_asm); (case k4 => k_asm); (case k5 => k_asm); (case kd => ktr_room); (case ku => ktr_units); (case kx => assumption)); intro t9' h' tk' F' N'; (try dsimp only); (try k_fold); k_steps)))
  all_goals exact ret _ _ _ _ _ (by k_asm) (cb_drop (by assumption) (by kcf_all))
end Mine
end
section
open PySem PySem.W PyProof.Rows PySem.Calls
namespace Mine
local macro_rules | `(tactic| k_all) => `(tactic| exact allLt_ne (by assumption) (by omega))

local macro_rules | `(tactic| walk_at "exec For Tuple Name cons nil") => `(tactic| (k_here; refine Hold.on ?_))
theorem init_walk {w : World} {loose : List Str} {mean : ExcName → Option Value} {mg mb : Str → Option Value}
  {dp un : Nat} {gd : Option (List Code)} {cn : Str} {csn : List (Str × NameKind)} {csg csc : Bool} {csm : List (Str × Const)} {a : Addr} {ccd : Value} {cl : List (Str × Addr)} {outer : List Env} {A₀ : Around} {base h₀ : Heap} {L : Addr} {m : Str → Option Value} {news : List (Addr × Obj)} {s : Shared} {Q E : Value → Shared → Prop}
  {l : Addr}
  (B : Below A₀ base outer h₀) (F : Fr h₀ L s.heap m) (X : (hd03.heap_39 w.params).In h₀)
  (N : News h₀ L s.heap ((l, listOf #[] 0) :: news)) (T : Top hd03.view_39 loose mean mg mb h₀)
  (hd : dp + 6 < recursionLimit) (hu : un + 48 < cLine)
  (ret : ∀ (hA dx : Addr) (tk : Tok) (h' : Heap) (tk' : Nat), Fr h₀ L h' m → News h₀ L h' ((hA, instObj 203 dx) :: (dx, dictOf [⟨PyData.keyHash w.params "_headers", .str "_headers" tk, .ref l⟩] 1) :: (l, listOf #[] 0) :: news) → Q (.ref hA) { s with heap := h', toks := tk' }) :
  wpAny (model PySem.Challenge.rw_sw0068_03.row.prog w) (ktrTop dp un gd cn ⟨.function, csn, csg, csc, csm⟩ L a ccd cl outer) (call (.ref 203) [.ref l]) Q E s := by
  revert X; k_fill; intro X
  (k_steps; repeat' (refine Hold.off ?_; first | ((with_reducible show wpAny _ _ (exec (PySem.Stmt.For ..) _) _ _ _); (rename Fr _ _ _ _ => lF'); (with_unfolding_all refine' For_turns lF' ?_; k_whole); k_steps)))
  refine iter_listTurns (vs := []) (by rfl) (by k_asm) (by k_asm) (by k_mem) rfl rfl ?_
  intro I hI
  refine ItemsRest.zero ?_
  intro h9 tk9 F' N'
  (k_steps; repeat' (refine Hold.off ?_; first | ((with_reducible show wpAny _ _ (exec (PySem.Stmt.For ..) _) _ _ _); (rename Fr _ _ _ _ => lF'); (with_unfolding_all refine' For_turns lF' ?_; k_whole); k_steps)))
  all_goals exact ret _ _ _ _ _ (by k_asm) (cb_drop (by assumption) (by kcf_all))
end Mine
end
section
namespace Mine
open PySem
noncomputable def apL : Nat → Nat → List UInt8
  | 0, _ => []
  | f + 1, n => if n = 0 then [] else apL f (n / 16) ++ [(65 + n % 16).toUInt8]
noncomputable def apA (n : Nat) : Array UInt8 := (apL 20 n).toArray
inductive ApInv (n : Nat) : Nat → Array UInt8 → Prop
  | mk (f k : Nat) (v : List UInt8) : k < 16 ^ f → f + v.length ≤ 20 → apL 20 n = apL f k ++ v → ApInv n k v.toArray
theorem ApInv.start {n k : Nat} (h : k = n ∧ n < 2 ^ 62) : ApInv n k #[] := by
  obtain ⟨rfl, h⟩ := h
  exact .mk 20 _ [] (Nat.lt_of_lt_of_le h (by decide)) (by simp) (by simp)
theorem ApInv.fin {n : Nat} {v : Array UInt8} (h : ApInv n 0 v) : apA n = v := by
  cases h with
  | mk f k v h1 h2 h3 =>
    unfold apA
    rw [h3]
    cases f <;> simp [apL]
theorem ApInv.next {n k : Nat} {v : Array UInt8} (h : ApInv n k v) (hk : k ≠ 0) : ApInv n (k / 16) (#[(65 + k % 16).toUInt8] ++ v) ∧ v.size ≤ 20 := by
  cases h with
  | mk f k v h1 h2 h3 =>
    cases f with
    | zero => exact absurd (by simpa using h1) hk
    | succ f =>
      refine ⟨?_, by simp; omega⟩
      have e : (#[(65 + k % 16).toUInt8] ++ v.toArray : Array UInt8) = ((65 + k % 16).toUInt8 :: v).toArray := by simp
      rw [e]
      refine .mk f _ _ ?_ (by simp; omega) ?_
      · rw [Nat.pow_succ] at h1; exact Nat.div_lt_of_lt_mul (by rw [Nat.mul_comm]; exact h1)
      · rw [h3]; simp [apL, hk]
end Mine
namespace Mine
open PySem PySem.Calls PyProof.Rows PySem.W
noncomputable abbrev APb : Array UInt8 := #[65, 66, 67, 68, 69, 70, 71, 72, 73, 74, 75, 76, 77, 78, 79, 80]
theorem picked_AP (k : Int) (h : 0 ≤ k) : KBy.picked APb (some (k.fmod 16)) (some (k.fmod 16 + 1)) = #[(65 + k.toNat % 16).toUInt8] := by
  have all : ∀ j : Fin 16, KBy.picked APb (some ((j.val : Nat) : Int)) (some (((j.val : Nat) : Int) + 1)) = #[(65 + j.val).toUInt8] := by decide +kernel
  have e : k.fmod 16 = ((k.toNat % 16 : Nat) : Int) := by
    rw [Int.fmod_eq_emod_of_nonneg _ (by decide)]; omega
  rw [e]
  exact all ⟨k.toNat % 16, Nat.mod_lt _ (by decide)⟩
section
variable {prog : Program} {w : World} {A : Around} {E : Value → Shared → Prop} {h₀ : Heap} {L : Addr} {m : PySem.Str → Option Value} {news : List (Addr × Obj)} {value slice : PySem.Expr} {Q : Value → Shared → Prop}
theorem slice_AP {hp : Heap} {g : Array GenState} {d : Drawn} {tk : Nat} {os : OsState} {k : Int} {t u1 u2 : Tok} (hF : Fr h₀ L hp m) (hN : News h₀ L hp news) (h0 : 0 ≤ k)
    (h : ∀ h' t' tk', Fr h₀ L h' m → News h₀ L h' news → Q (.bytes #[(65 + k.toNat % 16).toUInt8] t') ⟨h', g, d, tk', os⟩)
    (hs : subscripted slice false (.bytes APb t) (.ref hp.objs.size) = operate [.ref hp.objs.size, .bytes APb t] (getItem (.bytes APb t) (.ref hp.objs.size)) := by with_unfolding_all rfl)
    (ht : ∀ r, letTemporaryGo value (.bytes APb t) r = pure () := by intro _; with_unfolding_all rfl) :
    wpAny (model prog w) A (subscriptTail value slice (.bytes APb t) (.ref hp.objs.size)) Q E ⟨hp.push { cls := .type "slice", data := .fields #[.int (k.fmod 16) u1, .int (k.fmod 16 + 1) u2, .none] }, g, d, tk, os⟩ :=
  KBc.slice_K (s := ⟨hp, g, d, tk, os⟩) hF hN (ks := KBw.bInts APb) rfl (.int _ _) (.int _ _) (by decide) (fun h' t' tk' F' N' _ => by rw [picked_AP k h0]; exact h h' t' tk' F' N') hs ht
end
end Mine
namespace Mine
theorem ApInv.size {n k : Nat} {v : Array UInt8} (h : ApInv n k v) : v.size ≤ 20 := by
  cases h with
  | mk f k v h1 h2 h3 => simp; omega
end Mine
namespace Mine
open PySem
theorem ap_turn {n : Nat} {k : Int} {v : Array UInt8} (h1 : 0 ≤ k) (h2 : k < 2 ^ 62) (h3 : ApInv n k.toNat v) (hk : k ≠ 0) :
    (0 ≤ k.fdiv 16 ∧ k.fdiv 16 < 2 ^ 62 ∧ ApInv n (k.fdiv 16).toNat (#[(65 + k.toNat % 16).toUInt8] ++ v)) ∧ (k.fdiv 16).toNat < k.toNat := by
  have e : k.fdiv 16 = k / 16 := Int.fdiv_eq_ediv_of_nonneg _ (by decide)
  have e2 : (k.fdiv 16).toNat = k.toNat / 16 := by rw [e]; omega
  refine ⟨⟨by rw [e]; omega, by rw [e]; omega, ?_⟩, by rw [e2]; omega⟩
  rw [e2]
  exact (h3.next (by omega)).1
end Mine
end
section
open PySem PySem.W PyProof.Rows PySem.Calls
namespace Mine
local macro_rules | `(tactic| k_all) => `(tactic| first | exact allLt_ne (by assumption) (by omega) | assumption)
local macro_rules | `(tactic| walk_at "exec While Name cons nil") => `(tactic| (k_here; refine Hold.on ?_))

local macro_rules | `(tactic| walk_at "subscriptTail") => `(tactic| (k_here; refine Hold.on ?_))
local macro_rules | `(tactic| walk_at "binaryOp Add bytes bytes") => `(tactic| (k_here; refine Hold.on ?_))
theorem ap_walk {w : World} {loose : List Str} {mean : ExcName → Option Value} {mg mb : Str → Option Value}
  {dp un : Nat} {gd : Option (List Code)} {cn : Str} {csn : List (Str × NameKind)} {csg csc : Bool} {csm : List (Str × Const)} {a : Addr} {ccd : Value} {cl : List (Str × Addr)} {outer : List Env} {A₀ : Around} {base h₀ : Heap} {L : Addr} {m : Str → Option Value} {news : List (Addr × Obj)} {s : Shared} {Q E : Value → Shared → Prop}
  {n : Int} {t1 : Tok}
  (B : Below A₀ base outer h₀) (F : Fr h₀ L s.heap m) (X : (hd03.heap_39 w.params).In h₀)
  (N : News h₀ L s.heap news) (T : Top hd03.view_39 loose mean mg mb h₀)
  (hd : dp + 6 < recursionLimit) (hu : un + 48 < cLine) (hn : n.natAbs < 2 ^ 62)
  (ret : ∀ (t : Tok) (h' : Heap) (tk' : Nat), Fr h₀ L h' m → News h₀ L h' news → Q (.bytes (apA n.natAbs) t) { s with heap := h', toks := tk' }) :
  wpAny (model PySem.Challenge.rw_sw0068_03.row.prog w) (ktrTop dp un gd cn ⟨.function, csn, csg, csc, csm⟩ L a ccd cl outer) (call (.ref 59) [.int n t1]) Q E s := by
  revert X; k_fill; intro X
  refine wpAny_call ?_
  k_dflt k_enter
  (k_steps; repeat' (refine Hold.off ?_; first | ((with_reducible show wpAny _ _ (binaryOp Operator.Add (Value.bytes _ _) (Value.bytes _ _)) _ _ _); refine KBy.add_bytes (by (simp only [List.size_toArray, List.length_cons, List.length_nil]; omega)) ?_; intro t9' k9'; (try dsimp only); k_steps) | ((with_reducible show wpAny _ _ (subscriptTail _ (Expr.Slice _ _ none _) (Value.bytes _ _) (Value.ref _)) _ _ _); k_dflt (refine' slice_AP ?k1 ?k2 ?k3 ?_ ?k4 ?k5; (case k1 => k_asm); (case k2 => k_asm); (case k3 => assumption); (case k4 => with_unfolding_all rfl); (case k5 => (intro _; with_unfolding_all rfl))); intro h' t9' k9' F' N'; (try dsimp only); k_steps)))
  refine Hold.off ?_
  (with_reducible rename Fr _ _ _ _ => F9)
  refine' ksw_while (σ := Int × Array UInt8 × Tok × Tok) (fun _ => news) (fun c => [(Str.ofString "num", .int c.1 c.2.2.1), (Str.ofString "val", .bytes c.2.1 c.2.2.2)]) (fun _ => True) [Str.ofString "mod"]
    (fun c => 0 ≤ c.1 ∧ c.1 < 2 ^ 62 ∧ ApInv n.natAbs c.1.toNat c.2.1) (fun c => c.1.toNat) (if n < 0 then -n else n, #[], _, _) F9 ?hN trivial ?hk ?hp ?turn ?hE
  case hN => k_asm
  case hk => exact List.forall_mem_cons.mpr ⟨by with_unfolding_all rfl, List.forall_mem_cons.mpr ⟨by with_unfolding_all rfl, List.forall_mem_nil _⟩⟩
  case hp => exact ⟨by dsimp only; split <;> omega, by dsimp only; split <;> omega, ApInv.start ⟨by dsimp only; split <;> omega, by omega⟩⟩
  case hE => passes_own
  case turn =>
    rintro ⟨k, v, ta, tb⟩ u h tk9 - ⟨h1, h2, h3⟩ F' N'
    dsimp only [kstB] at F'
    dsimp only at h1 h2 h3
    have hvs := h3.size
    (k_steps; repeat' (refine Hold.off ?_; first | ((with_reducible show wpAny _ _ (binaryOp Operator.Add (Value.bytes _ _) (Value.bytes _ _)) _ _ _); refine KBy.add_bytes (by (simp only [List.size_toArray, List.length_cons, List.length_nil]; omega)) ?_; intro t9' k9'; (try dsimp only); k_steps) | ((with_reducible show wpAny _ _ (subscriptTail _ (Expr.Slice _ _ none _) (Value.bytes _ _) (Value.ref _)) _ _ _); k_dflt (refine' slice_AP ?k1 ?k2 ?k3 ?_ ?k4 ?k5; (case k1 => k_asm); (case k2 => k_asm); (case k3 => assumption); (case k4 => with_unfolding_all rfl); (case k5 => (intro _; with_unfolding_all rfl))); intro h' t9' k9' F' N'; (try dsimp only); k_steps)))
    · rename_i hk0
      have ht := ap_turn h1 h2 h3 (by assumption)
      refine' ksw_end (k.fdiv 16, #[(65 + k.toNat % 16).toUInt8] ++ v, _, _) ?F ?N ?n trivial ?k ?r ht.1 ht.2
      case F => k_asm
      case N => assumption
      case n => kcf_all
      case k => exact List.forall_mem_cons.mpr ⟨by with_unfolding_all rfl, List.forall_mem_cons.mpr ⟨by with_unfolding_all rfl, List.forall_mem_nil _⟩⟩
      case r => ksw_same
    · have e0 : k = 0 := by assumption
      have e1 : apA n.natAbs = v := ApInv.fin (by rw [e0] at h3; exact h3)
      rw [← e1]
      exact ret _ _ _ (by k_asm) (by k_asm)
end Mine
end
section
open PySem PySem.W PyProof.Rows PySem.Calls
namespace Mine
local macro_rules | `(tactic| walk_at "call builtin:str.lower") => `(tactic| (k_here; refine Hold.on ?_))

theorem sub_walk {w : World} {loose : List Str} {mean : ExcName → Option Value} {mg mb : Str → Option Value}
  {dp un : Nat} {gd : Option (List Code)} {cn : Str} {csn : List (Str × NameKind)} {csg csc : Bool} {csm : List (Str × Const)} {a : Addr} {ccd : Value} {cl : List (Str × Addr)} {outer : List Env} {A₀ : Around} {base h₀ : Heap} {L : Addr} {m : Str → Option Value} {news : List (Addr × Obj)} {s : Shared} {Q E : Value → Shared → Prop}
  {x y : Str} {t1 t2 : Tok}
  (B : Below A₀ base outer h₀) (F : Fr h₀ L s.heap m) (X : (hd03.heap_39 w.params).In h₀)
  (N : News h₀ L s.heap news) (T : Top hd03.view_39 loose mean mg mb h₀)
  (hd : dp + 6 < recursionLimit) (hx : okS x) (hy : okS y)
  (ret : ∀ (t : Tok) (h' : Heap) (tk' : Nat), Fr h₀ L h' m → News h₀ L h' news → Q (.int (subS x y) t) { s with heap := h', toks := tk' }) :
  wpAny (model PySem.Challenge.rw_sw0068_03.row.prog w) (ktrTop dp un gd cn ⟨.function, csn, csg, csc, csm⟩ L a ccd cl outer) (call (.ref 45) [.str x t1, .str y t2]) Q E s := by
  revert X; k_fill; intro X
  refine wpAny_call ?_
  k_dflt k_enter
  (k_steps; repeat' (refine Hold.off ?_; first | ((with_reducible show wpAny _ _ (call (Value.builtin "str.lower") (Prod.snd _)) _ _ _); dsimp only; k_steps) | ((with_reducible show wpAny _ _ (call (Value.builtin "str.lower") [Value.str _ _]) _ _ _); refine call_lower (by assumption) ?_; (try dsimp only); k_steps)))
  · have e : subS x y = 0 := by unfold subS; rw [if_pos (by assumption)]
    rw [e] at ret
    exact ret _ _ _ (by k_asm) (by k_asm)
  · have e : subS x y = 1 := by unfold subS; rw [if_neg (by simp [*]), if_pos (by assumption)]
    rw [e] at ret
    exact ret _ _ _ (by k_asm) (by k_asm)
  · have e : subS x y = 2 := by unfold subS; rw [if_neg (by simp [*]), if_neg (by simp [*])]
    rw [e] at ret
    exact ret _ _ _ (by k_asm) (by k_asm)
end Mine
end
section
namespace Mine
noncomputable def stripPre : List Nat → List Nat → List Nat × List Nat
  | c :: a, d :: b => if c = d then stripPre a b else (c :: a, d :: b)
  | a, b => (a, b)
theorem stripPre_drop {a b : List Nat} {k : Nat} (ha : k < a.length) (hb : k < b.length) (h : a.getD k 0 = b.getD k 0) : stripPre (a.drop k) (b.drop k) = stripPre (a.drop (k + 1)) (b.drop (k + 1)) := by
  rw [List.drop_eq_getElem_cons ha, List.drop_eq_getElem_cons hb]
  have e : a[k] = b[k] := by simpa [List.getD_eq_getElem?_getD, ha, hb] using h
  simp [stripPre, e]
theorem stripPre_stop {a b : List Nat} {k : Nat} (h : a.drop k = [] ∨ b.drop k = [] ∨ a.getD k 0 ≠ b.getD k 0) : stripPre (a.drop k) (b.drop k) = (a.drop k, b.drop k) := by
  by_cases ha : k < a.length
  · by_cases hb : k < b.length
    · have h' : a.getD k 0 ≠ b.getD k 0 := by
        rcases h with h | h | h
        · simp at h; omega
        · simp at h; omega
        · exact h
      rw [List.drop_eq_getElem_cons ha, List.drop_eq_getElem_cons hb]
      have e : a[k] ≠ b[k] := by simpa [List.getD_eq_getElem?_getD, ha, hb] using h'
      simp [stripPre, e]
    · rw [List.drop_of_length_le (by omega : b.length ≤ k)]
      cases a.drop k <;> rfl
  · rw [List.drop_of_length_le (by omega : a.length ≤ k)]
    rfl
noncomputable def stripSuf (a b : List Nat) : List Nat × List Nat := let p := stripPre a.reverse b.reverse; (p.1.reverse, p.2.reverse)
theorem rev_drop (a : List Nat) (j : Nat) : (a.reverse.drop j).reverse = a.take (a.length - j) := by
  rw [List.drop_reverse, List.reverse_reverse]
theorem rev_getD (a : List Nat) (j : Nat) (h : j < a.length) : a.reverse.getD j 0 = a.getD (a.length - 1 - j) 0 := by
  have h2 : a.length - 1 - j < a.length := by omega
  simp only [List.getD_eq_getElem?_getD]
  rw [List.getElem?_reverse h]
/-- the suffix: what is left after j signs are off the ends -/
noncomputable def sufAt (a b : List Nat) (j : Nat) : Prop := stripPre a.reverse b.reverse = stripPre (a.reverse.drop j) (b.reverse.drop j)
theorem sufAt_next {a b : List Nat} {j : Nat} (h : sufAt a b j) (ha : j < a.length) (hb : j < b.length) (e : a.getD (a.length - 1 - j) 0 = b.getD (b.length - 1 - j) 0) : sufAt a b (j + 1) := by
  unfold sufAt at h ⊢
  rw [h]
  exact stripPre_drop (by simpa using ha) (by simpa using hb) (by rw [rev_getD a j ha, rev_getD b j hb]; exact e)
theorem sufAt_stop {a b : List Nat} {j : Nat} (h : sufAt a b j) (hs : a.take (a.length - j) = [] ∨ b.take (b.length - j) = [] ∨ (j < a.length ∧ j < b.length ∧ a.getD (a.length - 1 - j) 0 ≠ b.getD (b.length - 1 - j) 0)) :
    stripSuf a b = (a.take (a.length - j), b.take (b.length - j)) := by
  unfold stripSuf
  unfold sufAt at h
  rw [h]
  have hs' : a.reverse.drop j = [] ∨ b.reverse.drop j = [] ∨ a.reverse.getD j 0 ≠ b.reverse.getD j 0 := by
    rcases hs with hs | hs | ⟨h1, h2, hs⟩
    · left; rw [← rev_drop] at hs; simpa using hs
    · right; left; rw [← rev_drop] at hs; simpa using hs
    · right; right; rw [rev_getD a j h1, rev_getD b j h2]; exact hs
  rw [stripPre_stop hs']
  simp only [rev_drop]
noncomputable def lowN (c : Nat) : Nat := if 65 ≤ c ∧ c ≤ 90 then c + 32 else c
noncomputable def cost (c d : Nat) : Int := if c = d then 0 else if lowN c = lowN d then 1 else 2
noncomputable def innF (c : Nat) : List Nat → List Int → Int → Int → Int → List Int × Int × Int
  | ai :: as, ro :: rs, d, r, m =>
    let r' := min (min r ro + 2) (d + cost c ai)
    let m' := if r' < m then r' else m
    let p := innF c as rs ro r' m'
    (r' :: p.1, p.2.1, p.2.2)
  | _, _, _, r, m => ([], r, m)
noncomputable def big : Int := 9223372036854775807
noncomputable def outF (a : List Nat) (mx : Int) : List Nat → Nat → List Int → Int → Int
  | [], _, _, r => r
  | c :: bs, i, row, _ =>
    let p := innF c a row (2 * i) (2 * i) big
    if mx < p.2.2 then mx + 1 else outF a mx bs (i + 1) p.1 p.2.1
noncomputable def row0 (n : Nat) : List Int := (List.range n).map fun (i : Nat) => 2 + 2 * (i : Int)
noncomputable def core (a b : List Nat) (mx : Int) : Int :=
  if a = [] ∨ b = [] then 2 * ((a.length : Int) + b.length)
  else
    let p := if b.length < a.length then (b, a) else (a, b)
    if mx < ((p.2.length : Int) - p.1.length) * 2 then mx + 1 else outF p.1 mx p.2 0 (row0 p.1.length) 0
noncomputable def lev (x y : List Nat) (mx : Int) : Int :=
  if x = y then 0 else
    let p := stripPre x y
    let q := stripSuf p.1 p.2
    core q.1 q.2 mx
end Mine
end
section
namespace Mine
open PySem PySem.Calls PySem.Builtin PySem.Builtin.Str PyProof.Rows PySem.W PyProof
@[irreducible] noncomputable def sL (l : List Nat) : Str := ⟨l.toArray⟩
theorem sL_eq (l : List Nat) : sL l = ⟨l.toArray⟩ := by unfold sL; rfl
theorem sL_len (l : List Nat) : (sL l).length = l.length := by rw [sL_eq]; simp [Str.length]
theorem sL_inj {l r : List Nat} (h : sL l = sL r) : l = r := by
  rw [sL_eq, sL_eq] at h
  have := congrArg (fun s : Str => s.cps.toList) h
  simpa using this
theorem sL_beq (l r : List Nat) : (sL l == sL r) = (l == r) := by
  by_cases h : l = r
  · subst h; simp
  · have h2 : sL l ≠ sL r := fun e => h (sL_inj e)
    rw [beq_false_of_ne h, beq_false_of_ne h2]
theorem okS_sL {l : List Nat} (hl : l.length ≤ 1000) (h : ∀ c ∈ l, okc c = true) : okS (sL l) := by
  rw [sL_eq]
  refine ⟨by simp; omega, fun i hi => ?_⟩
  have hi' : i < l.length := by simpa using hi
  have e : (l.toArray.getD i 0) = l[i] := by simp [Array.getD, hi']
  show okc (l.toArray.getD i 0) = true
  rw [e]
  exact h _ (List.getElem_mem hi')
theorem slice_nat (l : List Nat) {a b : Nat} (hab : a ≤ b) (hb : b ≤ l.length) : Txt.slice (sL l) (some (a : Int)) (some (b : Int)) = sL ((l.drop a).take (b - a)) := by
  have := StrLaws.sliceText_nat (sL l) hab (by rw [sL_len]; exact hb)
  refine Eq.trans this ?_
  rw [sL_eq, sL_eq]
theorem slice_from (l : List Nat) (k : Nat) : Txt.slice (sL l) (some (k : Int)) none = sL (l.drop k) := by
  have e : Txt.slice (sL l) (some (k : Int)) none = Txt.slice (sL l) (some ((min k l.length : Nat) : Int)) (some (l.length : Int)) := by
    have e1 : strSliceIndices (some (k : Int)) none 1 (sL l).length = strSliceIndices (some ((min k l.length : Nat) : Int)) (some (l.length : Int)) 1 (sL l).length := by
      rw [sL_len]
      unfold strSliceIndices
      have h1 : ¬ ((k : Int) < 0) := by omega
      have h2 : ¬ (((min k l.length : Nat) : Int) < 0) := by omega
      have h3 : ¬ ((l.length : Int) < 0) := by omega
      simp only [h1, h2, h3, if_false, show (1 : Int) > 0 by decide, if_true]
      congr 1 <;> omega
    unfold Txt.slice
    rw [e1]
  rw [e, slice_nat l (by omega) (Nat.le_refl _)]
  by_cases hk : k ≤ l.length
  · rw [Nat.min_eq_left hk, List.take_of_length_le (by simp)]
  · rw [Nat.min_eq_right (by omega), List.drop_of_length_le (Nat.le_refl _), List.drop_of_length_le (by omega)]; simp
theorem slice_full (l : List Nat) : Txt.slice (sL l) none none = sL l := by
  have e : Txt.slice (sL l) none none = Txt.slice (sL l) (some ((0 : Nat) : Int)) none := by
    unfold Txt.slice
    rw [StrLaws.sliceIdx_none_lo]; rfl
  rw [e, slice_from]; simp
theorem slice_upto (l : List Nat) {j : Nat} (h1 : 1 ≤ j) (h2 : j ≤ l.length) : Txt.slice (sL l) none (some (-(j : Int))) = sL (l.take (l.length - j)) := by
  have e : Txt.slice (sL l) none (some (-(j : Int))) = Txt.slice (sL l) (some ((0 : Nat) : Int)) (some ((l.length - j : Nat) : Int)) := by
    have e1 : strSliceIndices none (some (-(j : Int))) 1 (sL l).length = strSliceIndices (some ((0 : Nat) : Int)) (some ((l.length - j : Nat) : Int)) 1 (sL l).length := by
      rw [sL_len]
      unfold strSliceIndices
      have h3 : (-(j : Int)) < 0 := by omega
      have h4 : ¬ (((l.length - j : Nat) : Int) < 0) := by omega
      simp only [h3, h4, if_false, show (1 : Int) > 0 by decide, if_true]
      congr 1 <;> omega
    unfold Txt.slice
    rw [e1]
  rw [e, slice_nat l (by omega) (by omega)]; simp
end Mine
namespace Mine
open PySem PySem.Calls PySem.Builtin PySem.Builtin.Str PyProof.Rows PySem.W PyProof
section
variable {prog : Program} {w : World} {A : Around} {E : Value → Shared → Prop} {s : Shared} {h₀ : Heap} {L : Addr} {m : PySem.Str → Option Value} {news : List (Addr × Obj)} {value slice : PySem.Expr} {Q : Value → Shared → Prop} {l : List Nat}
theorem sl_from {hp : Heap} {g : Array GenState} {d : Drawn} {tk : Nat} {os : OsState} {i : Int} {t u : Tok} (hF : Fr h₀ L hp m) (hN : News h₀ L hp news) (hl : l.length ≤ 1000) (h0 : 0 ≤ i)
    (h : ∀ h' t' tk', Fr h₀ L h' m → News h₀ L h' news → Q (.str (sL (l.drop i.toNat)) t') ⟨h', g, d, tk', os⟩)
    (hs : subscripted slice false (.str (sL l) t) (.ref hp.objs.size) = operate [.ref hp.objs.size, .str (sL l) t] (getItem (.str (sL l) t) (.ref hp.objs.size)) := by with_unfolding_all rfl)
    (ht : ∀ r, letTemporaryGo value (.str (sL l) t) r = pure () := by intro _; with_unfolding_all rfl) :
    wpAny (model prog w) A (subscriptTail value slice (.str (sL l) t) (.ref hp.objs.size)) Q E ⟨hp.push { cls := .type "slice", data := .fields #[.int i u, .none, .none] }, g, d, tk, os⟩ :=
  slice_strN_sn (s := ⟨hp, g, d, tk, os⟩) hF hN (fun h' t' tk' F' N' => by
    have e : ((i.toNat : Nat) : Int) = i := by omega
    have e2 := slice_from l i.toNat
    rw [e] at e2
    rw [e2]; exact h h' t' tk' F' N') hs ht (by rw [sL_len, sizeLine_eq]; omega)
theorem sl_full {hp : Heap} {g : Array GenState} {d : Drawn} {tk : Nat} {os : OsState} {t : Tok} (hF : Fr h₀ L hp m) (hN : News h₀ L hp news) (hl : l.length ≤ 1000)
    (h : ∀ h' t' tk', Fr h₀ L h' m → News h₀ L h' news → Q (.str (sL l) t') ⟨h', g, d, tk', os⟩)
    (hs : subscripted slice false (.str (sL l) t) (.ref hp.objs.size) = operate [.ref hp.objs.size, .str (sL l) t] (getItem (.str (sL l) t) (.ref hp.objs.size)) := by with_unfolding_all rfl)
    (ht : ∀ r, letTemporaryGo value (.str (sL l) t) r = pure () := by intro _; with_unfolding_all rfl) :
    wpAny (model prog w) A (subscriptTail value slice (.str (sL l) t) (.ref hp.objs.size)) Q E ⟨hp.push { cls := .type "slice", data := .fields #[.none, .none, .none] }, g, d, tk, os⟩ :=
  slice_strN_nn (s := ⟨hp, g, d, tk, os⟩) hF hN (fun h' t' tk' F' N' => by rw [slice_full]; exact h h' t' tk' F' N') hs ht (by rw [sL_len, sizeLine_eq]; omega)
theorem sl_upto {hp : Heap} {g : Array GenState} {d : Drawn} {tk : Nat} {os : OsState} {i : Int} {t u : Tok} (hF : Fr h₀ L hp m) (hN : News h₀ L hp news) (hl : l.length ≤ 1000) (h0 : i < 0 ∧ -i ≤ l.length)
    (h : ∀ h' t' tk', Fr h₀ L h' m → News h₀ L h' news → Q (.str (sL (l.take (l.length - (-i).toNat))) t') ⟨h', g, d, tk', os⟩)
    (hs : subscripted slice false (.str (sL l) t) (.ref hp.objs.size) = operate [.ref hp.objs.size, .str (sL l) t] (getItem (.str (sL l) t) (.ref hp.objs.size)) := by with_unfolding_all rfl)
    (ht : ∀ r, letTemporaryGo value (.str (sL l) t) r = pure () := by intro _; with_unfolding_all rfl) :
    wpAny (model prog w) A (subscriptTail value slice (.str (sL l) t) (.ref hp.objs.size)) Q E ⟨hp.push { cls := .type "slice", data := .fields #[.none, .int i u, .none] }, g, d, tk, os⟩ :=
  slice_strN_ns (s := ⟨hp, g, d, tk, os⟩) hF hN (fun h' t' tk' F' N' => by
    have e : -(((-i).toNat : Nat) : Int) = i := by omega
    have e2 := slice_upto l (j := (-i).toNat) (by omega) (by omega)
    rw [e] at e2
    rw [e2]; exact h h' t' tk' F' N') hs ht (by rw [sL_len, sizeLine_eq]; omega)
theorem sl_item {i : Int} {j : Nat} {t u : Tok} (hl : l.length ≤ 1000) (hj : j < l.length) (hi : i = (j : Int) ∨ i = (j : Int) - l.length)
    (h : ∀ t', Q (.str (sL [l.getD j 0]) t') { s with toks := s.toks + 1 })
    (hs : subscripted slice false (.str (sL l) t) (.int i u) = operate [.str (sL l) t, .int i u] (getItem (.str (sL l) t) (.int i u)) := by with_unfolding_all rfl)
    (ht : ∀ r, letTemporaryGo value (.str (sL l) t) r = pure () := by intro _; with_unfolding_all rfl) :
    wpAny (model prog w) A (subscriptTail value slice (.str (sL l) t) (.int i u)) Q E s := by
  have hc : (seqIndex? i (sL l).length).bind ((sL l).cps[·]?) = some (l.getD j 0) := by
    have e : seqIndex? i (sL l).length = some j := by
      rw [sL_len]
      unfold seqIndex?
      rcases hi with rfl | rfl
      · have h1 : ¬ ((j : Int) < 0) := by omega
        have h2 : (0 : Int) ≤ j ∧ (j : Int) < l.length := by omega
        simp [h1, hj]
      · have h1 : ((j : Int) - l.length < 0) := by omega
        simp [h1, hj]
    rw [e, sL_eq]
    simp [hj]
  have g : wpAny (model prog w) A (getItem (.str (sL l) t) (.int i u)) Q E s := P.getItem_str (by
    rw [Bool.or_eq_false_iff]; exact ⟨decide_eq_false (by omega), decide_eq_false (by omega)⟩) hc (by have := h s.toks; rw [sL_eq] at this; exact this)
  exact tail_of_ItemOn ⟨"str", _, F.slot_str_getitem.lookup, typeIs_str _ _ _, g⟩ hs ht
theorem sl_truthy {t : Tok} {n : Nat} {Q : Bool → Shared → Prop} (hn : l.length = n) (hl : n ≤ 1000) (h : Q (decide (0 < n)) { s with toks := s.toks + 1 + 1 }) : wpAny (model prog w) A (truthy (.str (sL l) t)) Q E s := by
  subst hn
  refine P.truthy_str (by rw [sL_len]; omega) ?_
  rw [sL_len]
  have e : ((l.length : Int) != 0) = decide (0 < l.length) := by
    by_cases h0 : 0 < l.length
    · rw [decide_eq_true h0, bne_iff_ne]; omega
    · have : l.length = 0 := by omega
      rw [this]; rfl
  rw [e]; exact h
theorem sl_len {t : Tok} {n : Nat} (hn : l.length = n) (hl : n ≤ 1000) (h : Q (.int (n : Int) (s.toks + 1)) { s with toks := s.toks + 1 + 1 }) : wpAny (model prog w) A (call (.builtin "len") [.str (sL l) t]) Q E s := by
  subst hn
  refine P.len_str (by rw [sL_len]; omega) ?_
  rw [sL_len]; exact h
end
end Mine

namespace Mine
open PySem PySem.Calls PySem.Builtin PySem.Builtin.Str PyProof.Rows PySem.W PyProof
section
variable {prog : Program} {w : World} {A : Around} {E : Value → Shared → Prop} {s : Shared} {value slice : PySem.Expr} {Q : Value → Shared → Prop} {l : List Nat}
theorem sl_itemP {i : Int} {t u : Tok} (hl : l.length ≤ 1000) (hi : 0 ≤ i ∧ i < l.length)
    (h : ∀ t', Q (.str (sL [l.getD i.toNat 0]) t') { s with toks := s.toks + 1 })
    (hs : subscripted slice false (.str (sL l) t) (.int i u) = operate [.str (sL l) t, .int i u] (getItem (.str (sL l) t) (.int i u)) := by with_unfolding_all rfl)
    (ht : ∀ r, letTemporaryGo value (.str (sL l) t) r = pure () := by intro _; with_unfolding_all rfl) :
    wpAny (model prog w) A (subscriptTail value slice (.str (sL l) t) (.int i u)) Q E s := sl_item hl (j := i.toNat) (by omega) (by omega) h hs ht
theorem sl_itemN {i : Int} {t u : Tok} (hl : l.length ≤ 1000) (hi : i < 0 ∧ -i ≤ l.length)
    (h : ∀ t', Q (.str (sL [l.getD (l.length - (-i).toNat) 0]) t') { s with toks := s.toks + 1 })
    (hs : subscripted slice false (.str (sL l) t) (.int i u) = operate [.str (sL l) t, .int i u] (getItem (.str (sL l) t) (.int i u)) := by with_unfolding_all rfl)
    (ht : ∀ r, letTemporaryGo value (.str (sL l) t) r = pure () := by intro _; with_unfolding_all rfl) :
    wpAny (model prog w) A (subscriptTail value slice (.str (sL l) t) (.int i u)) Q E s := sl_item hl (j := l.length - (-i).toNat) (by omega) (by omega) h hs ht
end
end Mine
namespace Mine
open PySem
theorem sL_one {c d : Nat} : (sL [c] == sL [d]) = true ↔ c = d := by rw [sL_beq]; simp
theorem sL_one_ne {c d : Nat} : (sL [c] == sL [d]) = false ↔ c ≠ d := by rw [sL_beq]; simp
end Mine
namespace Mine
open PySem PyProof.Rows
theorem truthy_int_yes {prog : Program} {w : World} {A : Around} {E : Value → Shared → Prop} {s : Shared} {p : Int} {t : Tok} {Q : Bool → Shared → Prop} (hp : p ≠ 0) (h : Q true s) : wpAny (model prog w) A (truthy (.int p t)) Q E s :=
  P.truthy_int (by
    have e : (p != 0) = true := by simpa using hp
    rw [e]; exact h)
end Mine
end
section
namespace Mine
open PySem PySem.Calls PySem.Builtin PyProof.Rows PySem.W
theorem intsAre_set : ∀ {vs : List Value} {ns : List Int} {k : Nat} {x : Int} {t : Tok}, IntsAre vs ns → IntsAre (vs.set k (.int x t)) (ns.set k x)
  | _, _, _, _, _, .nil => .nil
  | _, _, 0, x, t, .cons n u h => .cons x t h
  | _, _, k + 1, x, t, .cons n u h => .cons n u (intsAre_set h)
section
variable {prog : Program} {w : World} {A : Around} {E : Value → Shared → Prop} {s : Shared} {h₀ : Heap} {L : Addr} {m : Str → Option Value} {news : List (Addr × Obj)}
theorem row_new {Q : Value → Shared → Prop} {r : Addr} {a b c : Int} {t u v : Tok} {n : Nat} (hh : A.handled = none) (F : Fr h₀ L s.heap m) (N : News h₀ L s.heap news)
    (hr : IsRange s.heap r a b c t u v) (hsmall : Builtin.Range.small a b c = true) (hn : Builtin.Range.rangeSize a b c = (n : Int)) (hlen : n ≤ 2 ^ 24)
    (hQ : ∀ h' tk D k (ys : List Value), Fr h₀ L h' m → News h₀ L h' ((D, listOf ys.toArray k) :: news) → (∀ p ∈ news, @LT.lt Nat _ p.1 D) → IntsAre ys (rangeInts a c n) → Q (.ref D) { s with heap := h', toks := tk }) :
    wpAny (model prog w) A (call (.type "list") [.ref r]) Q E s := by
  refine list_rangeD hh F N hr hsmall hn hlen fun h' tk ys F' N' hk hnew hl hp hc => ?_
  have hL := hp.ne_locals F'
  obtain ⟨⟨k, e⟩, hoff⟩ := hp
  refine hQ h' tk _ k ys F' (fun p hp => ?_) (fun p hp => Heap.lt_size (N p hp).1) (IntsAre.ofCarried hc)
  rcases List.mem_cons.mp hp with rfl | hp
  · exact ⟨e, hL, hnew⟩
  · exact N' p hp
theorem row_get {Q : Value → Shared → Prop} {value slice : Expr} {D : Addr} {ys : List Value} {ns : List Int} {kk : Nat} {k : Int} {u : Tok} {all : List (Addr × Obj)} (N : News h₀ L s.heap all) (hm : (D, listOf ys.toArray kk) ∈ all) (hi : IntsAre ys ns)
    (h0 : 0 ≤ k) (h1 : k < ns.length) (hfit : ns.length ≤ 2 ^ 24) (h : ∀ t, Q (.int (ns.getD k.toNat 0) t) s)
    (hs : subscripted slice false (.ref D) (.int k u) = operate [.ref D, .int k u] (getItem (.ref D) (.int k u))) (hg : ∀ r, letTemporaryGo value (.ref D) r = pure ()) :
    wpAny (model prog w) A (subscriptTail value slice (.ref D) (.int k u)) Q E s :=
  item_list_ints ⟨_, (N _ hm).1, rfl, kk, rfl⟩ hi h0 h1 (by omega) h hs hg
variable {env : Env} {x : Str} {body : List Stmt} {Q : Flow → Shared → Prop}
theorem rangeRest_inv {I : Addr} {a : Int} {n : Nat} (J : Nat → (Str → Option Value) → List (Addr × Obj) → Prop)
    (turn : ∀ i t h tk m news, i < n → J i m news → Fr h₀ env.locals h (fun y => if y = x then some (.int (a + (i : Int)) t) else m y) →
      News h₀ env.locals h ((I, itR (a + ((i + 1 : Nat) : Int)) ((n : Int) - ((i + 1 : Nat) : Int))) :: news) →
      wpAny (model prog w) A (execs body env) (UnrPost h₀ env.locals { s with heap := h, toks := tk } I (itR (a + ((i + 1 : Nat) : Int)) ((n : Int) - ((i + 1 : Nat) : Int))) (J (i + 1)) Q) E { s with heap := h, toks := tk })
    (done : ∀ h tk m news, J n m news → Fr h₀ env.locals h m → News h₀ env.locals h news → Q .next { s with heap := h, toks := tk })
    {m : Str → Option Value} {news : List (Addr × Obj)} (h0 : J 0 m news) : RangeRest prog w A E h₀ env x body Q s I a n n 0 m news := by
  have all : ∀ (k i : Nat) (m : Str → Option Value) (news : List (Addr × Obj)), i + k = n → J i m news → RangeRest prog w A E h₀ env x body Q s I a n k i m news := by
    intro k
    induction k with
    | zero => intro i m news hl hj; exact RangeRest.zero fun h tk F N => done h tk m news (by rw [← hl]; exact hj) F N
    | succ k ih =>
      intro i m news hl hj
      refine RangeRest.succ fun t h tk F N => ?_
      refine wpAny_mono (turn i t h tk m news (by omega) hj F N) (fun f s₃ h3 => ?_) fun _ _ e => e
      have up : UnrEnd h₀ env.locals { s with heap := h, toks := tk } I (itR (a + ((i + 1 : Nat) : Int)) ((n : Int) - ((i + 1 : Nat) : Int))) (J (i + 1)) s₃ → UnrEnd h₀ env.locals { s with heap := h, toks := tk } I (itR (a + ((i + 1 : Nat) : Int)) ((n : Int) - ((i + 1 : Nat) : Int))) (RangeRest prog w A E h₀ env x body Q s I a n k (i + 1)) s₃ := by
        rintro ⟨h', tk', m', n', e, F', N', o, hj'⟩
        exact ⟨h', tk', m', n', e, F', N', o, ih (i + 1) m' n' (by omega) hj'⟩
      cases f with
      | ret v => exact h3
      | brk => exact h3
      | next => exact up h3
      | cont => exact up h3
  exact all n 0 m news (by omega) h0
end
theorem row0_range (n : Nat) : rangeInts 2 2 n = row0 n := by
  unfold rangeInts row0
  apply List.map_congr_left
  intro i _
  omega
theorem row0_size (n : Nat) : Builtin.Range.rangeSize 2 (2 * ((n : Int) + 1)) 2 = (n : Int) := by
  unfold Builtin.Range.rangeSize
  have h : (2 : Int) * ((n : Int) + 1) - 2 - 1 = 2 * n - 1 := by omega
  by_cases hn : n = 0
  · subst hn; rfl
  · rw [if_pos (by decide), if_pos (by omega), h]; omega
theorem row0_small {n : Nat} (hn : n ≤ 1000) : Builtin.Range.small 2 (2 * ((n : Int) + 1)) 2 = true := by
  unfold Builtin.Range.small
  rw [row0_size]
  simp [Builtin.Range.rangeFitsLong]
  omega
theorem up_size (n : Nat) : Builtin.Range.rangeSize 0 (n : Int) 1 = (n : Int) := by
  unfold Builtin.Range.rangeSize
  rw [if_pos (by decide)]
  by_cases hn : n = 0
  · subst hn; rfl
  · rw [if_pos (by omega)]; omega
theorem up_small {n : Nat} (hn : n ≤ 1000) : Builtin.Range.small 0 (n : Int) 1 = true := small_one (by omega) (by omega) (by omega) (by omega)
end Mine
end
section
namespace Mine
open PySem PySem.Calls PySem.Builtin PyProof.Rows PySem.W
theorem fr_eq {m : Str → Option Value} (ps : List (Str × Value)) (hp : ∀ p ∈ ps, m p.1 = some p.2) : kstB m ps = m := funext fun z => kstB_eq hp fun _ => rfl
theorem lowS_one (c : Nat) : lowS (sL [c]) = sL [lowN c] := by rw [sL_eq, sL_eq]; unfold lowS; simp [lowC, lowN]
theorem subS_one (c d : Nat) : subS (sL [c]) (sL [d]) = cost c d := by
  unfold subS cost
  rw [lowS_one, lowS_one, sL_beq, sL_beq]
  simp
theorem okS_one {c : Nat} (h : okc c = true) : okS (sL [c]) := okS_sL (by simp) (by simpa using h)
theorem okc_getD {l : List Nat} {k : Nat} (h : ∀ c ∈ l, okc c = true) (hk : k < l.length) : okc (l.getD k 0) = true := by
  rw [List.getD_eq_getElem?_getD, List.getElem?_eq_getElem hk]
  exact h _ (List.getElem_mem hk)
noncomputable def innAt (c : Nat) (a : List Nat) (row : List Int) (d0 r0 m0 : Int) (j : Nat) (row2 : List Int) (d r m : Int) : Prop :=
  innF c a row d0 r0 m0 = (row2.take j ++ (innF c (a.drop j) (row2.drop j) d r m).1, (innF c (a.drop j) (row2.drop j) d r m).2)
theorem innAt_zero (c : Nat) (a : List Nat) (row : List Int) (d0 r0 m0 : Int) : innAt c a row d0 r0 m0 0 row d0 r0 m0 := by
  unfold innAt; simp
theorem innAt_next {c : Nat} {a : List Nat} {row : List Int} {d0 r0 m0 : Int} {j : Nat} {row2 : List Int} {d r m : Int} (h : innAt c a row d0 r0 m0 j row2 d r m) (hj : j < a.length) (hl : row2.length = a.length)
    {r' m' : Int} (hr : r' = min (min r (row2.getD j 0) + 2) (d + cost c (a.getD j 0))) (hm : m' = if r' < m then r' else m) :
    innAt c a row d0 r0 m0 (j + 1) (row2.set j r') (row2.getD j 0) r' m' := by
  unfold innAt at h ⊢
  rw [h]
  have hj2 : j < row2.length := by omega
  rw [List.drop_eq_getElem_cons hj, List.drop_eq_getElem_cons hj2]
  have e1 : row2.getD j 0 = row2[j] := by simp [List.getD_eq_getElem?_getD, hj2]
  have e2 : a.getD j 0 = a[j] := by simp [List.getD_eq_getElem?_getD, hj]
  rw [e1, e2] at hr
  rw [e1]
  have e3 : (row2.set j r').drop (j + 1) = row2.drop (j + 1) := List.drop_set_of_lt (by omega)
  have e4 : (row2.set j r').take (j + 1) = row2.take j ++ [r'] := by
    rw [List.take_set]
    rw [List.take_add_one, List.getElem?_eq_getElem hj2]
    rw [List.set_append_right _ _ (by simp; omega)]
    have : j - (List.take j row2).length = 0 := by simp; omega
    rw [this]; rfl
  rw [e3, e4]
  simp only [innF]
  rw [← hr, ← hm]
  simp
theorem innAt_end {c : Nat} {a : List Nat} {row : List Int} {d0 r0 m0 : Int} {row2 : List Int} {d r m : Int} (h : innAt c a row d0 r0 m0 a.length row2 d r m) (hl : row2.length = a.length) : innF c a row d0 r0 m0 = (row2, r, m) := by
  unfold innAt at h
  rw [h, List.drop_length]
  rw [List.take_of_length_le (by omega)]
  simp [innF]
theorem outF_next {a : List Nat} {mx : Int} {b : List Nat} {i : Nat} {row row2 : List Int} {r r2 m2 : Int} (hi : i < b.length) (h : innF (b.getD i 0) a row (2 * i) (2 * i) big = (row2, r2, m2)) :
    outF a mx (b.drop i) i row r = if mx < m2 then mx + 1 else outF a mx (b.drop (i + 1)) (i + 1) row2 r2 := by
  rw [List.drop_eq_getElem_cons hi]
  have e : b.getD i 0 = b[i] := by simp [List.getD_eq_getElem?_getD, hi]
  rw [e] at h
  simp only [outF]
  rw [h]
theorem outF_done {a : List Nat} {mx : Int} {b : List Nat} {i : Nat} {row : List Int} {r : Int} : outF a mx (b.drop b.length) i row r = r := by
  rw [List.drop_length]; rfl
theorem off1 {I D : Addr} {news : List (Addr × Obj)} (hD : @LT.lt Nat _ D I) (hn : ∀ p ∈ news, @LT.lt Nat _ p.1 I) (o : Obj) : ∀ p ∈ (D, o) :: news, p.1 ≠ I := fun p hp => by
  rcases List.mem_cons.mp hp with rfl | hp
  · exact Nat.ne_of_lt hD
  · exact Nat.ne_of_lt (hn p hp)
theorem off2 {I C D : Addr} {news : List (Addr × Obj)} (hC : @LT.lt Nat _ C I) (hD : @LT.lt Nat _ D I) (hn : ∀ p ∈ news, @LT.lt Nat _ p.1 I) (o o' : Obj) : ∀ p ∈ (C, o') :: (D, o) :: news, p.1 ≠ I := fun p hp => by
  rcases List.mem_cons.mp hp with rfl | hp
  · exact Nat.ne_of_lt hC
  · exact off1 hD hn o p hp
theorem row0_len (n : Nat) : (row0 n).length = n := by simp [row0]
end Mine
namespace Mine
theorem neg_nat (j : Nat) : (-(-(j : Int))).toNat = j := by rw [Int.neg_neg]; rfl
theorem suf_pos {n j : Nat} {p : Int} (h0 : p = -(j : Int)) (h : 0 < min (n - (-p).toNat) n) : j < n := by
  subst h0
  rw [neg_nat] at h
  exact Nat.lt_of_sub_pos (Nat.lt_of_lt_of_le h (Nat.min_le_left _ _))
theorem suf_neg (j : Nat) : -(j : Int) - 1 = -((j + 1 : Nat) : Int) := by rw [Int.natCast_add, Int.neg_add]; rfl
theorem suf_idx {n j : Nat} {p : Int} (h0 : p = -(j : Int)) (_hj : j < n) : n - (-(p - 1)).toNat = n - 1 - j := by
  subst h0
  rw [suf_neg, neg_nat, Nat.sub_sub, Nat.add_comm]
theorem suf_idx0 {n j : Nat} (hj : j = 0) : n - (-((0 : Int) - 1)).toNat = n - 1 - j := by subst hj; rfl
theorem suf_nil {l : List Nat} {j : Nat} {p : Int} (h0 : p = -(j : Int)) (h : ¬ 0 < min (l.length - (-p).toNat) l.length) : l.take (l.length - j) = [] := by
  subst h0
  rw [neg_nat] at h
  refine List.eq_nil_of_length_eq_zero ?_
  rw [List.length_take]
  exact Nat.eq_zero_of_not_pos h
theorem suf_dec {n j : Nat} (h : j < n) : n - (j + 1) < n - j := Nat.sub_lt_sub_left h (Nat.lt_succ_self j)
end Mine
end
section
open PySem PySem.W PyProof.Rows PySem.Calls
namespace Mine
local macro_rules | `(tactic| walk_at "exec While BoolOp cons nil") => `(tactic| (k_here; refine Hold.on ?_))
local macro_rules | `(tactic| walk_at "subscriptTail Name Slice str ref") => `(tactic| (k_here; (with_reducible show wpAny _ _ (subscriptTail _ (Expr.Slice (some _) none none _) (Value.str _ _) (Value.ref _)) _ _ _); k_dflt (refine' sl_from ?k1 ?k2 ?k3 ?k6 ?_ ?k4 ?k5; (case k1 => k_asm); (case k2 => k_asm); (case k3 => ((try simp only [List.length_drop, List.length_take]); omega)); (case k6 => omega); (case k4 => with_unfolding_all rfl); (case k5 => (intro _; with_unfolding_all rfl))); intro h' t9' k9' F' N'; (try dsimp only)))
local macro_rules | `(tactic| walk_at "subscriptTail Name Name str int") => `(tactic| (k_here; (with_reducible show wpAny _ _ (subscriptTail _ _ (Value.str _ _) (Value.int _ _)) _ _ _); k_dflt (refine' sl_itemP ?k3 ?k6 ?_ ?k4 ?k5; (case k3 => ((try simp only [List.length_drop, List.length_take]); omega)); (case k6 => ((try simp only [List.length_drop, List.length_take]); omega)); (case k4 => with_unfolding_all rfl); (case k5 => (intro _; with_unfolding_all rfl))); intro t9'; (try dsimp only)))
local macro_rules | `(tactic| walk_at "subscriptTail Name BinOp str int") => `(tactic| (k_here; (with_reducible show wpAny _ _ (subscriptTail _ _ (Value.str _ _) (Value.int _ _)) _ _ _); k_dflt (refine' sl_itemN ?k3 ?k6 ?_ ?k4 ?k5; (case k3 => ((try simp only [List.length_drop, List.length_take]); omega)); (case k6 => ((try simp only [List.length_drop, List.length_take]); omega)); (case k4 => with_unfolding_all rfl); (case k5 => (intro _; with_unfolding_all rfl))); intro t9'; (try dsimp only)))
local macro_rules | `(tactic| walk_at "truthy str") => `(tactic| (k_here; (with_reducible show wpAny _ _ (truthy (Value.str (sL _) _)) _ _ _); (refine' sl_truthy ?kn ?k3 ?_; (case kn => ((try simp only [List.length_drop, List.length_take]); rfl)); (case k3 => omega)); (try dsimp only)))
local macro_rules | `(tactic| walk_at "subscriptTail Name Slice str ref") => `(tactic| (k_here; (with_reducible show wpAny _ _ (subscriptTail _ (Expr.Slice none (some _) none _) (Value.str _ _) (Value.ref _)) _ _ _); k_dflt (refine' sl_upto ?k1 ?k2 ?k3 ?k6 ?_ ?k4 ?k5; (case k1 => k_asm); (case k2 => k_asm); (case k3 => ((try simp only [List.length_drop, List.length_take]); omega)); (case k6 => ((try simp only [List.length_drop, List.length_take]); omega)); (case k4 => with_unfolding_all rfl); (case k5 => (intro _; with_unfolding_all rfl))); intro h' t9' k9' F' N'; (try dsimp only)))
local macro_rules | `(tactic| walk_at "subscriptTail Name Slice str ref") => `(tactic| (k_here; (with_reducible show wpAny _ _ (subscriptTail _ (Expr.Slice none (some _) none _) (Value.str _ _) (Value.ref _)) _ _ _); k_dflt (refine' sl_full ?k1 ?k2 ?k3 ?_ ?k4 ?k5; (case k1 => k_asm); (case k2 => k_asm); (case k3 => ((try simp only [List.length_drop, List.length_take]); omega)); (case k4 => with_unfolding_all rfl); (case k5 => (intro _; with_unfolding_all rfl))); intro h' t9' k9' F' N'; (try dsimp only)))
local macro_rules | `(tactic| walk_at "truthy int") => `(tactic| (k_here; (with_reducible show wpAny _ _ (truthy (Value.int _ _)) _ _ _); refine truthy_int_yes ?hp9 ?_; (case hp9 => omega)))
local macro_rules | `(tactic| walk_at "exec Assign") => `(tactic| (k_here; (with_reducible show wpAny _ _ (exec (Stmt.Assign [Expr.Name _ _] (Expr.Subscript _ (Expr.Slice none (some (Expr.BoolOp _ _ _)) none _) _) _) _) _ _ _); (fail_if_success (with_reducible rename NoHold => nhX)); refine Hold.on ?_))
local macro_rules | `(tactic| walk_at "exec If") => `(tactic| (k_here; (with_reducible show wpAny _ _ (exec (Stmt.If _ [Stmt.Assign [Expr.Tuple _ _ _] _ _] [] _) _) _ _ _); (fail_if_success (with_reducible rename NoHold => nhX)); refine Hold.on ?_))
local macro_rules | `(tactic| walk_at "exec For Name Call cons nil") => `(tactic| (k_here; refine Hold.on ?_))
local macro_rules | `(tactic| walk_at "call builtin:len") => `(tactic| (k_here; (with_reducible show wpAny _ _ (call (Value.builtin "len") [Value.str (sL _) _]) _ _ _); (refine' sl_len ?kn ?k3 ?_; (case kn => ((try simp only [List.length_drop, List.length_take]); rfl)); (case k3 => omega)); (try dsimp only)))
local macro_rules | `(tactic| walk_at "call type:list") => `(tactic| (k_here; refine Hold.on ?_))
local macro_rules | `(tactic| walk_at "pyIter ref") => `(tactic| ((with_reducible show wpAny _ _ (pyIter (Value.ref _)) (fun it s₂ => LoopAtV _ _ _ _ _ _ _ _ _ it s₂) _ _); refine Hold.on ?_))
local macro_rules | `(tactic| walk_at "UnrEnd") => `(tactic| (refine Hold.on ?_))
local macro_rules | `(tactic| walk_at "subscriptTail Name Name ref int") => `(tactic| (k_here; refine Hold.on ?_))
local macro_rules | `(tactic| walk_at "call ref") => `(tactic| (k_here; refine Hold.on ?_))

theorem lev_walk {w : World} {loose : List Str} {mean : ExcName → Option Value} {mg mb : Str → Option Value}
  {dp un : Nat} {gd : Option (List Code)} {cn : Str} {csn : List (Str × NameKind)} {csg csc : Bool} {csm : List (Str × Const)} {a : Addr} {ccd : Value} {cl : List (Str × Addr)} {outer : List Env} {A₀ : Around} {base h₀ : Heap} {L : Addr} {m : Str → Option Value} {news : List (Addr × Obj)} {s : Shared} {Q E : Value → Shared → Prop}
  {x y : List Nat} {mx : Int} {t1 t2 t3 : Tok}
  (B : Below A₀ base outer h₀) (F : Fr h₀ L s.heap m) (X : (hd03.heap_39 w.params).In h₀)
  (N : News h₀ L s.heap news) (T : Top hd03.view_39 loose mean mg mb h₀)
  (hd : dp + 12 < recursionLimit) (hu : un + 96 < cLine) (hx : ∀ c ∈ x, okc c = true) (hy : ∀ c ∈ y, okc c = true) (hxl : x.length ≤ 40) (hyl : y.length ≤ 40) (hmx : 0 ≤ mx ∧ mx ≤ 1000)
  (ret : ∀ (t : Tok) (h' : Heap) (tk' : Nat), Fr h₀ L h' m → News h₀ L h' news → Q (.int (lev x y mx) t) { s with heap := h', toks := tk' }) :
  wpAny (model PySem.Challenge.rw_sw0068_03.row.prog w) (ktrTop dp un gd cn ⟨.function, csn, csg, csc, csm⟩ L a ccd cl outer) (call (.ref 52) [.str (sL x) t1, .str (sL y) t2, .int mx t3]) Q E s := by
  revert X; k_fill; intro X
  refine wpAny_call ?_
  k_dflt k_enter
  (k_steps; repeat' (refine Hold.off ?_; first | ((with_reducible show wpAny _ _ (call (Value.ref 45) [Value.str _ _, Value.str _ _]) _ _ _); k_dflt (refine' sub_walk ?k1 ?k2 ?k3 ?k4 ?k5 ?k6 ?k7 ?k8 ?_; (case k1 => k_asm); (case k2 => k_asm); (case k3 => k_asm); (case k4 => k_asm); (case k5 => k_asm); (case k6 => k_room); (case k7 => exact okS_one (okc_getD (by with_reducible assumption) (by omega))); (case k8 => exact okS_one (okc_getD (by with_reducible assumption) (by omega)))); intro t9' h' tk9' F' N'; rw [subS_one]; k_steps) | ((with_reducible show wpAny _ _ (subscriptTail _ _ (Value.ref _) (Value.int _ _)) _ _ _); k_dflt (refine' row_get ?k1 ?k2 (by with_reducible assumption) ?k3 ?k4 ?k5 ?_ ?k6 ?k7; (case k1 => k_asm); (case k2 => k_mem); (case k3 => omega); (case k4 => omega); (case k5 => omega); (case k6 => with_unfolding_all rfl); (case k7 => (intro _; with_unfolding_all rfl))); intro t9'; (try dsimp only); k_steps)))
  · have e : lev x y mx = 0 := by
      have e2 : x = y := by
        have h9 : (sL x == sL y) = true := by assumption
        rw [sL_beq] at h9; simpa using h9
      unfold lev; rw [if_pos e2]
    rw [e] at ret
    exact ret _ _ _ (by k_asm) (by k_asm)
  have hne : x ≠ y := by
    have h9 : (sL x == sL y) = false := by assumption
    rw [sL_beq] at h9; simpa using h9
  refine Hold.off ?_
  (with_reducible rename Fr _ _ _ _ => F9)
  refine nextWith_seq F9 (fun m' n' => news = n' ∧ ∃ (k : Nat) (t : Tok), m' (Str.ofString "a") = some (.str (sL x) t1) ∧ m' (Str.ofString "b") = some (.str (sL y) t2) ∧ m' (Str.ofString "max_cost") = some (.int mx t3) ∧ m' (Str.ofString "pre") = some (.int (k : Int) t) ∧ k ≤ x.length ∧ k ≤ y.length ∧ stripPre x y = (x.drop k, y.drop k)) ?while1 ?rest1
  case while1 =>
    refine' ksw_while (σ := Nat × Tok) (fun _ => news) (fun c => [(Str.ofString "pre", .int (c.1 : Int) c.2)]) (fun _ => True) []
      (fun c => c.1 ≤ x.length ∧ c.1 ≤ y.length ∧ stripPre x y = stripPre (x.drop c.1) (y.drop c.1)) (fun c => x.length - c.1) (0, _) F9 ?hN trivial ?hk ?hp ?turn ?hE
    case hN => k_asm
    case hk => exact List.forall_mem_cons.mpr ⟨by with_unfolding_all rfl, List.forall_mem_nil _⟩
    case hp => exact ⟨Nat.zero_le _, Nat.zero_le _, rfl⟩
    case hE => passes_own
    case turn =>
      rintro ⟨k, ta⟩ u h tk9 - ⟨h1, h2, h3⟩ F' N'
      dsimp only [kstB] at F'
      dsimp only at h1 h2 h3
      (k_steps; repeat' (refine Hold.off ?_; first | ((with_reducible show wpAny _ _ (call (Value.ref 45) [Value.str _ _, Value.str _ _]) _ _ _); k_dflt (refine' sub_walk ?k1 ?k2 ?k3 ?k4 ?k5 ?k6 ?k7 ?k8 ?_; (case k1 => k_asm); (case k2 => k_asm); (case k3 => k_asm); (case k4 => k_asm); (case k5 => k_asm); (case k6 => k_room); (case k7 => exact okS_one (okc_getD (by with_reducible assumption) (by omega))); (case k8 => exact okS_one (okc_getD (by with_reducible assumption) (by omega)))); intro t9' h' tk9' F' N'; rw [subS_one]; k_steps) | ((with_reducible show wpAny _ _ (subscriptTail _ _ (Value.ref _) (Value.int _ _)) _ _ _); k_dflt (refine' row_get ?k1 ?k2 (by with_reducible assumption) ?k3 ?k4 ?k5 ?_ ?k6 ?k7; (case k1 => k_asm); (case k2 => k_mem); (case k3 => omega); (case k4 => omega); (case k5 => omega); (case k6 => with_unfolding_all rfl); (case k7 => (intro _; with_unfolding_all rfl))); intro t9'; (try dsimp only); k_steps)))
      · have h9 := sL_one.mp (by assumption)
        rw [Int.toNat_natCast] at h9
        refine' ksw_end (k + 1, _) ?zF ?zN ?zn trivial ?zk ?zr ⟨by dsimp only; omega, by dsimp only; omega, ?zs⟩ ?zm
        case zF => k_asm
        case zN => assumption
        case zn => kcf_all
        case zk => exact List.forall_mem_cons.mpr ⟨by with_unfolding_all rfl, List.forall_mem_nil _⟩
        case zr => ksw_same
        case zs => dsimp only; rw [h3]; exact stripPre_drop (by omega) (by omega) h9
        case zm => dsimp only; omega
      · have h9 := sL_one_ne.mp (by assumption)
        rw [Int.toNat_natCast] at h9
        exact NextWith.intro (by k_asm) (by k_asm) ⟨rfl, k, _, by with_unfolding_all rfl, by with_unfolding_all rfl, by with_unfolding_all rfl, by with_unfolding_all rfl, h1, h2, by rw [h3]; exact stripPre_stop (.inr (.inr h9))⟩
      · exact NextWith.intro (by k_asm) (by k_asm) ⟨rfl, k, _, by with_unfolding_all rfl, by with_unfolding_all rfl, by with_unfolding_all rfl, by with_unfolding_all rfl, h1, h2, by rw [h3]; exact stripPre_stop (.inr (.inl (by simp only [List.drop_eq_nil_iff]; omega)))⟩
      · exact NextWith.intro (by k_asm) (by k_asm) ⟨rfl, k, _, by with_unfolding_all rfl, by with_unfolding_all rfl, by with_unfolding_all rfl, by with_unfolding_all rfl, h1, h2, by rw [h3]; exact stripPre_stop (.inl (by simp only [List.drop_eq_nil_iff]; omega))⟩
  case rest1 =>
    rintro h tk m' n' F' N' ⟨rfl, k, t, ha, hb, hmc, hpre, hk1, hk2, hstrip⟩
    replace F' := fr_known [(_, _), (_, _), (_, _), (_, _)] (List.forall_mem_cons.mpr ⟨ha, List.forall_mem_cons.mpr ⟨hb, List.forall_mem_cons.mpr ⟨hmc, List.forall_mem_cons.mpr ⟨hpre, List.forall_mem_nil _⟩⟩⟩⟩) F'
    dsimp only [kstB] at F'
    clear ha hb hmc hpre
    (k_steps; repeat' (refine Hold.off ?_; first | ((with_reducible show wpAny _ _ (call (Value.ref 45) [Value.str _ _, Value.str _ _]) _ _ _); k_dflt (refine' sub_walk ?k1 ?k2 ?k3 ?k4 ?k5 ?k6 ?k7 ?k8 ?_; (case k1 => k_asm); (case k2 => k_asm); (case k3 => k_asm); (case k4 => k_asm); (case k5 => k_asm); (case k6 => k_room); (case k7 => exact okS_one (okc_getD (by with_reducible assumption) (by omega))); (case k8 => exact okS_one (okc_getD (by with_reducible assumption) (by omega)))); intro t9' h' tk9' F' N'; rw [subS_one]; k_steps) | ((with_reducible show wpAny _ _ (subscriptTail _ _ (Value.ref _) (Value.int _ _)) _ _ _); k_dflt (refine' row_get ?k1 ?k2 (by with_reducible assumption) ?k3 ?k4 ?k5 ?_ ?k6 ?k7; (case k1 => k_asm); (case k2 => k_mem); (case k3 => omega); (case k4 => omega); (case k5 => omega); (case k6 => with_unfolding_all rfl); (case k7 => (intro _; with_unfolding_all rfl))); intro t9'; (try dsimp only); k_steps)))
    refine Hold.off ?_
    (with_reducible rename Fr _ _ _ _ => F8)
    have hlev : lev x y mx = core (stripSuf (x.drop k) (y.drop k)).1 (stripSuf (x.drop k) (y.drop k)).2 mx := by
      unfold lev; rw [if_neg hne, hstrip]
    rw [hlev] at ret
    have hax : ∀ c ∈ x.drop k, okc c = true := fun c hc => hx c (List.mem_of_mem_drop hc)
    have hay : ∀ c ∈ y.drop k, okc c = true := fun c hc => hy c (List.mem_of_mem_drop hc)
    have hlx : (x.drop k).length ≤ 40 := by rw [List.length_drop]; omega
    have hly : (y.drop k).length ≤ 40 := by rw [List.length_drop]; omega
    simp only [Int.toNat_natCast] at F8 ⊢
    clear hstrip hlev hne hx hy hxl hyl hk1 hk2
    generalize x.drop k = xa at *
    generalize y.drop k = ya at *
    refine nextWith_seq F8 (fun m' n' => news = n' ∧ ∃ (j : Nat) (p : Int) (t t8 t9 : Tok), m' (Str.ofString "a") = some (.str (sL xa) t8) ∧ m' (Str.ofString "b") = some (.str (sL ya) t9) ∧ m' (Str.ofString "max_cost") = some (.int mx t3) ∧ m' (Str.ofString "post") = some (.int p t) ∧ p = -(j : Int) ∧ j ≤ xa.length ∧ j ≤ ya.length ∧ stripSuf xa ya = (xa.take (xa.length - j), ya.take (ya.length - j))) ?while2 ?rest2
    case while2 =>
      refine' ksw_while (σ := Nat × Int × Tok) (fun _ => news) (fun c => [(Str.ofString "post", .int c.2.1 c.2.2)]) (fun _ => True) []
        (fun c => c.2.1 = -(c.1 : Int) ∧ c.1 ≤ xa.length ∧ c.1 ≤ ya.length ∧ sufAt xa ya c.1) (fun c => xa.length - c.1) (0, 0, _) F8 ?wN trivial ?wk ?wp ?wturn ?wE
      case wN => k_asm
      case wk => exact List.forall_mem_cons.mpr ⟨by with_unfolding_all rfl, List.forall_mem_nil _⟩
      case wp => exact ⟨rfl, Nat.zero_le _, Nat.zero_le _, rfl⟩
      case wE => passes_own
      case wturn =>
        rintro ⟨j, p, ta⟩ u h tk9 - ⟨h0, h1, h2, h3⟩ F' N'
        dsimp only [kstB] at F'
        dsimp only at h0 h1 h2 h3
        rcases Nat.eq_zero_or_pos j with hj | hj
        · have hp0 : p = 0 := by omega
          subst hp0
          (k_steps; repeat' (refine Hold.off ?_; first | ((with_reducible show wpAny _ _ (call (Value.ref 45) [Value.str _ _, Value.str _ _]) _ _ _); k_dflt (refine' sub_walk ?k1 ?k2 ?k3 ?k4 ?k5 ?k6 ?k7 ?k8 ?_; (case k1 => k_asm); (case k2 => k_asm); (case k3 => k_asm); (case k4 => k_asm); (case k5 => k_asm); (case k6 => k_room); (case k7 => exact okS_one (okc_getD (by with_reducible assumption) (by omega))); (case k8 => exact okS_one (okc_getD (by with_reducible assumption) (by omega)))); intro t9' h' tk9' F' N'; rw [subS_one]; k_steps) | ((with_reducible show wpAny _ _ (subscriptTail _ _ (Value.ref _) (Value.int _ _)) _ _ _); k_dflt (refine' row_get ?k1 ?k2 (by with_reducible assumption) ?k3 ?k4 ?k5 ?_ ?k6 ?k7; (case k1 => k_asm); (case k2 => k_mem); (case k3 => omega); (case k4 => omega); (case k5 => omega); (case k6 => with_unfolding_all rfl); (case k7 => (intro _; with_unfolding_all rfl))); intro t9'; (try dsimp only); k_steps)))
          · have hc := sL_one.mp (by assumption)
            have e1 : xa.length - (-(0 - 1)).toNat = xa.length - 1 - j := suf_idx0 hj
            have e2 : ya.length - (-(0 - 1)).toNat = ya.length - 1 - j := suf_idx0 hj
            rw [e1, e2] at hc
            refine' ksw_end (j + 1, 0 - 1, _) ?zF ?zN ?zn trivial ?zk ?zr ⟨by dsimp only; omega, by dsimp only; omega, by dsimp only; omega, sufAt_next h3 (by omega) (by omega) hc⟩ (by dsimp only; omega)
            case zF => k_asm
            case zN => assumption
            case zn => kcf_all
            case zk => exact List.forall_mem_cons.mpr ⟨by with_unfolding_all rfl, List.forall_mem_nil _⟩
            case zr => ksw_same
          · have hc := sL_one_ne.mp (by assumption)
            have e1 : xa.length - (-(0 - 1)).toNat = xa.length - 1 - j := suf_idx0 hj
            have e2 : ya.length - (-(0 - 1)).toNat = ya.length - 1 - j := suf_idx0 hj
            rw [e1, e2] at hc
            exact NextWith.intro (by k_asm) (by k_asm) ⟨rfl, j, _, _, _, _, by with_unfolding_all rfl, by with_unfolding_all rfl, by with_unfolding_all rfl, by with_unfolding_all rfl, h0, h1, h2, sufAt_stop h3 (.inr (.inr ⟨by omega, by omega, hc⟩))⟩
          · exact NextWith.intro (by k_asm) (by k_asm) ⟨rfl, j, _, _, _, _, by with_unfolding_all rfl, by with_unfolding_all rfl, by with_unfolding_all rfl, by with_unfolding_all rfl, h0, h1, h2, sufAt_stop h3 (.inr (.inl (List.eq_nil_of_length_eq_zero (by rw [List.length_take]; omega))))⟩
          · exact NextWith.intro (by k_asm) (by k_asm) ⟨rfl, j, _, _, _, _, by with_unfolding_all rfl, by with_unfolding_all rfl, by with_unfolding_all rfl, by with_unfolding_all rfl, h0, h1, h2, sufAt_stop h3 (.inl (List.eq_nil_of_length_eq_zero (by rw [List.length_take]; omega)))⟩
        · have hp0 : p < 0 := by omega
          (k_steps; repeat' (refine Hold.off ?_; first | ((with_reducible show wpAny _ _ (call (Value.ref 45) [Value.str _ _, Value.str _ _]) _ _ _); k_dflt (refine' sub_walk ?k1 ?k2 ?k3 ?k4 ?k5 ?k6 ?k7 ?k8 ?_; (case k1 => k_asm); (case k2 => k_asm); (case k3 => k_asm); (case k4 => k_asm); (case k5 => k_asm); (case k6 => k_room); (case k7 => exact okS_one (okc_getD (by with_reducible assumption) (by omega))); (case k8 => exact okS_one (okc_getD (by with_reducible assumption) (by omega)))); intro t9' h' tk9' F' N'; rw [subS_one]; k_steps) | ((with_reducible show wpAny _ _ (subscriptTail _ _ (Value.ref _) (Value.int _ _)) _ _ _); k_dflt (refine' row_get ?k1 ?k2 (by with_reducible assumption) ?k3 ?k4 ?k5 ?_ ?k6 ?k7; (case k1 => k_asm); (case k2 => k_mem); (case k3 => omega); (case k4 => omega); (case k5 => omega); (case k6 => with_unfolding_all rfl); (case k7 => (intro _; with_unfolding_all rfl))); intro t9'; (try dsimp only); k_steps)))
          · have hc := sL_one.mp (by assumption)
            have hxj : j < xa.length := suf_pos h0 (by assumption)
            have hyj : j < ya.length := suf_pos h0 (by assumption)
            have e1 : xa.length - (-(p - 1)).toNat = xa.length - 1 - j := suf_idx h0 hxj
            have e2 : ya.length - (-(p - 1)).toNat = ya.length - 1 - j := suf_idx h0 hyj
            rw [e1, e2] at hc
            refine' ksw_end (j + 1, p - 1, _) ?zF ?zN ?zn trivial ?zk ?zr ⟨by dsimp only; clear hxj hyj e1 e2; rw [h0]; exact suf_neg j, hxj, hyj, sufAt_next h3 hxj hyj hc⟩ (suf_dec hxj)
            case zF => k_asm
            case zN => assumption
            case zn => kcf_all
            case zk => exact List.forall_mem_cons.mpr ⟨by with_unfolding_all rfl, List.forall_mem_nil _⟩
            case zr => ksw_same
          · have hc := sL_one_ne.mp (by assumption)
            have hxj : j < xa.length := suf_pos h0 (by assumption)
            have hyj : j < ya.length := suf_pos h0 (by assumption)
            have e1 : xa.length - (-(p - 1)).toNat = xa.length - 1 - j := suf_idx h0 hxj
            have e2 : ya.length - (-(p - 1)).toNat = ya.length - 1 - j := suf_idx h0 hyj
            rw [e1, e2] at hc
            exact NextWith.intro (by k_asm) (by k_asm) ⟨rfl, j, _, _, _, _, by with_unfolding_all rfl, by with_unfolding_all rfl, by with_unfolding_all rfl, by with_unfolding_all rfl, h0, h1, h2, sufAt_stop h3 (.inr (.inr ⟨hxj, hyj, hc⟩))⟩
          · exact NextWith.intro (by k_asm) (by k_asm) ⟨rfl, j, _, _, _, _, by with_unfolding_all rfl, by with_unfolding_all rfl, by with_unfolding_all rfl, by with_unfolding_all rfl, h0, h1, h2, sufAt_stop h3 (.inr (.inl (suf_nil h0 (by assumption))))⟩
          · exact NextWith.intro (by k_asm) (by k_asm) ⟨rfl, j, _, _, _, _, by with_unfolding_all rfl, by with_unfolding_all rfl, by with_unfolding_all rfl, by with_unfolding_all rfl, h0, h1, h2, sufAt_stop h3 (.inl (suf_nil h0 (by assumption)))⟩
    case rest2 =>
      rintro h tk m' n' F' N' ⟨rfl, j, p, t, t8, t9, ha, hb, hmc, hpost, hp, hj1, hj2, hsuf⟩
      rw [hsuf] at ret
      replace F' := fr_known [(_, _), (_, _), (_, _), (_, _)] (List.forall_mem_cons.mpr ⟨ha, List.forall_mem_cons.mpr ⟨hb, List.forall_mem_cons.mpr ⟨hmc, List.forall_mem_cons.mpr ⟨hpost, List.forall_mem_nil _⟩⟩⟩⟩) F'
      dsimp only [kstB] at F'
      clear ha hb hmc hpost hsuf
      (k_steps; repeat' (refine Hold.off ?_; first | ((with_reducible show wpAny _ _ (call (Value.ref 45) [Value.str _ _, Value.str _ _]) _ _ _); k_dflt (refine' sub_walk ?k1 ?k2 ?k3 ?k4 ?k5 ?k6 ?k7 ?k8 ?_; (case k1 => k_asm); (case k2 => k_asm); (case k3 => k_asm); (case k4 => k_asm); (case k5 => k_asm); (case k6 => k_room); (case k7 => exact okS_one (okc_getD (by with_reducible assumption) (by omega))); (case k8 => exact okS_one (okc_getD (by with_reducible assumption) (by omega)))); intro t9' h' tk9' F' N'; rw [subS_one]; k_steps) | ((with_reducible show wpAny _ _ (subscriptTail _ _ (Value.ref _) (Value.int _ _)) _ _ _); k_dflt (refine' row_get ?k1 ?k2 (by with_reducible assumption) ?k3 ?k4 ?k5 ?_ ?k6 ?k7; (case k1 => k_asm); (case k2 => k_mem); (case k3 => omega); (case k4 => omega); (case k5 => omega); (case k6 => with_unfolding_all rfl); (case k7 => (intro _; with_unfolding_all rfl))); intro t9'; (try dsimp only); k_steps)))
      refine Hold.off ?_
      (with_reducible rename Fr _ _ _ _ => F7)
      refine nextWith_seq F7 (fun m' n' => news = n' ∧ ∃ (t t8 t9 : Tok), m' (Str.ofString "a") = some (.str (sL (xa.take (xa.length - j))) t8) ∧ m' (Str.ofString "b") = some (.str (sL ya) t9) ∧ m' (Str.ofString "max_cost") = some (.int mx t3) ∧ m' (Str.ofString "post") = some (.int p t)) ?as1 ?rest3
      case as1 =>
        have nh : NoHold := ⟨⟩
        rcases Nat.eq_zero_or_pos j with hj | hj
        · have hp0 : p = 0 := by omega
          subst hp0
          have e : xa.take (xa.length - j) = xa := by rw [hj]; simp
          rw [e]
          (k_steps; repeat' (refine Hold.off ?_; first | ((with_reducible show wpAny _ _ (call (Value.ref 45) [Value.str _ _, Value.str _ _]) _ _ _); k_dflt (refine' sub_walk ?k1 ?k2 ?k3 ?k4 ?k5 ?k6 ?k7 ?k8 ?_; (case k1 => k_asm); (case k2 => k_asm); (case k3 => k_asm); (case k4 => k_asm); (case k5 => k_asm); (case k6 => k_room); (case k7 => exact okS_one (okc_getD (by with_reducible assumption) (by omega))); (case k8 => exact okS_one (okc_getD (by with_reducible assumption) (by omega)))); intro t9' h' tk9' F' N'; rw [subS_one]; k_steps) | ((with_reducible show wpAny _ _ (subscriptTail _ _ (Value.ref _) (Value.int _ _)) _ _ _); k_dflt (refine' row_get ?k1 ?k2 (by with_reducible assumption) ?k3 ?k4 ?k5 ?_ ?k6 ?k7; (case k1 => k_asm); (case k2 => k_mem); (case k3 => omega); (case k4 => omega); (case k5 => omega); (case k6 => with_unfolding_all rfl); (case k7 => (intro _; with_unfolding_all rfl))); intro t9'; (try dsimp only); k_steps)))
          exact NextWith.intro (by k_asm) (by k_asm) ⟨rfl, _, _, _, by with_unfolding_all rfl, by with_unfolding_all rfl, by with_unfolding_all rfl, by with_unfolding_all rfl⟩
        · have hp0 : p < 0 := by omega
          have e : j = (-p).toNat := by omega
          rw [e]
          (k_steps; repeat' (refine Hold.off ?_; first | ((with_reducible show wpAny _ _ (call (Value.ref 45) [Value.str _ _, Value.str _ _]) _ _ _); k_dflt (refine' sub_walk ?k1 ?k2 ?k3 ?k4 ?k5 ?k6 ?k7 ?k8 ?_; (case k1 => k_asm); (case k2 => k_asm); (case k3 => k_asm); (case k4 => k_asm); (case k5 => k_asm); (case k6 => k_room); (case k7 => exact okS_one (okc_getD (by with_reducible assumption) (by omega))); (case k8 => exact okS_one (okc_getD (by with_reducible assumption) (by omega)))); intro t9' h' tk9' F' N'; rw [subS_one]; k_steps) | ((with_reducible show wpAny _ _ (subscriptTail _ _ (Value.ref _) (Value.int _ _)) _ _ _); k_dflt (refine' row_get ?k1 ?k2 (by with_reducible assumption) ?k3 ?k4 ?k5 ?_ ?k6 ?k7; (case k1 => k_asm); (case k2 => k_mem); (case k3 => omega); (case k4 => omega); (case k5 => omega); (case k6 => with_unfolding_all rfl); (case k7 => (intro _; with_unfolding_all rfl))); intro t9'; (try dsimp only); k_steps)))
          exact NextWith.intro (by k_asm) (by k_asm) ⟨rfl, _, _, _, by with_unfolding_all rfl, by with_unfolding_all rfl, by with_unfolding_all rfl, by with_unfolding_all rfl⟩
      case rest3 =>
        rintro h tk m' n' F' N' ⟨rfl, t, t8, t9, ha, hb, hmc, hpost⟩
        replace F' := fr_known [(_, _), (_, _), (_, _), (_, _)] (List.forall_mem_cons.mpr ⟨ha, List.forall_mem_cons.mpr ⟨hb, List.forall_mem_cons.mpr ⟨hmc, List.forall_mem_cons.mpr ⟨hpost, List.forall_mem_nil _⟩⟩⟩⟩) F'
        dsimp only [kstB] at F'
        clear ha hb hmc hpost
        (k_steps; repeat' (refine Hold.off ?_; first | ((with_reducible show wpAny _ _ (call (Value.ref 45) [Value.str _ _, Value.str _ _]) _ _ _); k_dflt (refine' sub_walk ?k1 ?k2 ?k3 ?k4 ?k5 ?k6 ?k7 ?k8 ?_; (case k1 => k_asm); (case k2 => k_asm); (case k3 => k_asm); (case k4 => k_asm); (case k5 => k_asm); (case k6 => k_room); (case k7 => exact okS_one (okc_getD (by with_reducible assumption) (by omega))); (case k8 => exact okS_one (okc_getD (by with_reducible assumption) (by omega)))); intro t9' h' tk9' F' N'; rw [subS_one]; k_steps) | ((with_reducible show wpAny _ _ (subscriptTail _ _ (Value.ref _) (Value.int _ _)) _ _ _); k_dflt (refine' row_get ?k1 ?k2 (by with_reducible assumption) ?k3 ?k4 ?k5 ?_ ?k6 ?k7; (case k1 => k_asm); (case k2 => k_mem); (case k3 => omega); (case k4 => omega); (case k5 => omega); (case k6 => with_unfolding_all rfl); (case k7 => (intro _; with_unfolding_all rfl))); intro t9'; (try dsimp only); k_steps)))
        refine Hold.off ?_
        (with_reducible rename Fr _ _ _ _ => F6)
        refine nextWith_seq F6 (fun m' n' => news = n' ∧ ∃ (t8 t9 : Tok), m' (Str.ofString "a") = some (.str (sL (xa.take (xa.length - j))) t8) ∧ m' (Str.ofString "b") = some (.str (sL (ya.take (ya.length - j))) t9) ∧ m' (Str.ofString "max_cost") = some (.int mx t3)) ?as2 ?rest4
        case as2 =>
          have nh : NoHold := ⟨⟩
          rcases Nat.eq_zero_or_pos j with hj | hj
          · have hp0 : p = 0 := by omega
            subst hp0
            have e : ya.take (ya.length - j) = ya := by rw [hj]; simp
            rw [e]
            (k_steps; repeat' (refine Hold.off ?_; first | ((with_reducible show wpAny _ _ (call (Value.ref 45) [Value.str _ _, Value.str _ _]) _ _ _); k_dflt (refine' sub_walk ?k1 ?k2 ?k3 ?k4 ?k5 ?k6 ?k7 ?k8 ?_; (case k1 => k_asm); (case k2 => k_asm); (case k3 => k_asm); (case k4 => k_asm); (case k5 => k_asm); (case k6 => k_room); (case k7 => exact okS_one (okc_getD (by with_reducible assumption) (by omega))); (case k8 => exact okS_one (okc_getD (by with_reducible assumption) (by omega)))); intro t9' h' tk9' F' N'; rw [subS_one]; k_steps) | ((with_reducible show wpAny _ _ (subscriptTail _ _ (Value.ref _) (Value.int _ _)) _ _ _); k_dflt (refine' row_get ?k1 ?k2 (by with_reducible assumption) ?k3 ?k4 ?k5 ?_ ?k6 ?k7; (case k1 => k_asm); (case k2 => k_mem); (case k3 => omega); (case k4 => omega); (case k5 => omega); (case k6 => with_unfolding_all rfl); (case k7 => (intro _; with_unfolding_all rfl))); intro t9'; (try dsimp only); k_steps)))
            exact NextWith.intro (by k_asm) (by k_asm) ⟨rfl, _, _, by with_unfolding_all rfl, by with_unfolding_all rfl, by with_unfolding_all rfl⟩
          · have hp0 : p < 0 := by omega
            have e : ya.take (ya.length - j) = ya.take (ya.length - (-p).toNat) := by rw [show (-p).toNat = j by omega]
            rw [e]
            (k_steps; repeat' (refine Hold.off ?_; first | ((with_reducible show wpAny _ _ (call (Value.ref 45) [Value.str _ _, Value.str _ _]) _ _ _); k_dflt (refine' sub_walk ?k1 ?k2 ?k3 ?k4 ?k5 ?k6 ?k7 ?k8 ?_; (case k1 => k_asm); (case k2 => k_asm); (case k3 => k_asm); (case k4 => k_asm); (case k5 => k_asm); (case k6 => k_room); (case k7 => exact okS_one (okc_getD (by with_reducible assumption) (by omega))); (case k8 => exact okS_one (okc_getD (by with_reducible assumption) (by omega)))); intro t9' h' tk9' F' N'; rw [subS_one]; k_steps) | ((with_reducible show wpAny _ _ (subscriptTail _ _ (Value.ref _) (Value.int _ _)) _ _ _); k_dflt (refine' row_get ?k1 ?k2 (by with_reducible assumption) ?k3 ?k4 ?k5 ?_ ?k6 ?k7; (case k1 => k_asm); (case k2 => k_mem); (case k3 => omega); (case k4 => omega); (case k5 => omega); (case k6 => with_unfolding_all rfl); (case k7 => (intro _; with_unfolding_all rfl))); intro t9'; (try dsimp only); k_steps)))
            exact NextWith.intro (by k_asm) (by k_asm) ⟨rfl, _, _, by with_unfolding_all rfl, by with_unfolding_all rfl, by with_unfolding_all rfl⟩
        case rest4 =>
          rintro h tk m' n' F' N' ⟨rfl, t8, t9, ha, hb, hmc⟩
          replace F' := fr_known [(_, _), (_, _), (_, _)] (List.forall_mem_cons.mpr ⟨ha, List.forall_mem_cons.mpr ⟨hb, List.forall_mem_cons.mpr ⟨hmc, List.forall_mem_nil _⟩⟩⟩) F'
          dsimp only [kstB] at F'
          clear ha hb hmc
          replace hax : ∀ c ∈ xa.take (xa.length - j), okc c = true := fun c hc => hax c (List.mem_of_mem_take hc)
          replace hay : ∀ c ∈ ya.take (ya.length - j), okc c = true := fun c hc => hay c (List.mem_of_mem_take hc)
          replace hlx : (xa.take (xa.length - j)).length ≤ 40 := by rw [List.length_take]; omega
          replace hly : (ya.take (ya.length - j)).length ≤ 40 := by rw [List.length_take]; omega
          dsimp only at ret
          clear hj1 hj2 hp
          generalize xa.take (xa.length - j) = a' at *
          generalize ya.take (ya.length - j) = b' at *
          (k_steps; repeat' (refine Hold.off ?_; first | ((with_reducible show wpAny _ _ (call (Value.ref 45) [Value.str _ _, Value.str _ _]) _ _ _); k_dflt (refine' sub_walk ?k1 ?k2 ?k3 ?k4 ?k5 ?k6 ?k7 ?k8 ?_; (case k1 => k_asm); (case k2 => k_asm); (case k3 => k_asm); (case k4 => k_asm); (case k5 => k_asm); (case k6 => k_room); (case k7 => exact okS_one (okc_getD (by with_reducible assumption) (by omega))); (case k8 => exact okS_one (okc_getD (by with_reducible assumption) (by omega)))); intro t9' h' tk9' F' N'; rw [subS_one]; k_steps) | ((with_reducible show wpAny _ _ (subscriptTail _ _ (Value.ref _) (Value.int _ _)) _ _ _); k_dflt (refine' row_get ?k1 ?k2 (by with_reducible assumption) ?k3 ?k4 ?k5 ?_ ?k6 ?k7; (case k1 => k_asm); (case k2 => k_mem); (case k3 => omega); (case k4 => omega); (case k5 => omega); (case k6 => with_unfolding_all rfl); (case k7 => (intro _; with_unfolding_all rfl))); intro t9'; (try dsimp only); k_steps)))
          rotate_left
          · have e : core a' b' mx = 2 * ((a'.length : Int) + b'.length) := by
              unfold core; rw [if_pos (.inr (List.eq_nil_of_length_eq_zero (by omega)))]
            rw [e] at ret
            exact ret _ _ _ (by k_asm) (by k_asm)
          · have e : core a' b' mx = 2 * ((a'.length : Int) + b'.length) := by
              unfold core; rw [if_pos (.inl (List.eq_nil_of_length_eq_zero (by omega)))]
            rw [e] at ret
            exact ret _ _ _ (by k_asm) (by k_asm)
          refine Hold.off ?_
          have hcore : core a' b' mx = (let p := if b'.length < a'.length then (b', a') else (a', b'); if mx < ((p.2.length : Int) - p.1.length) * 2 then mx + 1 else outF p.1 mx p.2 0 (row0 p.1.length) 0) := by
            unfold core; rw [if_neg (fun h9 => by rcases h9 with h9 | h9 <;> (have h10 := congrArg List.length h9; rw [List.length_nil] at h10; omega))]
          rw [hcore] at ret
          clear hcore
          (with_reducible rename Fr _ _ _ _ => F5)
          refine nextWith_seq F5 (fun m' n' => news = n' ∧ ∃ (a2 b2 : List Nat) (t8 t9 : Tok), (a2, b2) = (if b'.length < a'.length then (b', a') else (a', b')) ∧ m' (Str.ofString "a") = some (.str (sL a2) t8) ∧ m' (Str.ofString "b") = some (.str (sL b2) t9) ∧ m' (Str.ofString "max_cost") = some (.int mx t3)) ?swap ?rest5
          case swap =>
            have nh : NoHold := ⟨⟩
            (k_steps; repeat' (refine Hold.off ?_; first | ((with_reducible show wpAny _ _ (call (Value.ref 45) [Value.str _ _, Value.str _ _]) _ _ _); k_dflt (refine' sub_walk ?k1 ?k2 ?k3 ?k4 ?k5 ?k6 ?k7 ?k8 ?_; (case k1 => k_asm); (case k2 => k_asm); (case k3 => k_asm); (case k4 => k_asm); (case k5 => k_asm); (case k6 => k_room); (case k7 => exact okS_one (okc_getD (by with_reducible assumption) (by omega))); (case k8 => exact okS_one (okc_getD (by with_reducible assumption) (by omega)))); intro t9' h' tk9' F' N'; rw [subS_one]; k_steps) | ((with_reducible show wpAny _ _ (subscriptTail _ _ (Value.ref _) (Value.int _ _)) _ _ _); k_dflt (refine' row_get ?k1 ?k2 (by with_reducible assumption) ?k3 ?k4 ?k5 ?_ ?k6 ?k7; (case k1 => k_asm); (case k2 => k_mem); (case k3 => omega); (case k4 => omega); (case k5 => omega); (case k6 => with_unfolding_all rfl); (case k7 => (intro _; with_unfolding_all rfl))); intro t9'; (try dsimp only); k_steps)))
            · exact NextWith.intro (news := news) (by k_asm) (cb_drop (by assumption) (by kcf_all)) ⟨rfl, _, _, _, _, by rw [if_pos (by omega)], by with_unfolding_all rfl, by with_unfolding_all rfl, by with_unfolding_all rfl⟩
            · exact NextWith.intro (by k_asm) (by k_asm) ⟨rfl, _, _, _, _, by rw [if_neg (by omega)], by with_unfolding_all rfl, by with_unfolding_all rfl, by with_unfolding_all rfl⟩
          case rest5 =>
            rintro h tk m' n' F' N' ⟨rfl, a2, b2, t8, t9, hab, ha, hb, hmc⟩
            replace F' := fr_known [(_, _), (_, _), (_, _)] (List.forall_mem_cons.mpr ⟨ha, List.forall_mem_cons.mpr ⟨hb, List.forall_mem_cons.mpr ⟨hmc, List.forall_mem_nil _⟩⟩⟩) F'
            dsimp only [kstB] at F'
            clear ha hb hmc
            rw [← hab] at ret
            dsimp only at ret
            have hfacts : 0 < a2.length ∧ a2.length ≤ b2.length ∧ b2.length ≤ 40 ∧ (∀ c ∈ a2, okc c = true) ∧ (∀ c ∈ b2, okc c = true) := by
              split at hab <;> (cases hab; refine ⟨by omega, by omega, by omega, by assumption, by assumption⟩)
            obtain ⟨hp1, hp2, hp3, hp4, hp5⟩ := hfacts
            clear hab hax hay hlx hly
            (k_steps; repeat' (refine Hold.off ?_; first | ((with_reducible show wpAny _ _ (call (Value.ref 45) [Value.str _ _, Value.str _ _]) _ _ _); k_dflt (refine' sub_walk ?k1 ?k2 ?k3 ?k4 ?k5 ?k6 ?k7 ?k8 ?_; (case k1 => k_asm); (case k2 => k_asm); (case k3 => k_asm); (case k4 => k_asm); (case k5 => k_asm); (case k6 => k_room); (case k7 => exact okS_one (okc_getD (by with_reducible assumption) (by omega))); (case k8 => exact okS_one (okc_getD (by with_reducible assumption) (by omega)))); intro t9' h' tk9' F' N'; rw [subS_one]; k_steps) | ((with_reducible show wpAny _ _ (subscriptTail _ _ (Value.ref _) (Value.int _ _)) _ _ _); k_dflt (refine' row_get ?k1 ?k2 (by with_reducible assumption) ?k3 ?k4 ?k5 ?_ ?k6 ?k7; (case k1 => k_asm); (case k2 => k_mem); (case k3 => omega); (case k4 => omega); (case k5 => omega); (case k6 => with_unfolding_all rfl); (case k7 => (intro _; with_unfolding_all rfl))); intro t9'; (try dsimp only); k_steps)))
            · rw [if_pos (by omega)] at ret
              exact ret _ _ _ (by k_asm) (by k_asm)
            refine Hold.off ?_
            (with_reducible rename IsRange _ _ _ _ _ _ _ _ => hR9)
            k_dflt (refine' row_new ?k1 ?k2 ?k3 hR9 (row0_small ?k4) (row0_size _) ?k5 ?_; (case k1 => rfl); (case k2 => k_asm); (case k3 => k_asm); (case k4 => omega); (case k5 => omega); k_whole)
            intro h' tk9' D9 k9 ys9 F' N' hnD hI0
            rw [row0_range] at hI0
            (k_steps; repeat' (refine Hold.off ?_; first | ((with_reducible show wpAny _ _ (call (Value.ref 45) [Value.str _ _, Value.str _ _]) _ _ _); k_dflt (refine' sub_walk ?k1 ?k2 ?k3 ?k4 ?k5 ?k6 ?k7 ?k8 ?_; (case k1 => k_asm); (case k2 => k_asm); (case k3 => k_asm); (case k4 => k_asm); (case k5 => k_asm); (case k6 => k_room); (case k7 => exact okS_one (okc_getD (by with_reducible assumption) (by omega))); (case k8 => exact okS_one (okc_getD (by with_reducible assumption) (by omega)))); intro t9' h' tk9' F' N'; rw [subS_one]; k_steps) | ((with_reducible show wpAny _ _ (subscriptTail _ _ (Value.ref _) (Value.int _ _)) _ _ _); k_dflt (refine' row_get ?k1 ?k2 (by with_reducible assumption) ?k3 ?k4 ?k5 ?_ ?k6 ?k7; (case k1 => k_asm); (case k2 => k_mem); (case k3 => omega); (case k4 => omega); (case k5 => omega); (case k6 => with_unfolding_all rfl); (case k7 => (intro _; with_unfolding_all rfl))); intro t9'; (try dsimp only); k_steps)))
            refine Hold.off ?_
            (with_reducible rename Fr _ _ _ _ => F4)
            (with_unfolding_all refine' For_invVF F4 ?k1 ?k2 ?_; (case k1 => exact rfl); (case k2 => exact rfl); k_whole)
            (k_steps; repeat' (refine Hold.off ?_; first | ((with_reducible show wpAny _ _ (call (Value.ref 45) [Value.str _ _, Value.str _ _]) _ _ _); k_dflt (refine' sub_walk ?k1 ?k2 ?k3 ?k4 ?k5 ?k6 ?k7 ?k8 ?_; (case k1 => k_asm); (case k2 => k_asm); (case k3 => k_asm); (case k4 => k_asm); (case k5 => k_asm); (case k6 => k_room); (case k7 => exact okS_one (okc_getD (by with_reducible assumption) (by omega))); (case k8 => exact okS_one (okc_getD (by with_reducible assumption) (by omega)))); intro t9' h' tk9' F' N'; rw [subS_one]; k_steps) | ((with_reducible show wpAny _ _ (subscriptTail _ _ (Value.ref _) (Value.int _ _)) _ _ _); k_dflt (refine' row_get ?k1 ?k2 (by with_reducible assumption) ?k3 ?k4 ?k5 ?_ ?k6 ?k7; (case k1 => k_asm); (case k2 => k_mem); (case k3 => omega); (case k4 => omega); (case k5 => omega); (case k6 => with_unfolding_all rfl); (case k7 => (intro _; with_unfolding_all rfl))); intro t9'; (try dsimp only); k_steps)))
            refine Hold.off ?_
            (with_reducible rename IsRange _ _ _ _ _ _ _ _ => hR)
            (with_reducible rename Fr _ _ _ _ => F3)
            (with_reducible rename News _ _ _ _ => N3)
            (with_unfolding_all refine iter_rangeUnr (n := b2.length) (by rfl) hR (up_small (by omega)) (up_size _) F3 N3 ?_)
            intro i9 l9
            have hDi : @LT.lt Nat _ D9 i9 := l9 _ (List.mem_cons_self ..)
            have hni : ∀ p ∈ news, @LT.lt Nat _ p.1 i9 := fun p hp => l9 p (List.mem_cons_of_mem _ hp)
            clear l9
            refine rangeRest_inv (fun i m' n' => ∃ (ys : List Value) (k : Nat) (row : List Int) (r : Int) (tr : Tok), n' = (D9, W.listOf ys.toArray k) :: news ∧ IntsAre ys row ∧ row.length = a2.length ∧ m' (Str.ofString "a") = some (.str (sL a2) t8) ∧ m' (Str.ofString "b") = some (.str (sL b2) t9) ∧ m' (Str.ofString "max_cost") = some (.int mx t3) ∧ m' (Str.ofString "row") = some (.ref D9) ∧ m' (Str.ofString "result") = some (.int r tr) ∧ outF a2 mx b2 0 (row0 a2.length) 0 = outF a2 mx (b2.drop i) i row r) ?oturn ?odone ?o0
            case o0 => exact ⟨_, _, _, _, _, rfl, hI0, row0_len _, by with_unfolding_all rfl, by with_unfolding_all rfl, by with_unfolding_all rfl, by with_unfolding_all rfl, by with_unfolding_all rfl, rfl⟩
            case odone =>
              rintro h tk m' n' ⟨ys, k, row, r, tr, rfl, hI, hlen, ha, hb, hmc, hrow, hres, hout⟩ F' N'
              rw [← fr_eq [(_, _), (_, _), (_, _)] (List.forall_mem_cons.mpr ⟨ha, List.forall_mem_cons.mpr ⟨hb, List.forall_mem_cons.mpr ⟨hres, List.forall_mem_nil _⟩⟩⟩)] at F'
              dsimp only [kstB] at F'
              (k_steps; repeat' (refine Hold.off ?_; first | ((with_reducible show wpAny _ _ (call (Value.ref 45) [Value.str _ _, Value.str _ _]) _ _ _); k_dflt (refine' sub_walk ?k1 ?k2 ?k3 ?k4 ?k5 ?k6 ?k7 ?k8 ?_; (case k1 => k_asm); (case k2 => k_asm); (case k3 => k_asm); (case k4 => k_asm); (case k5 => k_asm); (case k6 => k_room); (case k7 => exact okS_one (okc_getD (by with_reducible assumption) (by omega))); (case k8 => exact okS_one (okc_getD (by with_reducible assumption) (by omega)))); intro t9' h' tk9' F' N'; rw [subS_one]; k_steps) | ((with_reducible show wpAny _ _ (subscriptTail _ _ (Value.ref _) (Value.int _ _)) _ _ _); k_dflt (refine' row_get ?k1 ?k2 (by with_reducible assumption) ?k3 ?k4 ?k5 ?_ ?k6 ?k7; (case k1 => k_asm); (case k2 => k_mem); (case k3 => omega); (case k4 => omega); (case k5 => omega); (case k6 => with_unfolding_all rfl); (case k7 => (intro _; with_unfolding_all rfl))); intro t9'; (try dsimp only); k_steps)))
              rw [if_neg (by omega), hout, outF_done] at ret
              exact ret _ _ _ (by k_asm) (cb_drop (by assumption) (by kcf_all))
            case oturn =>
              rintro i t h tk m' n' hi ⟨ys, k, row, r, tr, rfl, hI, hlen, ha, hb, hmc, hrow, hres, hout⟩ F' N'
              rw [← fr_eq [(_, _), (_, _), (_, _), (_, _)] (List.forall_mem_cons.mpr ⟨ha, List.forall_mem_cons.mpr ⟨hb, List.forall_mem_cons.mpr ⟨hmc, List.forall_mem_cons.mpr ⟨hrow, List.forall_mem_nil _⟩⟩⟩⟩)] at F'
              dsimp only [kstB] at F'
              clear ha hb hmc hrow hres
              simp only [Int.zero_add] at F'
              (k_steps; repeat' (refine Hold.off ?_; first | ((with_reducible show wpAny _ _ (call (Value.ref 45) [Value.str _ _, Value.str _ _]) _ _ _); k_dflt (refine' sub_walk ?k1 ?k2 ?k3 ?k4 ?k5 ?k6 ?k7 ?k8 ?_; (case k1 => k_asm); (case k2 => k_asm); (case k3 => k_asm); (case k4 => k_asm); (case k5 => k_asm); (case k6 => k_room); (case k7 => exact okS_one (okc_getD (by with_reducible assumption) (by omega))); (case k8 => exact okS_one (okc_getD (by with_reducible assumption) (by omega)))); intro t9' h' tk9' F' N'; rw [subS_one]; k_steps) | ((with_reducible show wpAny _ _ (subscriptTail _ _ (Value.ref _) (Value.int _ _)) _ _ _); k_dflt (refine' row_get ?k1 ?k2 (by with_reducible assumption) ?k3 ?k4 ?k5 ?_ ?k6 ?k7; (case k1 => k_asm); (case k2 => k_mem); (case k3 => omega); (case k4 => omega); (case k5 => omega); (case k6 => with_unfolding_all rfl); (case k7 => (intro _; with_unfolding_all rfl))); intro t9'; (try dsimp only); k_steps)))
              refine Hold.off ?_
              (with_reducible rename Fr _ _ _ _ => F2)
              (with_unfolding_all refine' For_invVF F2 ?k1 ?k2 ?_; (case k1 => exact rfl); (case k2 => exact rfl); k_whole)
              (k_steps; repeat' (refine Hold.off ?_; first | ((with_reducible show wpAny _ _ (call (Value.ref 45) [Value.str _ _, Value.str _ _]) _ _ _); k_dflt (refine' sub_walk ?k1 ?k2 ?k3 ?k4 ?k5 ?k6 ?k7 ?k8 ?_; (case k1 => k_asm); (case k2 => k_asm); (case k3 => k_asm); (case k4 => k_asm); (case k5 => k_asm); (case k6 => k_room); (case k7 => exact okS_one (okc_getD (by with_reducible assumption) (by omega))); (case k8 => exact okS_one (okc_getD (by with_reducible assumption) (by omega)))); intro t9' h' tk9' F' N'; rw [subS_one]; k_steps) | ((with_reducible show wpAny _ _ (subscriptTail _ _ (Value.ref _) (Value.int _ _)) _ _ _); k_dflt (refine' row_get ?k1 ?k2 (by with_reducible assumption) ?k3 ?k4 ?k5 ?_ ?k6 ?k7; (case k1 => k_asm); (case k2 => k_mem); (case k3 => omega); (case k4 => omega); (case k5 => omega); (case k6 => with_unfolding_all rfl); (case k7 => (intro _; with_unfolding_all rfl))); intro t9'; (try dsimp only); k_steps)))
              refine Hold.off ?_
              (with_reducible rename IsRange _ _ _ _ _ _ _ _ => hR2)
              (with_reducible rename Fr _ _ _ _ => F1)
              (with_reducible rename News _ _ _ _ => N1)
              (with_unfolding_all refine iter_rangeUnr (n := a2.length) (by rfl) hR2 (up_small (by omega)) (up_size _) F1 N1 ?_)
              have hDj : ∀ J9 : Addr, (∀ p ∈ (i9, itR (0 + ((i + 1 : Nat) : Int)) ((b2.length : Int) - ((i + 1 : Nat) : Int))) :: (D9, W.listOf ys.toArray k) :: news, @LT.lt Nat _ p.1 J9) → @LT.lt Nat _ i9 J9 ∧ @LT.lt Nat _ D9 J9 ∧ ∀ p ∈ news, @LT.lt Nat _ p.1 J9 := fun J9 h9 => ⟨h9 _ (List.mem_cons_self ..), h9 _ (List.mem_cons_of_mem _ (List.mem_cons_self ..)), fun p hp => h9 p (List.mem_cons_of_mem _ (List.mem_cons_of_mem _ hp))⟩
              intro j9 l9
              obtain ⟨hij, hDj, hnj⟩ := hDj j9 l9
              clear l9
              simp only [Int.toNat_natCast] at F1
              refine rangeRest_inv (fun j m' n' => ∃ (ys' : List Value) (k' : Nat) (row2 : List Int) (d r m9 : Int) (td tr tm tb ti : Tok), n' = (i9, itR (0 + ((i + 1 : Nat) : Int)) ((b2.length : Int) - ((i + 1 : Nat) : Int))) :: (D9, W.listOf ys'.toArray k') :: news ∧ IntsAre ys' row2 ∧ row2.length = a2.length ∧ m' (Str.ofString "a") = some (.str (sL a2) t8) ∧ m' (Str.ofString "b") = some (.str (sL b2) t9) ∧ m' (Str.ofString "max_cost") = some (.int mx t3) ∧ m' (Str.ofString "row") = some (.ref D9) ∧ m' (Str.ofString "result") = some (.int r tr) ∧ m' (Str.ofString "distance") = some (.int d td) ∧ m' (Str.ofString "minimum") = some (.int m9 tm) ∧ m' (Str.ofString "bchar") = some (.str (sL [b2.getD i 0]) tb) ∧ m' (Str.ofString "bindex") = some (.int i ti) ∧ innAt (b2.getD i 0) a2 row (2 * i) (2 * i) big j row2 d r m9) ?iturn ?idone ?i0
              case i0 => exact ⟨_, _, _, _, _, _, _, _, _, _, _, rfl, hI, hlen, by with_unfolding_all rfl, by with_unfolding_all rfl, by with_unfolding_all rfl, by with_unfolding_all rfl, by with_unfolding_all rfl, by with_unfolding_all rfl, by with_unfolding_all rfl, by with_unfolding_all rfl, by with_unfolding_all rfl, by rw [Int.mul_comm (i : Int) 2]; exact innAt_zero _ _ _ _ _ _⟩
              case idone =>
                rintro h tk m' n' ⟨ys', k', row2, d, r2, m9, td, tr2, tm, tb, ti, rfl, hI', hlen', ha, hb, hmc, hrow, hres, hdis, hmin, hbc, hbi, hinn⟩ F' N'
                rw [← fr_eq [(_, _), (_, _), (_, _), (_, _), (_, _), (_, _)] (List.forall_mem_cons.mpr ⟨ha, List.forall_mem_cons.mpr ⟨hb, List.forall_mem_cons.mpr ⟨hmc, List.forall_mem_cons.mpr ⟨hrow, List.forall_mem_cons.mpr ⟨hres, List.forall_mem_cons.mpr ⟨hmin, List.forall_mem_nil _⟩⟩⟩⟩⟩⟩)] at F'
                dsimp only [kstB] at F'
                clear ha hb hmc hrow hres hdis hmin hbc hbi
                have hnext := outF_next (mx := mx) (b := b2) (r := r) hi (innAt_end hinn hlen')
                rw [← hout] at hnext
                (k_steps; repeat' (refine Hold.off ?_; first | ((with_reducible show wpAny _ _ (call (Value.ref 45) [Value.str _ _, Value.str _ _]) _ _ _); k_dflt (refine' sub_walk ?k1 ?k2 ?k3 ?k4 ?k5 ?k6 ?k7 ?k8 ?_; (case k1 => k_asm); (case k2 => k_asm); (case k3 => k_asm); (case k4 => k_asm); (case k5 => k_asm); (case k6 => k_room); (case k7 => exact okS_one (okc_getD (by with_reducible assumption) (by omega))); (case k8 => exact okS_one (okc_getD (by with_reducible assumption) (by omega)))); intro t9' h' tk9' F' N'; rw [subS_one]; k_steps) | ((with_reducible show wpAny _ _ (subscriptTail _ _ (Value.ref _) (Value.int _ _)) _ _ _); k_dflt (refine' row_get ?k1 ?k2 (by with_reducible assumption) ?k3 ?k4 ?k5 ?_ ?k6 ?k7; (case k1 => k_asm); (case k2 => k_mem); (case k3 => omega); (case k4 => omega); (case k5 => omega); (case k6 => with_unfolding_all rfl); (case k7 => (intro _; with_unfolding_all rfl))); intro t9'; (try dsimp only); k_steps)))
                · rw [if_neg (by omega), hnext, if_pos (by omega)] at ret
                  exact ret _ _ _ (by k_asm) (cb_drop (by assumption) (by kcf_all))
                · refine Hold.off ?_
                  exact UnrEnd.intro (by k_asm) (by k_asm) ((D9, W.listOf ys'.toArray k') :: news) (fun p hp => hp) (off1 hDi hni _) ⟨_, _, _, _, _, rfl, hI', hlen', by with_unfolding_all rfl, by with_unfolding_all rfl, by with_unfolding_all rfl, by with_unfolding_all rfl, by with_unfolding_all rfl, by rw [hnext, if_neg (by omega)]⟩
              case iturn =>
                rintro j t h tk m' n' hj ⟨ys', k', row2, d, r2, m9, td, tr2, tm, tb, ti, rfl, hI', hlen', ha, hb, hmc, hrow, hres, hdis, hmin, hbc, hbi, hinn⟩ F' N'
                rw [← fr_eq [(_, _), (_, _), (_, _), (_, _), (_, _), (_, _), (_, _), (_, _), (_, _)] (List.forall_mem_cons.mpr ⟨ha, List.forall_mem_cons.mpr ⟨hb, List.forall_mem_cons.mpr ⟨hmc, List.forall_mem_cons.mpr ⟨hrow, List.forall_mem_cons.mpr ⟨hres, List.forall_mem_cons.mpr ⟨hdis, List.forall_mem_cons.mpr ⟨hmin, List.forall_mem_cons.mpr ⟨hbc, List.forall_mem_cons.mpr ⟨hbi, List.forall_mem_nil _⟩⟩⟩⟩⟩⟩⟩⟩⟩)] at F'
                dsimp only [kstB] at F'
                clear ha hb hmc hrow hres hdis hmin hbc hbi
                simp only [Int.zero_add] at F'
                (k_steps; repeat' (refine Hold.off ?_; first | ((with_reducible show wpAny _ _ (call (Value.ref 45) [Value.str _ _, Value.str _ _]) _ _ _); k_dflt (refine' sub_walk ?k1 ?k2 ?k3 ?k4 ?k5 ?k6 ?k7 ?k8 ?_; (case k1 => k_asm); (case k2 => k_asm); (case k3 => k_asm); (case k4 => k_asm); (case k5 => k_asm); (case k6 => k_room); (case k7 => exact okS_one (okc_getD (by with_reducible assumption) (by omega))); (case k8 => exact okS_one (okc_getD (by with_reducible assumption) (by omega)))); intro t9' h' tk9' F' N'; rw [subS_one]; k_steps) | ((with_reducible show wpAny _ _ (subscriptTail _ _ (Value.ref _) (Value.int _ _)) _ _ _); k_dflt (refine' row_get ?k1 ?k2 (by with_reducible assumption) ?k3 ?k4 ?k5 ?_ ?k6 ?k7; (case k1 => k_asm); (case k2 => k_mem); (case k3 => omega); (case k4 => omega); (case k5 => omega); (case k6 => with_unfolding_all rfl); (case k7 => (intro _; with_unfolding_all rfl))); intro t9'; (try dsimp only); k_steps)))
                · refine Hold.off ?_
                  refine UnrEnd.intro (by k_asm) (by k_asm) _ (fun p hp => hp) (off2 hij hDj hnj _ _) ⟨_, _, _, _, _, _, _, _, _, _, _, rfl, by exact intsAre_set hI', by rw [List.length_set]; exact hlen', by with_unfolding_all rfl, by with_unfolding_all rfl, by with_unfolding_all rfl, by with_unfolding_all rfl, by with_unfolding_all rfl, by with_unfolding_all rfl, by with_unfolding_all rfl, by with_unfolding_all rfl, by with_unfolding_all rfl, innAt_next hinn hj hlen' ?_ ?_⟩
                  · simp only [Int.toNat_natCast]; omega
                  · exact (if_pos (by assumption)).symm
                · refine Hold.off ?_
                  refine UnrEnd.intro (by k_asm) (by k_asm) _ (fun p hp => hp) (off2 hij hDj hnj _ _) ⟨_, _, _, _, _, _, _, _, _, _, _, rfl, by exact intsAre_set hI', by rw [List.length_set]; exact hlen', by with_unfolding_all rfl, by with_unfolding_all rfl, by with_unfolding_all rfl, by with_unfolding_all rfl, by with_unfolding_all rfl, by with_unfolding_all rfl, by with_unfolding_all rfl, by with_unfolding_all rfl, by with_unfolding_all rfl, innAt_next hinn hj hlen' ?_ ?_⟩
                  · simp only [Int.toNat_natCast]; omega
                  · exact (if_neg (by assumption)).symm
end Mine
end
section
namespace Mine
open PySem PySem.Calls PySem.Builtin PyProof.Rows PySem.W
theorem intsAre_of_all : ∀ {zs : List Value}, (∀ v ∈ zs, ∃ n t, v = Value.int n t) → ∃ ms, IntsAre zs ms
  | [], _ => ⟨[], .nil⟩
  | v :: r, h => by
    obtain ⟨n, t, rfl⟩ := h v (by simp)
    obtain ⟨ms, hm⟩ := intsAre_of_all (zs := r) fun x hx => h x (by simp [hx])
    exact ⟨n :: ms, .cons n t hm⟩
theorem slice_ints_any {vs : List Value} {ns : List Int} (hi : IntsAre vs ns) (lo up st : Option Int) : ∃ ms, IntsAre (slicePick vs.toArray lo up st).toList ms := by
  refine intsAre_of_all fun v hv => ?_
  unfold slicePick at hv
  simp only [List.mem_filterMap] at hv
  obtain ⟨i, _, h⟩ := hv
  have h2 : i < vs.length := by
    have := (Array.getElem?_eq_some_iff.mp h).1
    simpa using this
  obtain ⟨t, hx⟩ := hi.get i (ns[i]'(by rw [← hi.length]; exact h2)) (by simp)
  have : vs[i]? = some v := by simpa using h
  rw [hx] at this
  exact ⟨_, t, (Option.some.inj this).symm⟩
section
variable {prog : Program} {w : World} {A : Around} {E : Value → Shared → Prop} {s : Shared} {h₀ : Heap} {L l : Addr} {m : Str → Option Value} {news : List (Addr × Obj)} {vs : List Value} {ns : List Int}
theorem slice_stride {Q : Value → Shared → Prop} {value slice : Expr} {vl vu vk : Value} {lo up st : Option Int} {ops : List Value} (F : Fr h₀ L s.heap m) (N : News h₀ L s.heap news) (hl : s.heap.IsList l vs.toArray) (hi : IntsAre vs ns) (hn : ns.length ≤ 63) (pl : IsPart vl lo) (pu : IsPart vu up) (pk : IsPart vk st) (h0 : st ≠ some 0)
    (h : ∀ D h' zs ms, Fr h₀ L h' m → News h₀ L h' ((D, listOf (List.toArray zs) 0) :: news) → (∀ p ∈ news, p.1 < D) → IntsAre zs ms → Q (.ref D) { s with heap := h' })
    (hs : subscripted slice false (.ref l) (.ref s.heap.objs.size) = operate ops (getItem (.ref l) (.ref s.heap.objs.size))) (ht : ∀ r, letTemporaryGo value (.ref l) r = pure ()) :
    wpAny (model prog w) A (subscriptTail value slice (.ref l) (.ref s.heap.objs.size)) Q E { s with heap := s.heap.push { cls := .type "slice", data := .fields #[vl, vu, vk] } } := by
  obtain ⟨ms, hm⟩ := slice_ints_any hi lo up st
  refine kmk_slice3_lit F N hl pl pu pk h0 rfl (fun D h' F' N' l1 => h D h' _ ms F' N' l1 hm) hs ht ?_
  rw [List.size_toArray, hi.length]
  exact Nat.le_trans hn (Nat.le_of_ble_eq_true rfl)
end
end Mine
end
section
namespace Mine
open PySem PySem.Calls PySem.Builtin PyProof.Rows PySem.W
noncomputable abbrev ipObj (a b : Int) (t1 t2 : Tok) : Obj := { cls := .type "tuple", data := .seq #[.int a t1, .int b t2] }
inductive IPairsIn (news : List (Addr × Obj)) : List Value → List (Int × Int) → Prop
  | nil : IPairsIn news [] []
  | cons {a : Addr} {x y : Int} {t1 t2 : Tok} {vs : List Value} {ps : List (Int × Int)} : (a, ipObj x y t1 t2) ∈ news → IPairsIn news vs ps → IPairsIn news (.ref a :: vs) ((x, y) :: ps)
theorem IPairsIn.length {news : List (Addr × Obj)} {vs : List Value} {ps : List (Int × Int)} (h : IPairsIn news vs ps) : vs.length = ps.length := by
  induction h with
  | nil => rfl
  | cons _ _ ih => simp [ih]
theorem IPairsIn.get {news : List (Addr × Obj)} {vs : List Value} {ps : List (Int × Int)} (h : IPairsIn news vs ps) {i : Nat} {v : Value} (hv : vs[i]? = some v) :
    ∃ a x y t1 t2, v = .ref a ∧ (a, ipObj x y t1 t2) ∈ news ∧ ps[i]? = some (x, y) := by
  induction h generalizing i with
  | nil => simp at hv
  | cons hm _ ih =>
    cases i with
    | zero => simp at hv; exact ⟨_, _, _, _, _, hv.symm, hm, rfl⟩
    | succ i => simpa using ih (by simpa using hv)
theorem IPairsIn.mono {news news' : List (Addr × Obj)} (hs : ∀ p ∈ news, p ∈ news') {vs : List Value} {ps : List (Int × Int)} (h : IPairsIn news vs ps) : IPairsIn news' vs ps := by
  induction h with
  | nil => exact .nil
  | cons hm _ ih => exact .cons (hs _ hm) ih
noncomputable def okG (t : Int × Int) : Prop := 0 ≤ t.1 ∧ t.1 ≤ 3 ∧ 0 ≤ t.2 ∧ t.2 ≤ 1
noncomputable def guT (z : Int) : Int × Int := (z.fmod 4, (z.fdiv 4).fmod 2)
theorem okG_gu (z : Int) : okG (guT z) := by
  have h1 : z.fmod 4 = z % 4 := Int.fmod_eq_emod_of_nonneg _ (by decide)
  have h2 : (z.fdiv 4).fmod 2 = (z.fdiv 4) % 2 := Int.fmod_eq_emod_of_nonneg _ (by decide)
  unfold okG guT
  simp only [h1, h2]
  omega
end Mine
namespace Mine
open PySem PySem.Calls PySem.Builtin PyProof.Rows PySem.W
theorem IPairsIn.snoc {news : List (Addr × Obj)} {a : Addr} {x y : Int} {t1 t2 : Tok} {vs : List Value} {ps : List (Int × Int)} (h : IPairsIn news vs ps) (hm : (a, ipObj x y t1 t2) ∈ news) : IPairsIn news (vs ++ [.ref a]) (ps ++ [(x, y)]) := by
  induction h with
  | nil => exact .cons hm .nil
  | cons h1 _ ih => exact .cons h1 ih
end Mine
namespace Mine
open PySem PySem.Calls PySem.Builtin PyProof.Rows PySem.W
end Mine
end
section
namespace Mine
open PySem PySem.Calls PySem.Builtin PyProof.Rows PySem.W
section
variable {prog : Program} {w : World} {A : Around} {E : Value → Shared → Prop} {s : Shared} {h₀ : Heap} {env : Env} {body : List Stmt} {Q : Flow → Shared → Prop}
noncomputable def rangeItems (a : Int) (n : Nat) : List Itm := (List.range n).map fun (i : Nat) => Itm.tok fun t => Value.int (a + (i : Int)) t
theorem rangeItems_get {a : Int} {n i : Nat} {x : Itm} (h : (rangeItems a n)[i]? = some x) : i < n ∧ x = Itm.tok fun t => Value.int (a + (i : Int)) t := by
  unfold rangeItems at h
  rw [List.getElem?_map] at h
  cases e : (List.range n)[i]? with
  | none => rw [e] at h; cases h
  | some j =>
    rw [e] at h
    obtain ⟨hi, rfl⟩ := List.getElem?_eq_some_iff.mp e
    rw [List.length_range] at hi
    simp only [List.getElem_range, Option.map_some] at h
    exact ⟨hi, (Option.some.inj h).symm⟩
theorem iter_rangeTurns {x : Str} {px : Pos} {r : Addr} {a₀ b₀ : Int} {t₀ u₀ v₀ : Tok} {n : Nat} {m₀ : Str → Option Value} {news : List (Addr × Obj)}
    (hh : A.handled = none) (hr : IsRange s.heap r a₀ b₀ 1 t₀ u₀ v₀) (hsmall : Builtin.Range.small a₀ b₀ 1 = true) (hn : Builtin.Range.rangeSize a₀ b₀ 1 = (n : Int)) (F : Fr h₀ env.locals s.heap m₀) (N : News h₀ env.locals s.heap news)
    (rest₀ : ∀ I : Addr, (∀ p ∈ news, p.1 < I) → ItemsRest prog w A E h₀ env (.Name x px) body Q s [(I, "range_iterator")] [] (rangeItems a₀ n) m₀ news) :
    wpAny (model prog w) A (pyIter (.ref r)) (fun it s₂ => TurnsAt prog w A h₀ env (.Name x px) body Q E it s₂) E s := by
  refine wpAny_pyIter_range hr hsmall ?_
  refine ktu_core (tk0 := s.toks) (keep := []) (KTurns.ofWalks (Walks.range hh s.heap.objs.size a₀ 1 n).bound fun i v s Q E st q => ?_) (by simp [rangeItems]) (fun i v h hp => ?_) (fun i h st => ?_) (fun b hb => ?_) (fun b hb => by simpa using hb) (fun b hb => .inl (by simpa using hb)) ?_ (fun p hp hI => ?_) ?_ (F.push _) (fun p hp => ⟨Heap.get?_push_of_some _ (N p hp).1, (N p hp).2⟩) trivial (rest₀ _ fun p hp => Heap.lt_size (N p hp).1)
  · exact wpAny_pure q
  · obtain ⟨hi, t, rfl⟩ := hp
    refine ⟨Itm.tok fun t => Value.int (a₀ + (i : Int)) t, ?_, t, by rw [Int.mul_one]⟩
    unfold rangeItems
    rw [List.getElem?_map, List.getElem?_eq_getElem (by simpa using hi)]
    simp
  · exact ⟨[(s.heap.objs.size, _)], ⟨⟨rfl, rfl⟩, trivial⟩, fun p hp => by rw [List.mem_singleton.mp hp]; exact st⟩
  · have hb' : b = s.heap.objs.size := by simpa using hb
    rw [hb']
    exact ⟨List.mem_cons_self .., next_is_new F⟩
  · intro hI
    exact absurd F.ns.lt ((List.mem_singleton.mp hI) ▸ Nat.lt_irrefl _)
  · exact absurd (Heap.lt_size (N p hp).1) ((List.mem_singleton.mp hI) ▸ Nat.lt_irrefl _)
  · show IsRangeIter _ _ _ _ _
    rw [hn]; simpa using Heap.get?_push_size _ rfl
end
/-- names the frame's address: `refine withL F fun L9 hL9 => ?_; subst hL9` -/
theorem withL {h₀ h : Heap} {L : Addr} {m : Str → Option Value} {P : Prop} (_F : Fr h₀ L h m) (k : ∀ L9, L9 = L → P) : P := k L rfl
end Mine
end
section
namespace Mine
open PySem
noncomputable def getAllS (ps : List (Str × Str)) (r : Str) : List Str := (ps.filter fun p => lowS p.1 == lowS r).map (·.2)
noncomputable def getS (ms : List (Str × Str)) (c : Str) : Option Str := (ms.find? fun p => lowS p.1 == lowS c).map (·.2)
noncomputable def setS (ms : List (Str × Str)) (c r : Str) : List (Str × Str) := (ms.filter fun p => lowS p.1 != lowS c) ++ [(c, r)]
noncomputable def seatG (rec : List (Str × Str) → Str → List Str → Bool × List (Str × Str) × List Str) (row : Str) : List Str → List (Str × Str) → List Str → Bool × List (Str × Str) × List Str
  | [], ms, asked => (false, ms, asked)
  | c :: cs, ms, asked =>
    if asked.contains c then seatG rec row cs ms asked
    else match getS ms (lowS c) with
      | none => (true, setS ms c row, asked ++ [c])
      | some o => let r := rec ms o (asked ++ [c]); if r.1 then (true, setS r.2.1 c row, r.2.2) else seatG rec row cs r.2.1 r.2.2
noncomputable def seatF (ps : List (Str × Str)) : Nat → List (Str × Str) → Str → List Str → Bool × List (Str × Str) × List Str
  | 0, ms, _, asked => (false, ms, asked)
  | n + 1, ms, row, asked => seatG (seatF ps n) row (getAllS ps row) ms asked
structure SeatOk (S : List Str) (ms : List (Str × Str)) (asked : List Str) : Prop where
  ok : ∀ p ∈ ms, okS p.1 ∧ okS p.2
  nd : asked.Nodup
  sub : ∀ c ∈ asked, c ∈ S
theorem nodup_sub_len : ∀ {α : Type} [DecidableEq α] {l S : List α}, l.Nodup → (∀ c ∈ l, c ∈ S) → l.length ≤ S.length := by
  intro α _ l
  induction l with
  | nil => intro S _ _; exact Nat.zero_le _
  | cons a r ih =>
    intro S hn hs
    have ha : a ∈ S := hs a (.head _)
    have hn' := List.nodup_cons.mp hn
    have := ih (S := S.erase a) hn'.2 (fun c hc => (List.mem_erase_of_ne (fun (e : c = a) => hn'.1 (e ▸ hc))).mpr (hs c (.tail _ hc)))
    rw [List.length_erase_of_mem ha] at this
    have h1 := List.length_pos_of_mem ha
    simp only [List.length_cons]
    omega
theorem SeatOk.len {S : List Str} {ms : List (Str × Str)} {asked : List Str} (h : SeatOk S ms asked) : asked.length ≤ S.length := nodup_sub_len h.nd h.sub
theorem SeatOk.ask {S : List Str} {ms : List (Str × Str)} {asked : List Str} {c : Str} (h : SeatOk S ms asked) (hc : c ∈ S) (hn : asked.contains c = false) : SeatOk S ms (asked ++ [c]) := by
  have hn' : c ∉ asked := by simpa using hn
  refine ⟨h.ok, ?_, ?_⟩
  · rw [List.nodup_append]
    refine ⟨h.nd, by simp, ?_⟩
    intro a ha b hb
    have : b = c := by simpa using hb
    subst this
    intro e; subst e; exact hn' ha
  · intro x hx
    rcases List.mem_append.mp hx with hx | hx
    · exact h.sub x hx
    · have : x = c := by simpa using hx
      subst this; exact hc
theorem SeatOk.set {S : List Str} {ms : List (Str × Str)} {asked : List Str} {c r : Str} (h : SeatOk S ms asked) (hc : okS c) (hr : okS r) : SeatOk S (setS ms c r) asked := by
  refine ⟨?_, h.nd, h.sub⟩
  intro p hp
  unfold setS at hp
  rcases List.mem_append.mp hp with hp | hp
  · exact h.ok p (List.mem_filter.mp hp).1
  · have : p = (c, r) := by simpa using hp
    subst this; exact ⟨hc, hr⟩
/-- what a row's search keeps -/
noncomputable def SeatR (S : List Str) (n : Nat) (ms : List (Str × Str)) (asked : List Str) (r : Bool × List (Str × Str) × List Str) : Prop :=
  SeatOk S r.2.1 r.2.2 ∧ asked.length ≤ r.2.2.length ∧ (r.1 = false → r.2.1 = ms) ∧ r.2.1.length ≤ ms.length + n
end Mine
end
section
namespace Mine
open PySem PySem.Calls PySem.Builtin PyProof.Rows PySem.W
theorem off1_all {D : Addr} : ∀ {l : List (Addr × Obj)}, LCg.Off1 D l → ∀ p ∈ l, @Ne Nat p.1 D
  | [], _, _, hp => nomatch hp
  | q :: r, o, p, hp => by
    rcases List.mem_cons.mp hp with rfl | hp
    · exact o.1
    · exact off1_all o.2 p hp
theorem news_ne {h₀ h : Heap} {L a b : Addr} {x y : Obj} {all : List (Addr × Obj)} (N : News h₀ L h all) (ha : (a, x) ∈ all) (hb : (b, y) ∈ all) (hc : x.cls ≠ y.cls) : @Ne Nat a b := fun e => by
  have e' : a = b := e
  subst e'
  have h1 := (N _ ha).1
  have h2 := (N _ hb).1
  rw [h1] at h2
  have h3 : x = y := Option.some.inj h2
  exact hc (by rw [h3])
theorem news_neD {h₀ h : Heap} {L a b : Addr} {x y : Obj} {all : List (Addr × Obj)} (N : News h₀ L h all) (ha : (a, x) ∈ all) (hb : (b, y) ∈ all) (hc : x.data ≠ y.data) : @Ne Nat a b := fun e => by
  have e' : a = b := e
  subst e'
  have h1 := (N _ ha).1
  have h2 := (N _ hb).1
  rw [h1] at h2
  have h3 : x = y := Option.some.inj h2
  exact hc (by rw [h3])
theorem PairsIn.drop {pre r : List (Addr × Obj)} {x : Addr × Obj} (hx : x.2.cls ≠ .type "tuple") {vs : List Value} {ps : List (Str × Str)} (h : PairsIn (pre ++ x :: r) vs ps) : PairsIn (pre ++ r) vs ps := by
  induction h with
  | nil => exact .nil
  | cons hm _ ih =>
    refine .cons (t1 := ?_) (t2 := ?_) ?_ ih
    · rename_i t1 t2 _ _ _; exact t1
    · rename_i t1 t2 _ _ _; exact t2
    · rcases List.mem_append.mp hm with h | h
      · exact List.mem_append_left _ h
      · rcases List.mem_cons.mp h with h | h
        · subst h; exact absurd rfl hx
        · exact List.mem_append_right _ h
theorem PairsIn.sub {all r : List (Addr × Obj)} (hs : ∀ p ∈ all, p.2.cls = .type "tuple" → p ∈ r) {vs : List Value} {ps : List (Str × Str)} (h : PairsIn all vs ps) : PairsIn r vs ps := by
  induction h with
  | nil => exact .nil
  | cons hm _ ih => exact .cons (hs _ hm rfl) ih
theorem unrEndL {h₀ : Heap} {L : Addr} {its : List (Addr × Obj)} {rest : (Str → Option Value) → List (Addr × Obj) → Prop} {s₁ : Shared} {h' : Heap} {tk : Nat} {m' : Str → Option Value} {all news : List (Addr × Obj)} (F : Fr h₀ L h' m') (N : News h₀ L h' all)
    (hs : ∀ p ∈ its ++ news, p ∈ all) (hI : ∀ p ∈ news, ∀ q ∈ its, @Ne Nat p.1 q.1) (r : rest m' news) : UnrEndW h₀ L s₁ its rest { s₁ with heap := h', toks := tk } :=
  ⟨h', tk, m', news, rfl, F, fun p hp => N p (hs p hp), hI, r⟩
theorem unrEnd2 {h₀ : Heap} {L : Addr} {I : Addr} {o : Obj} {rest : (Str → Option Value) → List (Addr × Obj) → Prop} {s₁ : Shared} {h' : Heap} {tk : Nat} {m' : Str → Option Value} {all news : List (Addr × Obj)} (F : Fr h₀ L h' m') (N : News h₀ L h' all)
    (hs : ∀ p ∈ (I, o) :: news, p ∈ all) (hI : ∀ p ∈ news, @Ne Nat p.1 I) (r : rest m' news) : UnrEndW h₀ L s₁ [(I, o)] rest { s₁ with heap := h', toks := tk } :=
  ⟨h', tk, m', news, rfl, F, fun p hp => N p (hs p hp), fun p hp q hq => by rw [List.mem_singleton.mp hq]; exact hI p hp, r⟩
end Mine
namespace Mine
open PySem PySem.Calls PySem.Builtin PyProof.Rows PySem.W
/-- as itemsRest_inv, for a body that never leaves the loop: what comes after stays a name while the body is walked (the proof is far smaller) -/
theorem itemsRest_blind {prog : Program} {w : World} {A : Around} {E : Value → Shared → Prop} {s : Shared} {h₀ : Heap} {env : Env} {target : Expr} {body : List Stmt} {Q : Flow → Shared → Prop} {ws : List (Addr × String)} {keep : List (Addr × Obj)} {xs : List Itm} (J : Nat → (Str → Option Value) → List (Addr × Obj) → Prop)
    (turn : ∀ (Q' : Flow → Shared → Prop) i a v h tk m news, xs[i]? = some a → a.Is v h → J i m news → Fr h₀ env.locals h m → AllObj ws (fun its => News h₀ env.locals h (its ++ news) →
      wpAny (model prog w) A (assign target env v) (fun _ s₂ => wpAny (model prog w) A (execs body env) (UnrPostW h₀ env.locals { s with heap := h, toks := tk } its (fun m' n' => SubL keep n' ∧ J (i + 1) m' n') Q') E s₂) E { s with heap := h, toks := tk }))
    (done : ∀ h tk m news, J xs.length m news → Fr h₀ env.locals h m → News h₀ env.locals h news → Q .next { s with heap := h, toks := tk })
    {m : Str → Option Value} {news : List (Addr × Obj)} (h0 : J 0 m news) : ItemsRest prog w A E h₀ env target body Q s ws keep xs m news :=
  itemsRest_inv J (turn Q) done h0
theorem sub_keep {α : Type} {x : α} {l r : List α} (h : ∀ p ∈ l, p ∈ r) : ∀ p ∈ x :: l, p ∈ x :: r := fun p hp => by
  rcases List.mem_cons.mp hp with rfl | hp
  · exact .head _
  · exact .tail _ (h p hp)
theorem sub_skip {α : Type} {x : α} {l r : List α} (h : ∀ p ∈ l, p ∈ r) : ∀ p ∈ l, p ∈ x :: r := fun p hp => .tail _ (h p hp)
theorem sub_app {α : Type} {t l r : List α} (h : ∀ p ∈ l, p ∈ r) : ∀ p ∈ l, p ∈ t ++ r := fun p hp => List.mem_append_right _ (h p hp)
theorem sub_both {α : Type} {t l r : List α} (h : ∀ p ∈ l, p ∈ r) : ∀ p ∈ t ++ l, p ∈ t ++ r := fun p hp => by
  rcases List.mem_append.mp hp with hp | hp
  · exact List.mem_append_left _ hp
  · exact List.mem_append_right _ (h p hp)
theorem sub_same {α : Type} {l : List α} : ∀ p ∈ l, p ∈ l := fun _ hp => hp
theorem sub_nil {α : Type} {l : List α} : ∀ p ∈ ([] : List α), p ∈ l := fun _ hp => nomatch hp
end Mine
end
section
open PySem PySem.W PyProof.Rows PySem.Calls
namespace Mine
local macro_rules | `(tactic| walk_at "subscriptTail Name Slice ref ref") => `(tactic| (k_here; refine Hold.on ?_))
local macro_rules | `(tactic| walk_at "call builtin:sum") => `(tactic| (k_here; refine Hold.on ?_))

local macro_rules | `(tactic| walk_at "ItemsRest") => `(tactic| (refine Hold.on ?_))
local macro_rules | `(tactic| kpf_c) => `(tactic| first | with_reducible assumption | with_reducible exact List.mem_cons_self | (with_reducible refine List.mem_cons_of_mem _ ?_; kpf_c) | (refine List.mem_append_left _ ?_; kpf_c) | (refine List.mem_append_right _ ?_; kpf_c))
local macro_rules | `(tactic| kpf_close) => `(tactic| first | exact List.forall_mem_nil _ | (with_reducible refine List.forall_mem_cons.mpr ⟨?_, ?_⟩; (focus kpf_c); kpf_close) | (refine List.forall_mem_append.mpr ⟨?_, ?_⟩; (focus kpf_close); kpf_close) | (intro p hp; kpf_c))
local macro_rules | `(tactic| k_all) => `(tactic| with_reducible assumption)
local macro_rules | `(tactic| walk_at "call builtin:list.append") => `(tactic| (k_here; refine Hold.on ?_))
theorem withSq {h₀ h : Heap} {L a b : Addr} {x : Obj} {r : List (Addr × Obj)} {P : Prop} (_N : News h₀ L h ((a, x) :: (b, listOf #[] 0) :: r)) (k : ∀ a9 b9 x9, a9 = a → b9 = b → x9 = x → P) : P := k a b x rfl rfl rfl
theorem sqEnd {h₀ : Heap} {L : Addr} {R : (Str → Option Value) → List (Addr × Obj) → Prop} {s₁ : Shared} {h' : Heap} {tk : Nat} {m' : Str → Option Value} {T D i0 LL LD p1 p2 : Addr} {oD oE oI ol o1 o2 : Obj} {x y : Int} {t u : Tok} {ys : List Value} {kk : Nat} {own : List (Addr × Obj)}
    (hcE : oE.cls = .type "enumerate") (hcI : oI.cls = .type "list_iterator") (h1 : @LT.lt Nat _ LL i0) (h2 : @LT.lt Nat _ LD i0) (h3 : @LT.lt Nat _ p1 i0) (h4 : @LT.lt Nat _ p2 i0) (F : Fr h₀ L h' m')
    (N : News h₀ L h' ((T, ipObj x y t u) :: (D, oD) :: (i0 + 1, oE) :: (i0, oI) :: (LL, ol) :: (LD, listOf (ys.toArray.push (Value.ref T)) (kk + 1)) :: (own ++ [(p1, o1), (p2, o2)]))) (hown : ∀ p ∈ own, p.2.cls = .type "tuple")
    (r : R m' ((LL, ol) :: (LD, listOf (ys ++ [Value.ref T]).toArray (kk + 1)) :: (((T, ipObj x y t u) :: own) ++ [(p1, o1), (p2, o2)]))) : UnrEndW h₀ L s₁ [(i0 + 1, oE), (i0, oI)] R { s₁ with heap := h', toks := tk } := by
  have cl : ∀ p ∈ (T, ipObj x y t u) :: own, p.2.cls = .type "tuple" := List.forall_mem_cons.mpr ⟨rfl, hown⟩
  refine unrEndL F N (by rw [← List.push_toArray]; kpf_close) (fun p hp => ?_) r
  have two : @Ne Nat p.1 (i0 + 1) ∧ @Ne Nat p.1 i0 := by
    rcases List.mem_cons.mp hp with rfl | hp
    · exact ⟨Nat.ne_of_lt (Nat.lt_succ_of_lt h1), Nat.ne_of_lt h1⟩
    rcases List.mem_cons.mp hp with rfl | hp
    · exact ⟨Nat.ne_of_lt (Nat.lt_succ_of_lt h2), Nat.ne_of_lt h2⟩
    rcases List.mem_append.mp hp with hp | hp
    · have hm : (p.1, p.2) ∈ (T, ipObj x y t u) :: (D, oD) :: (i0 + 1, oE) :: (i0, oI) :: (LL, ol) :: (LD, listOf (ys.toArray.push (Value.ref T)) (kk + 1)) :: (own ++ [(p1, o1), (p2, o2)]) := by
        rcases List.mem_cons.mp hp with rfl | hp
        · kpf_c
        · kpf_c
      exact ⟨news_ne N hm (y := oE) (by kpf_c) (by rw [cl p hp, hcE]; decide), news_ne N hm (y := oI) (by kpf_c) (by rw [cl p hp, hcI]; decide)⟩
    · simp only [List.mem_cons, List.not_mem_nil, or_false] at hp
      rcases hp with rfl | rfl
      · exact ⟨Nat.ne_of_lt (Nat.lt_succ_of_lt h3), Nat.ne_of_lt h3⟩
      · exact ⟨Nat.ne_of_lt (Nat.lt_succ_of_lt h4), Nat.ne_of_lt h4⟩
  exact List.forall_mem_cons.mpr ⟨two.1, List.forall_mem_cons.mpr ⟨two.2, List.forall_mem_nil _⟩⟩
theorem withI4 {a b c d x : Nat} {P : Prop} (_h : a < x ∧ b < x ∧ c < x ∧ d < x) (k : ∀ x9, x9 = x → P) : P := k x rfl
theorem guests_walk {w : World} {loose : List Str} {mean : ExcName → Option Value} {mg mb : Str → Option Value}
  {dp un : Nat} {gd : Option (List Code)} {cn : Str} {csn : List (Str × NameKind)} {csg csc : Bool} {csm : List (Str × Const)} {a : Addr} {ccd : Value} {cl : List (Str × Addr)} {outer : List Env} {A₀ : Around} {base h₀ : Heap} {L : Addr} {m : Str → Option Value} {p1 p2 : Addr} {o1 o2 : Obj} {s : Shared} {Q E : Value → Shared → Prop}
  {sc : Addr} {vs : List Value} {ns : List Int}
  (B : Below A₀ base outer h₀) (F : Fr h₀ L s.heap m) (X : (hd03.heap_39 w.params).In h₀)
  (N : News h₀ L s.heap [(p1, o1), (p2, o2)]) (T : Top hd03.view_39 loose mean mg mb h₀)
  (hd : dp + 6 < recursionLimit) (hu : un + 96 < cLine) (hl : h₀.IsList sc vs.toArray) (hi : IntsAre vs ns) (hln : ns.length ≤ 63)
  (ret : ∀ (D : Addr) (k : Nat) (ys : List Value) (ts : List (Int × Int)) (own : List (Addr × Obj)) (h' : Heap) (tk' : Nat), Fr h₀ L h' m → News h₀ L h' (own ++ [(p1, o1), (p2, o2)]) → (D, listOf ys.toArray k) ∈ own → IPairsIn own ys ts → ts.length = 4 → (∀ t ∈ ts, okG t) → (∀ p ∈ own, (p.2.cls = .type "tuple" ∨ p.2.cls = .type "list") ∧ ∀ v, p.2.data ≠ .cell v) → Q (.ref D) { s with heap := h', toks := tk' }) :
  wpAny (model PySem.Challenge.rw_sw0068_03.row.prog w) (ktrTop dp un gd cn ⟨.function, csn, csg, csc, csm⟩ L a ccd cl outer) (call (.ref 214) [.ref sc]) Q E s := by
  revert X; k_fill; intro X
  refine wpAny_call ?_
  k_dflt k_enter
  (with_reducible rename Fr h₀ L _ m => FG9)
  have hlg := Fr.lst FG9 hl

  (k_steps; repeat' (refine Hold.off ?_; first | ((with_reducible show wpAny _ _ (call (Value.builtin "list.append") [Value.ref _, _]) _ _ _); (with_unfolding_all refine' append_K ?apF ?apN ?apU ?_ ?apz; (case apF => k_asm); (case apN => k_asm); (case apU => k_upd); (case apz => rw [sizeLine_eq]; simp only [List.size_toArray]; omega)); intro h' F' N'; (try k_sweep); k_steps) | ((with_reducible show wpAny _ _ (call (Value.builtin "sum") [Value.ref _]) _ _ _); (with_reducible rename IntsAre _ _ => hI9); k_dflt (refine' PyProof.Rows.LSm.sum_ints ?smF ?smN ?smh ?sml hI9 ?_; (case smF => k_asm); (case smN => k_asm); (case smh => rfl); (case sml => first | exact News.isList (by k_asm) (by k_mem) | kmk_list)); intro h' tk' t' F' N'; (generalize (List.sum _ : Int) = z9); clear hI9; k_steps) | ((with_reducible show wpAny _ _ (subscriptTail _ (PySem.Expr.Slice _ _ (some _) _) (Value.ref _) (Value.ref _)) _ _ _); k_dflt (refine' slice_stride ?sqF ?sqN ?sql ?sqi ?sqn ?sqp ?sqq ?sqk ?sqo ?_ ?sqs ?sqt; (case sqF => k_asm); (case sqN => k_asm); (case sql => first | exact Fr.lst (by assumption) (by with_reducible assumption)); (case sqi => with_reducible assumption); (case sqn => with_reducible assumption); (case sqp => kmk_part); (case sqq => kmk_part); (case sqk => kmk_part); (case sqo => decide); (case sqs => with_unfolding_all rfl); (case sqt => kmk_pure)); intro D' h' zs' ms' F' N' l1 hI'; (try k_lt l1); k_steps)))
  refine Hold.off ?_
  (with_reducible rename News _ _ _ _ => N0)
  refine withSq N0 fun LL LD ol e1 e2 e3 => ?_
  subst e1 e2
  (rename _ < _ ∧ _ ∧ _ ∧ _ => li)
  refine withI4 li fun i0 e4 => ?_
  subst e4
  have hol : ol.cls = .type "list" ∧ ∀ v, ol.data ≠ .cell v := by subst e3; exact ⟨rfl, fun v e => nomatch e⟩
  (rename LD < LL ∧ _ ∧ _ => lL)
  (rename p1 < LD ∧ _ => lD)
  refine itemsRest_blind (fun i m' n' => ∃ (ys : List Value) (kk : Nat) (own : List (Addr × Obj)) (ts : List (Int × Int)), m' (Str.ofString "guests") = some (.ref LD) ∧ m' (Str.ofString "script") = some (.ref sc) ∧
    n' = (LL, ol) :: (LD, listOf ys.toArray kk) :: (own ++ [(p1, o1), (p2, o2)]) ∧ (∀ p ∈ own, p.2.cls = .type "tuple" ∧ ∀ v, p.2.data ≠ .cell v) ∧ IPairsIn own ys ts ∧ ts.length = i ∧ i ≤ 4 ∧ ∀ t ∈ ts, okG t) ?turn ?done ?z
  case z => exact ⟨[], 0, [], [], by with_unfolding_all rfl, by with_unfolding_all rfl, by subst e3; rfl, (fun _ h => nomatch h), .nil, rfl, by omega, (fun _ h => nomatch h)⟩
  case turn =>
    rintro Q9 i a0 v h tk m' n' hx hv ⟨ys, kk, own, ts, hk1, hk2, rfl, hown, hT, htl, hi6, hok⟩ F'
    obtain ⟨k, seed, u, rfl, hk0, hk6, hi5⟩ : ∃ (k seed : Int) (u : Tok), a0 = Itm.pair (fun t => Value.int k t) (Value.int seed u) ∧ 0 ≤ k ∧ k ≤ 3 ∧ i ≤ 3 := by
      match i, hx with
      | 0, hx => exact ⟨_, _, _, (Option.some.inj hx).symm, by decide, by decide, by omega⟩
      | 1, hx => exact ⟨_, _, _, (Option.some.inj hx).symm, by decide, by decide, by omega⟩
      | 2, hx => exact ⟨_, _, _, (Option.some.inj hx).symm, by decide, by decide, by omega⟩
      | 3, hx => exact ⟨_, _, _, (Option.some.inj hx).symm, by decide, by decide, by omega⟩
      | n + 4, hx => exact absurd hx (by simp)
    clear hx
    obtain ⟨T9, t9, rfl, hT9⟩ := hv
    rw [← fr_eq [(_, _), (_, _)] (List.forall_mem_cons.mpr ⟨hk1, List.forall_mem_cons.mpr ⟨hk2, List.forall_mem_nil _⟩⟩)] at F'
    dsimp only [kstB] at F'
    clear hk1 hk2
    refine AllObj.cons fun oE hcE => AllObj.cons fun oI hcI => AllObj.nil fun N' => ?_
    dsimp only [List.cons_append, List.nil_append] at N'
    have hyl : ys.length ≤ 4 := by rw [hT.length, htl]; exact hi6
    have hoD : ∀ p ∈ own ++ [(p1, o1), (p2, o2)], p.1 ≠ LD := fun p hp => by
      rcases List.mem_append.mp hp with hp | hp
      · exact news_ne N' (x := p.2) (y := listOf ys.toArray kk) (by kpf_c) (by kpf_c) (by rw [(hown p hp).1]; show Value.type "tuple" ≠ Value.type "list"; decide)
      · simp only [List.mem_cons, List.not_mem_nil, or_false] at hp
        rcases hp with rfl | rfl
        · exact Nat.ne_of_lt lD.1
        · exact Nat.ne_of_lt lD.2
    (k_steps; repeat' (refine Hold.off ?_; first | ((with_reducible show wpAny _ _ (call (Value.builtin "list.append") [Value.ref _, _]) _ _ _); (with_unfolding_all refine' append_K ?apF ?apN ?apU ?_ ?apz; (case apF => k_asm); (case apN => k_asm); (case apU => k_upd); (case apz => rw [sizeLine_eq]; simp only [List.size_toArray]; omega)); intro h' F' N'; (try k_sweep); k_steps) | ((with_reducible show wpAny _ _ (call (Value.builtin "sum") [Value.ref _]) _ _ _); (with_reducible rename IntsAre _ _ => hI9); k_dflt (refine' PyProof.Rows.LSm.sum_ints ?smF ?smN ?smh ?sml hI9 ?_; (case smF => k_asm); (case smN => k_asm); (case smh => rfl); (case sml => first | exact News.isList (by k_asm) (by k_mem) | kmk_list)); intro h' tk' t' F' N'; (generalize (List.sum _ : Int) = z9); clear hI9; k_steps) | ((with_reducible show wpAny _ _ (subscriptTail _ (PySem.Expr.Slice _ _ (some _) _) (Value.ref _) (Value.ref _)) _ _ _); k_dflt (refine' slice_stride ?sqF ?sqN ?sql ?sqi ?sqn ?sqp ?sqq ?sqk ?sqo ?_ ?sqs ?sqt; (case sqF => k_asm); (case sqN => k_asm); (case sql => first | exact Fr.lst (by assumption) (by with_reducible assumption)); (case sqi => with_reducible assumption); (case sqn => with_reducible assumption); (case sqp => kmk_part); (case sqq => kmk_part); (case sqk => kmk_part); (case sqo => decide); (case sqs => with_unfolding_all rfl); (case sqt => kmk_pure)); intro D' h' zs' ms' F' N' l1 hI'; (try k_lt l1); k_steps)))
    refine sqEnd hcE hcI li.1 li.2.1 li.2.2.1 li.2.2.2 (by k_asm) (by assumption) (fun p hp => (hown p hp).1) ⟨⟨by subst e3; exact .head _, trivial⟩, _, _, _, ts ++ [_], by with_unfolding_all rfl, by with_unfolding_all rfl, rfl, List.forall_mem_cons.mpr ⟨⟨rfl, fun v e => nomatch e⟩, hown⟩, IPairsIn.snoc (hT.mono fun p hp => .tail _ hp) (.head _), by rw [List.length_append, htl]; rfl, by omega, fun t ht => ?hok8⟩
    rcases List.mem_append.mp ht with ht | ht
    · exact hok t ht
    · rw [List.mem_singleton.mp ht]
      exact okG_gu _
  case done =>
    rintro h tk m' n' ⟨ys, kk, own, ts, hk1, hk2, rfl, hown, hT, htl, hi6, hok⟩ F' N'
    rw [← fr_eq [(_, _), (_, _)] (List.forall_mem_cons.mpr ⟨hk1, List.forall_mem_cons.mpr ⟨hk2, List.forall_mem_nil _⟩⟩)] at F'
    dsimp only [kstB] at F'
    clear hk1 hk2
    (k_steps; repeat' (refine Hold.off ?_; first | ((with_reducible show wpAny _ _ (call (Value.builtin "list.append") [Value.ref _, _]) _ _ _); (with_unfolding_all refine' append_K ?apF ?apN ?apU ?_ ?apz; (case apF => k_asm); (case apN => k_asm); (case apU => k_upd); (case apz => rw [sizeLine_eq]; simp only [List.size_toArray]; omega)); intro h' F' N'; (try k_sweep); k_steps) | ((with_reducible show wpAny _ _ (call (Value.builtin "sum") [Value.ref _]) _ _ _); (with_reducible rename IntsAre _ _ => hI9); k_dflt (refine' PyProof.Rows.LSm.sum_ints ?smF ?smN ?smh ?sml hI9 ?_; (case smF => k_asm); (case smN => k_asm); (case smh => rfl); (case sml => first | exact News.isList (by k_asm) (by k_mem) | kmk_list)); intro h' tk' t' F' N'; (generalize (List.sum _ : Int) = z9); clear hI9; k_steps) | ((with_reducible show wpAny _ _ (subscriptTail _ (PySem.Expr.Slice _ _ (some _) _) (Value.ref _) (Value.ref _)) _ _ _); k_dflt (refine' slice_stride ?sqF ?sqN ?sql ?sqi ?sqn ?sqp ?sqq ?sqk ?sqo ?_ ?sqs ?sqt; (case sqF => k_asm); (case sqN => k_asm); (case sql => first | exact Fr.lst (by assumption) (by with_reducible assumption)); (case sqi => with_reducible assumption); (case sqn => with_reducible assumption); (case sqp => kmk_part); (case sqq => kmk_part); (case sqk => kmk_part); (case sqo => decide); (case sqs => with_unfolding_all rfl); (case sqt => kmk_pure)); intro D' h' zs' ms' F' N' l1 hI'; (try k_lt l1); k_steps)))
    refine ret LD kk ys ts ((LL, ol) :: (LD, listOf ys.toArray kk) :: own) _ _ (by k_asm) (cb_drop (by assumption) (by kpf_close)) (by kpf_c) (hT.mono fun p hp => .tail _ (.tail _ hp)) htl hok ?_
    exact List.forall_mem_cons.mpr ⟨⟨.inr hol.1, hol.2⟩, List.forall_mem_cons.mpr ⟨⟨.inr rfl, fun v e => nomatch e⟩, fun p hp => ⟨.inl (hown p hp).1, (hown p hp).2⟩⟩⟩
end Mine
end
section
open PySem PySem.W PyProof.Rows PySem.Calls
namespace Mine
local macro_rules | `(tactic| walk_at "call ref") => `(tactic| (k_here; refine Hold.on ?_))
local macro_rules | `(tactic| walk_at "call builtin:str.lower") => `(tactic| (k_here; refine Hold.on ?_))

local macro_rules | `(tactic| k_all) => `(tactic| exact allLt_ne (by assumption) (by omega))
local macro_rules | `(tactic| walk_at "eval ListComp") => `(tactic| (k_here; refine Hold.on ?_))
theorem get_all_walk {w : World} {loose : List Str} {mean : ExcName → Option Value} {mg mb : Str → Option Value}
  {dp un : Nat} {gd : Option (List Code)} {cn : Str} {csn : List (Str × NameKind)} {csg csc : Bool} {csm : List (Str × Const)} {a : Addr} {ccd : Value} {cl : List (Str × Addr)} {outer : List Env} {A₀ : Around} {base h₀ : Heap} {L : Addr} {m : Str → Option Value} {news : List (Addr × Obj)} {s : Shared} {Q E : Value → Shared → Prop}
  {hA dx l : Addr} {tk nn : Nat} {vs : List Value} {ps : List (Str × Str)} {x : Str} {t1 : Tok}
  (B : Below A₀ base outer h₀) (F : Fr h₀ L s.heap m) (X : (hd03.heap_39 w.params).In h₀)
  (N : News h₀ L s.heap ((hA, instObj 203 dx) :: (dx, dictOf [⟨PyData.keyHash w.params "_headers", .str "_headers" tk, .ref l⟩] 1) :: (l, listOf vs.toArray nn) :: news)) (T : Top hd03.view_39 loose mean mg mb h₀)
  (hd : dp + 6 < recursionLimit) (hu : un + 48 < cLine) (hx : okS x) (hlen : vs.length ≤ 1000) (hps : PairsIn news vs ps) (hok : ∀ p ∈ ps, okS p.1)
  (ret : ∀ (D : Addr) (ys : List Value) (n : Nat) (h' : Heap) (tk' : Nat), Fr h₀ L h' m → News h₀ L h' ((D, listOf ys.toArray n) :: (hA, instObj 203 dx) :: (dx, dictOf [⟨PyData.keyHash w.params "_headers", .str "_headers" tk, .ref l⟩] 1) :: (l, listOf vs.toArray nn) :: news) →
     StrsAre ys ((ps.filter fun p => lowS p.1 == lowS x).map (·.2)) → (∀ p ∈ (hA, instObj 203 dx) :: (dx, dictOf [⟨PyData.keyHash w.params "_headers", .str "_headers" tk, .ref l⟩] 1) :: (l, listOf vs.toArray nn) :: news, @Ne Nat p.1 D) → Q (.ref D) { s with heap := h', toks := tk' }) :
  wpAny (model PySem.Challenge.rw_sw0068_03.row.prog w) (ktrTop dp un gd cn ⟨.function, csn, csg, csc, csm⟩ L a ccd cl outer) (call (.ref 142) [.ref hA, .str x t1]) Q E s := by
  revert X; k_fill; intro X
  refine wpAny_call ?_
  k_dflt k_enter
  (rename hA < _ ∧ _ => l1)
  have al1 := l1.2.2.2
  (k_steps; repeat' (refine Hold.off ?_; first | (lct_look; k_dflt (refine LCt.ListComp_T (F₀ := by k_asm) (by with_unfolding_all rfl) (by decide) (by rfl) (by decide) (by rfl) ?_); k_steps) | ((with_reducible show wpAny _ _ (call (Value.builtin "str.lower") [Value.str _ _]) _ _ _); refine call_lower (by assumption) ?_; (try dsimp only); k_steps) | ((with_reducible show wpAny _ _ (call (Value.ref 104) _ _) _ _ _); k_dflt (refine' conv_walk ?k1 ?k2 ?k3 ?k4 ?k5 ?kd ?ku ?kx ?_; (case k1 => k_asm); (case k2 => k_asm); (case k3 => k_asm); (case k4 => k_asm); (case k5 => k_asm); (case kd => ktr_room); (case ku => ktr_units); (case kx => first | assumption | exact okS_low (by assumption))); intro t9' h' tk' F' N'; (try dsimp only); (try k_fold); k_steps)))
  refine LCt.CompSrcT.ledger (by rfl) (by k_asm) (by k_asm) (by k_mem) (by rw [sizeLine_eq]; simp only [List.size_toArray]; omega) ?_
  intro g'
  refine restT_of (J := fun i ys => StrsAre ys (((ps.take i).filter fun p => lowS p.1 == lowS x).map (·.2))) ?fin ?turn _ _ _ (Nat.zero_add _) .nil
  case turn =>
    intro i v ys I oI C oC D m₂ h tk E' hi hv hJ hC' hx' F' N' off' ne'
    obtain ⟨aP, kP, xP, tA, tB, rfl, hm, hp⟩ := hps.get (by simpa using hv)
    have hkP : okS kP := hok _ (List.mem_of_getElem? hp)
    have N2 := news_more (x := (aP, pairObj kP xP tA tB)) N' (by simp [hm])
    clear N'
    (k_steps; repeat' (refine Hold.off ?_; first | (lct_look; k_dflt (refine LCt.ListComp_T (F₀ := by k_asm) (by with_unfolding_all rfl) (by decide) (by rfl) (by decide) (by rfl) ?_); k_steps) | ((with_reducible show wpAny _ _ (call (Value.builtin "str.lower") [Value.str _ _]) _ _ _); refine call_lower (by assumption) ?_; (try dsimp only); k_steps) | ((with_reducible show wpAny _ _ (call (Value.ref 104) _ _) _ _ _); k_dflt (refine' conv_walk ?k1 ?k2 ?k3 ?k4 ?k5 ?kd ?ku ?kx ?_; (case k1 => k_asm); (case k2 => k_asm); (case k3 => k_asm); (case k4 => k_asm); (case k5 => k_asm); (case kd => ktr_room); (case ku => ktr_units); (case kx => first | assumption | exact okS_low (by assumption))); intro t9' h' tk' F' N'; (try dsimp only); (try k_fold); k_steps)))
    all_goals (refine LCg.CompEnd.intro (by k_asm) (by assumption) _ (by kcf_all) off' (.inr ⟨_, by k_mem, rfl, _, rfl⟩) ⟨rfl, ?_⟩)
    · exact strs_take_pos hJ hp (by assumption)
    · exact strs_take_neg hJ hp (by assumption)
  case fin =>
    intro ys hJ
    rw [List.take_of_length_le (by simp only [List.size_toArray]; exact Nat.le_of_eq hps.length.symm)] at hJ
    (k_steps; repeat' (refine Hold.off ?_; first | (lct_look; k_dflt (refine LCt.ListComp_T (F₀ := by k_asm) (by with_unfolding_all rfl) (by decide) (by rfl) (by decide) (by rfl) ?_); k_steps) | ((with_reducible show wpAny _ _ (call (Value.builtin "str.lower") [Value.str _ _]) _ _ _); refine call_lower (by assumption) ?_; (try dsimp only); k_steps) | ((with_reducible show wpAny _ _ (call (Value.ref 104) _ _) _ _ _); k_dflt (refine' conv_walk ?k1 ?k2 ?k3 ?k4 ?k5 ?kd ?ku ?kx ?_; (case k1 => k_asm); (case k2 => k_asm); (case k3 => k_asm); (case k4 => k_asm); (case k5 => k_asm); (case kd => ktr_room); (case ku => ktr_units); (case kx => first | assumption | exact okS_low (by assumption))); intro t9' h' tk' F' N'; (try dsimp only); (try k_fold); k_steps)))
    (rename _ ∧ _ ∧ _ ∧ _ ∧ LCg.Off1 _ news => o9)
    exact ret _ _ _ _ _ (by k_asm) (cb_drop (by assumption) (by kcf_all)) hJ (off1_all o9.2)
end Mine
end
section
namespace Mine
open PySem PySem.Calls PySem.Builtin PyProof.Rows PySem.W LCg LCp
section
variable {prog : Program} {w : World} {A : Around} {s : Shared} {h₀ : Heap} {L : Addr} {m : Str → Option Value} {env : Env}
theorem restP_of {elt : Expr} {x x₂ : Str} {scope : Scope} {cl : List (Str × Addr)} {S : List (Addr × Obj) → Prop} {P : Nat → Value → Prop} {Fin : List Value → List (Addr × Obj) → Prop} {n : Nat} {news : List (Addr × Obj)}
    (J : Nat → List Value → Prop) (hfin : ∀ ys, J n ys → Fin ys news)
    (turn : ∀ i v, i < n → P i v → ∃ (t : Addr) (ot : Obj) (v₁ v₂ : Value) (nt : Nat), v = .ref t ∧ (t, ot) ∈ news ∧ ot.cls = .type "tuple" ∧ ot.data = .seq #[v₁, v₂] nt ∧
      ∀ ys I oI C oC D m₂ h tk (E' : Value → Shared → Prop), J i ys → NsObj oC m₂ → m₂ x = some v₁ → m₂ x₂ = some v₂ → Fr h₀ L h m → News h₀ L h ((I, oI) :: (C, oC) :: (D, lst ys) :: news) → Off3 I C D news → ((@Ne Nat I C) ∧ (@Ne Nat I D) ∧ (@Ne Nat C D)) →
        wpAny (model prog w) A (eval elt (compEnvC scope cl C env)) (CompEnd h₀ L m { s with heap := h, toks := tk } I oI C oC D (lst ys) S (fun y news' => news' = news ∧ J (i + 1) (ys ++ [y]))) E' { s with heap := h, toks := tk }) :
    ∀ k i ys, i + k = n → J i ys → CompRestP prog w A h₀ L m env elt x x₂ scope cl s S P Fin k i ys news := by
  intro k
  induction k with
  | zero => intro i ys e hj; exact .zero (hfin _ (by rw [Nat.add_zero] at e; exact e ▸ hj))
  | succ k ih =>
    intro i ys e hj
    refine .succ fun v hP => ?_
    obtain ⟨t, ot, v₁, v₂, nt, e1, e2, e3, e4, go⟩ := turn i v (by omega) hP
    refine ⟨t, ot, v₁, v₂, nt, e1, e2, e3, e4, fun I oI C oC D m₂ h tk E' hN hx hx2 F N O ne => ?_⟩
    refine wpAny_mono (go ys I oI C oC D m₂ h tk E' hj hN hx hx2 F N O ne) (fun y s'' h2 => compEnd_mono h2 fun nw hr => ?_) fun _ _ e => e
    obtain ⟨rfl, hj'⟩ := hr
    exact ih _ _ (by omega) hj'
end
end Mine
end
section
namespace Mine
open PySem PySem.Calls PySem.Builtin PyProof.Rows PySem.W LCg PySem.SeqAt
section
variable {prog : Program} {w : World} {A : Around} {s : Shared} {h₀ : Heap} {L : Addr} {m : Str → Option Value} {env : Env}
theorem restU_of {elt : Expr} {x : Str} {scope : Scope} {cl : List (Str × Addr)} {S : List (Addr × Obj) → Prop} {P : Nat → Value → Prop} {Fin : List Value → List (Addr × Obj) → Prop} {n : Nat} {news : List (Addr × Obj)}
    (J : Nat → List Value → List (Addr × Obj) → Prop) (hfin : ∀ ys own, J n ys own → Fin ys (own ++ news))
    (turn : ∀ i v ys own I oI C oC D m₂ h tk (E' : Value → Shared → Prop), i < n → P i v → J i ys own → NsObj oC m₂ → m₂ x = some v → Fr h₀ L h m → News h₀ L h ((I, oI) :: (C, oC) :: (D, lst ys) :: (own ++ news)) → Off3 I C D (own ++ news) → ((@Ne Nat I C) ∧ (@Ne Nat I D) ∧ (@Ne Nat C D)) →
      wpAny (model prog w) A (eval elt (compEnvC scope cl C env)) (CompEnd h₀ L m { s with heap := h, toks := tk } I oI C oC D (lst ys) S (fun y news' => ∃ own', news' = own' ++ news ∧ J (i + 1) (ys ++ [y]) own')) E' { s with heap := h, toks := tk }) :
    ∀ k i ys own, i + k = n → J i ys own → CompRest prog w A h₀ L m env elt x scope cl s S P Fin k i ys (own ++ news) := by
  intro k
  induction k with
  | zero => intro i ys own e hj; exact .zero (hfin _ _ (by rw [Nat.add_zero] at e; exact e ▸ hj))
  | succ k ih =>
    intro i ys own e hj
    show ∀ v I oI C oC D m₂ h tk (E' : Value → Shared → Prop), _
    intro v I oI C oC D m₂ h tk E' hP hN hx F N O ne
    refine wpAny_mono (turn i v ys own I oI C oC D m₂ h tk E' (by omega) hP hj hN hx F N O ne) (fun y s'' h2 => compEnd_mono h2 fun nw hr => ?_) fun _ _ e => e
    obtain ⟨own', rfl, hj'⟩ := hr
    exact ih _ _ _ (by omega) hj'
end
noncomputable def pairD (p : Str × Str) : PyData := .tuple [.str p.1, .str p.2]
section
variable {prog : Program} {w : World} {A : Around} {E : Value → Shared → Prop} {s : Shared} {h₀ : Heap} {L : Addr} {Q : Value → Shared → Prop}
end
end Mine
namespace Mine
open PySem PySem.Calls PySem.Builtin PyProof.Rows PySem.W LCg
theorem compEnd_pair {h₀ : Heap} {L : Addr} {m : Str → Option Value} {s₁ : Shared} {I C D T : Addr} {oI oC oD : Obj} {S : List (Addr × Obj) → Prop} {R : Value → List (Addr × Obj) → Prop} {kx vx : Str} {t1 t2 : Tok} {h' : Heap} {tk : Nat} {own news : List (Addr × Obj)} {X : Prop}
    (F : Fr h₀ L h' m) (N : News h₀ L h' ((T, pairObj kx vx t1 t2) :: (I, oI) :: (C, oC) :: (D, oD) :: (own ++ news))) (l9 : @LT.lt Nat _ I T ∧ @LT.lt Nat _ C T ∧ @LT.lt Nat _ D T ∧ X) (off : Off3 I C D (own ++ news))
    (hS : S (((T, pairObj kx vx t1 t2) :: own) ++ news)) (r : R (.ref T) ((T, pairObj kx vx t1 t2) :: own)) :
    CompEnd h₀ L m s₁ I oI C oC D oD S (fun y news' => ∃ own', news' = own' ++ news ∧ R y own') (.ref T) { s₁ with heap := h', toks := tk } :=
  ⟨h', tk, ((T, pairObj kx vx t1 t2) :: own) ++ news, rfl, F, fun p hp => N p (by simp only [List.mem_cons, List.mem_append] at hp ⊢; rcases hp with h | h | h | (h | h) | h <;> simp [h]), ⟨⟨Nat.ne_of_gt l9.1, Nat.ne_of_gt l9.2.1, Nat.ne_of_gt l9.2.2.1⟩, off⟩, hS, _, rfl, r⟩
theorem take_next {α : Type} {l : List α} {i : Nat} {x : α} (h : l[i]? = some x) : l.take (i + 1) = l.take i ++ [x] := by
  rw [List.take_add_one, h]; rfl
end Mine
namespace Mine
open PySem PySem.Calls PySem.Builtin PyProof.Rows PySem.W LCg
theorem compEnd_obj {h₀ : Heap} {L : Addr} {m : Str → Option Value} {s₁ : Shared} {I C D T : Addr} {oI oC oD oT : Obj} {S : List (Addr × Obj) → Prop} {R : Value → List (Addr × Obj) → Prop} {h' : Heap} {tk : Nat} {own news : List (Addr × Obj)} {X : Prop}
    (F : Fr h₀ L h' m) (N : News h₀ L h' ((T, oT) :: (I, oI) :: (C, oC) :: (D, oD) :: (own ++ news))) (l9 : @LT.lt Nat _ I T ∧ @LT.lt Nat _ C T ∧ @LT.lt Nat _ D T ∧ X) (off : Off3 I C D (own ++ news))
    (hS : S (((T, oT) :: own) ++ news)) (r : R (.ref T) ((T, oT) :: own)) :
    CompEnd h₀ L m s₁ I oI C oC D oD S (fun y news' => ∃ own', news' = own' ++ news ∧ R y own') (.ref T) { s₁ with heap := h', toks := tk } :=
  ⟨h', tk, ((T, oT) :: own) ++ news, rfl, F, fun p hp => N p (by simp only [List.mem_cons, List.mem_append] at hp ⊢; rcases hp with h | h | h | (h | h) | h <;> simp [h]), ⟨⟨Nat.ne_of_gt l9.1, Nat.ne_of_gt l9.2.1, Nat.ne_of_gt l9.2.2.1⟩, off⟩, hS, _, rfl, r⟩
end Mine
namespace Mine
open PySem PySem.Calls PySem.Builtin PyProof.Rows PySem.W LCg
theorem compEnd_perm {h₀ : Heap} {L : Addr} {m : Str → Option Value} {s₁ : Shared} {I C D T : Addr} {oI oC oD oT : Obj} {S : List (Addr × Obj) → Prop} {R : Value → List (Addr × Obj) → Prop} {h' : Heap} {tk : Nat} {own news rest : List (Addr × Obj)} {X : Prop}
    (F : Fr h₀ L h' m) (N : News h₀ L h' ((T, oT) :: (I, oI) :: (C, oC) :: (D, oD) :: rest)) (hsub : ∀ p ∈ own ++ news, p ∈ rest) (l9 : @LT.lt Nat _ I T ∧ @LT.lt Nat _ C T ∧ @LT.lt Nat _ D T ∧ X) (off : Off3 I C D (own ++ news))
    (hS : S (((T, oT) :: own) ++ news)) (r : R (.ref T) ((T, oT) :: own)) :
    CompEnd h₀ L m s₁ I oI C oC D oD S (fun y news' => ∃ own', news' = own' ++ news ∧ R y own') (.ref T) { s₁ with heap := h', toks := tk } :=
  compEnd_obj F (cb_drop N (fun p hp => by
    rcases List.mem_cons.mp hp with h | hp
    · simp [h]
    rcases List.mem_cons.mp hp with h | hp
    · simp [h]
    rcases List.mem_cons.mp hp with h | hp
    · simp [h]
    rcases List.mem_cons.mp hp with h | hp
    · simp [h]
    · exact List.mem_cons_of_mem _ (List.mem_cons_of_mem _ (List.mem_cons_of_mem _ (List.mem_cons_of_mem _ (hsub p hp)))))) l9 off hS r
end Mine
end
section
namespace Mine
open PySem
noncomputable def leftAt (ns : List Str) (ws : List Int) (ps : List (Str × Str)) (k : Nat) : Int := ws.getD k 0 - (((ps.filter fun p => lowS p.1 == lowS (swS (ns.getD k Str.empty))).length : Nat) : Int)
noncomputable def leftS (ns : List Str) (ws : List Int) (ps : List (Str × Str)) : List Int := (List.range 4).map (leftAt ns ws ps)
noncomputable def lessT (l : List Int) (i j : Nat) : Bool := decide (l.getD j 0 < l.getD i 0) || (decide (l.getD i 0 = l.getD j 0) && decide (i < j))
noncomputable def oneT (l : List Int) : Nat := (List.range 4).foldl (fun b k => if lessT l k b then k else b) 0
noncomputable def otherT (l : List Int) : Nat := ((List.range 4).filter fun k => k != oneT l).foldl (fun b k => if lessT l k b then k else b) (if oneT l = 0 then 1 else 0)
noncomputable def tieStep (ns : List Str) (ws : List Int) (ps : List (Str × Str)) : List (Str × Str) :=
  let l := leftS ns ws ps
  if 0 < l.getD (otherT l) 0 then ps ++ [(ns.getD (oneT l) Str.empty, ns.getD (otherT l) Str.empty), (ns.getD (otherT l) Str.empty, ns.getD (oneT l) Str.empty)] else ps
noncomputable def tiesS (ns : List Str) (ws : List Int) : Nat → List (Str × Str)
  | 0 => []
  | n + 1 => tieStep ns ws (tiesS ns ws n)
end Mine
namespace Mine
open PySem
theorem pick_lt {l : List Int} : ∀ (ks : List Nat) (b : Nat), b < 4 → (∀ k ∈ ks, k < 4) → ks.foldl (fun b k => if lessT l k b then k else b) b < 4
  | [], _, hb, _ => hb
  | k :: ks, b, hb, h => by
    rw [List.foldl_cons]
    refine pick_lt ks _ ?_ fun x hx => h x (.tail _ hx)
    split
    · exact h k (.head _)
    · exact hb
theorem one_lt (l : List Int) : oneT l < 4 := pick_lt _ 0 (by omega) fun k hk => List.mem_range.mp hk
theorem other_lt (l : List Int) : otherT l < 4 := pick_lt _ _ (by split <;> omega) fun k hk => List.mem_range.mp (List.mem_filter.mp hk).1
theorem names_at {ns : List Str} (hl : ns.length = 4) (h : ∀ n ∈ ns, okS n) {k : Nat} (hk : k < 4) : okS (ns.getD k Str.empty) := by
  rw [List.getD_eq_getElem?_getD, List.getElem?_eq_getElem (by omega)]
  exact h _ (List.getElem_mem _)
theorem ties_ok {ns : List Str} {ws : List Int} (hl : ns.length = 4) (h : ∀ n ∈ ns, okS n) : ∀ i, (∀ p ∈ tiesS ns ws i, okS p.1 ∧ okS p.2) ∧ (tiesS ns ws i).length ≤ 2 * i
  | 0 => ⟨fun _ h => (nomatch h), Nat.le_refl _⟩
  | i + 1 => by
    have ih := ties_ok (ws := ws) hl h i
    have a := names_at hl h (one_lt (leftS ns ws (tiesS ns ws i)))
    have b := names_at hl h (other_lt (leftS ns ws (tiesS ns ws i)))
    unfold tiesS tieStep
    dsimp only
    split
    · refine ⟨fun p hp => ?_, by rw [List.length_append]; simp only [List.length_cons, List.length_nil]; omega⟩
      rcases List.mem_append.mp hp with hp | hp
      · exact ih.1 p hp
      · simp only [List.mem_cons, List.not_mem_nil, or_false] at hp
        rcases hp with rfl | rfl
        · exact ⟨a, b⟩
        · exact ⟨b, a⟩
    · exact ⟨ih.1, by omega⟩
theorem left_take {ns : List Str} {ws : List Int} {ps : List (Str × Str)} {k : Nat} (hk : k < 4) : (leftS ns ws ps).take (k + 1) = (leftS ns ws ps).take k ++ [leftAt ns ws ps k] := by
  rw [List.take_add_one]
  have : (leftS ns ws ps)[k]? = some (leftAt ns ws ps k) := by
    unfold leftS
    rw [List.getElem?_map, List.getElem?_range hk]; rfl
  rw [this]; rfl
end Mine
namespace Mine
noncomputable def ordP (l : List Int) : List (Int × Int) := (List.range 4).map fun k => (-(l.getD k 0), 0 + (k : Int))
theorem ord_take {l : List Int} {k : Nat} (hk : k < 4) : (ordP l).take (k + 1) = (ordP l).take k ++ [(-(l.getD k 0), 0 + (k : Int))] := by
  rw [List.take_add_one]
  have : (ordP l)[k]? = some (-(l.getD k 0), 0 + (k : Int)) := by
    unfold ordP
    rw [List.getElem?_map, List.getElem?_range hk]; rfl
  rw [this]; rfl
end Mine
end
section
namespace Mine
open PySem PySem.Calls PySem.Builtin PyProof.Rows PySem.W
noncomputable def run {α : Type} (b : Nat → Nat → Bool) : KasT α → α
  | .ret a => a
  | .ask i j k => run b (k (b i j))
noncomputable def runOk {α : Type} (b : Nat → Nat → Bool) (n : Nat) : KasT α → Bool
  | .ret _ => true
  | .ask i j k => decide (i < n) && decide (j < n) && runOk b n (k (b i j))
noncomputable def allOk {α : Type} (n : Nat) : KasT α → Bool
  | .ret _ => true
  | .ask i j k => decide (i < n) && decide (j < n) && allOk n (k true) && allOk n (k false)
theorem allOk_run {α : Type} {n : Nat} (b : Nat → Nat → Bool) : ∀ t : KasT α, allOk n t = true → runOk b n t = true
  | .ret _, _ => rfl
  | .ask i j k, h => by
    simp only [allOk, Bool.and_eq_true] at h
    simp only [runOk, Bool.and_eq_true]
    refine ⟨h.1.1, ?_⟩
    cases b i j with
    | true => exact allOk_run b _ h.1.2
    | false => exact allOk_run b _ h.2
theorem kasWp_runOk {α : Type} {cmp : Nat → Nat → (Bool → Shared → Prop) → Shared → Prop} {b : Nat → Nat → Bool} {n : Nat} {s : Shared} (hc : ∀ i j C, i < n → j < n → C (b i j) s → cmp i j C s) : ∀ (t : KasT α) (Q : α → Shared → Prop), runOk b n t = true → Q (run b t) s → t.kasWp cmp Q s
  | .ret _, _, _, h => h
  | .ask i j k, Q, ok, h => by
    simp only [runOk, Bool.and_eq_true, decide_eq_true_eq] at ok
    exact hc i j _ ok.1.1 ok.1.2 (kasWp_runOk hc (k (b i j)) Q ok.2 h)
theorem four_ok : allOk 4 (kas_sort 4) = true := by decide +kernel
section
variable {prog : Program} {w : World} {A : Around} {E : Value → Shared → Prop} {s : Shared} {h₀ : Heap} {L : Addr} {m : Str → Option Value} {news : List (Addr × Obj)}
theorem lt_ipair {x y : Addr} {a1 b1 a2 b2 : Int} {t1 u1 t2 u2 : Tok} {Q : Bool → Shared → Prop} (hx : s.heap.get? x = some (ipObj a1 b1 t1 u1)) (hy : s.heap.get? y = some (ipObj a2 b2 t2 u2))
    (h : Q (decide (a1 < a2) || (decide (a1 = a2) && decide (b1 < b2))) s) : wpAny (model prog w) A (keyLt' (tuples' true) (.ref x) (.ref y)) Q (fun _ _ => False) s := by
  refine kat_lt hx rfl hy rfl ?_
  refine kat_cons (wpAny_eqBool_int ?_)
  by_cases h1 : a1 = a2
  · subst h1
    rw [show (a1 == a1) = true by simp]
    refine kat_yes (kat_cons (wpAny_eqBool_int ?_))
    by_cases h2 : b1 = b2
    · subst h2
      rw [show (b1 == b1) = true by simp]
      refine kat_yes (kat_nil ?_)
      simpa using h
    · rw [show (b1 == b2) = false by simpa using h2]
      refine kat_no ?_
      show wpAny _ _ (oneLt' false _ _) _ _ _
      refine kat_one _ _ (lt_int ?_)
      show Q (decide (b1 < b2)) s
      simpa using h
  · rw [show (a1 == a2) = false by simpa using h1]
    refine kat_no ?_
    show wpAny _ _ (oneLt' true _ _) _ _ _
    refine oneLt_int ?_
    simpa [h1] using h
noncomputable def lexI (xs : List (Int × Int)) (i j : Nat) : Bool := let p := xs.getD i (0, 0); let q := xs.getD j (0, 0); decide (p.1 < q.1) || (decide (p.1 = q.1) && decide (p.2 < q.2))
theorem ipairs_at {vs : List Value} {xs : List (Int × Int)} (h : IPairsIn news vs xs) {i : Nat} (hi : i < xs.length) : ∃ a t u, vs.getD i Value.none = .ref a ∧ (a, ipObj (xs.getD i (0, 0)).1 (xs.getD i (0, 0)).2 t u) ∈ news := by
  induction h generalizing i with
  | nil => simp at hi
  | cons hm _ ih =>
    cases i with
    | zero => exact ⟨_, _, _, rfl, hm⟩
    | succ i => simpa using ih (i := i) (by simpa using hi)
theorem ipairs_tups {h : Heap} {vs : List Value} {xs : List (Int × Int)} (hn : ∀ p ∈ news, h.get? p.1 = some p.2) (hp : IPairsIn news vs xs) : ∃ fs, KatTups h vs fs ∧ fs.length = xs.length ∧ ∀ v ∈ fs, ∃ (i : Int) (t : Tok), v = .int i t := by
  induction hp with
  | nil => exact ⟨[], .nil, rfl, fun _ h => nomatch h⟩
  | cons hm _ ih =>
    obtain ⟨fs, f1, f2, f3⟩ := ih
    exact ⟨_, .cons (hn _ hm) rfl rfl rfl f1, by simp [f2], List.forall_mem_cons.mpr ⟨⟨_, _, rfl⟩, f3⟩⟩
theorem sorted_ipairs {Q : Value → Shared → Prop} {l : Addr} {vs : List Value} {xs : List (Int × Int)} (F : Fr h₀ L s.heap m) (N : News h₀ L s.heap news) (hl : s.heap.IsList l vs.toArray) (hp : IPairsIn news vs xs) (h2 : 2 ≤ xs.length) (h64 : xs.length < 64)
    (ok : runOk (lexI xs) xs.length (kas_sort xs.length) = true)
    (h : ∀ D c h', Fr h₀ L h' m → News h₀ L h' ((D, listOf (((run (lexI xs) (kas_sort xs.length)).toList.map fun i => vs.getD i Value.none)).toArray c) :: news) → Q (.ref D) { s with heap := h' }) :
    wpAny (model prog w) A (call (.builtin "sorted") [.ref l]) Q E s := by
  have hlen := hp.length
  refine kat_sorted F N hl (by omega) (by omega) fun D e1 h' F' N' hD => ?_
  have hn : ∀ p ∈ news, h'.get? p.1 = some p.2 := fun p hp => (N' p (List.mem_cons_of_mem _ hp)).1
  obtain ⟨fs, f1, f2, f3⟩ := ipairs_tups hn hp
  refine kat_kind (T := .type "int") f1 (by omega) (fun v hv => ?_) (by decide) ?_
  · obtain ⟨i, t, rfl⟩ := f3 v hv
    kas_ty
  show (kas_sort vs.length).kasWp (kas_ask prog w A.in1.in1 (tuples' true) vs) _ _
  rw [hlen]
  refine kasWp_runOk (b := lexI xs) (n := xs.length) (fun i j C hi hj hC => ?_) _ _ ok ?_
  · obtain ⟨a, t, u, e1, m1⟩ := ipairs_at hp hi
    obtain ⟨a', t', u', e2, m2⟩ := ipairs_at hp hj
    unfold kas_ask
    rw [e1, e2]
    exact lt_ipair (hn _ m1) (hn _ m2) hC
  · refine KasFin.intro F' N' (.head fun p hp => Nat.ne_of_lt (hD p hp)) fun h2 c F2 N2 => ?_
    exact h D c h2 F2 N2
end
end Mine
end
section
namespace Mine
open PySem PySem.Calls PyProof.Rows PySem.W
theorem run_congr {α : Type} {n : Nat} {b b' : Nat → Nat → Bool} (h : ∀ i j, i < n → j < n → b i j = b' i j) : ∀ t : KasT α, allOk n t = true → run b t = run b' t
  | .ret _, _ => rfl
  | .ask i j k, ok => by
    simp only [allOk, Bool.and_eq_true, decide_eq_true_eq] at ok
    unfold run
    rw [h i j ok.1.1.1 ok.1.1.2]
    cases b' i j with
    | true => exact run_congr h _ ok.1.2
    | false => exact run_congr h _ ok.2
noncomputable def pickB (b : Nat → Nat → Bool) (ks : List Nat) (s : Nat) : Nat := ks.foldl (fun m k => if b k m then k else m) s
theorem pickB_congr {b b' : Nat → Nat → Bool} (h : ∀ i j, i < 4 → j < 4 → b i j = b' i j) : ∀ (ks : List Nat) (s : Nat), s < 4 → (∀ k ∈ ks, k < 4) → pickB b ks s = pickB b' ks s
  | [], _, _, _ => rfl
  | k :: ks, s, hs, hk => by
    have h1 := hk k (.head _)
    show pickB b ks (if b k s then k else s) = pickB b' ks (if b' k s then k else s)
    rw [h k s h1 hs]
    refine pickB_congr h ks _ ?_ fun x hx => hk x (.tail _ hx)
    split <;> assumption
noncomputable def oneB (b : Nat → Nat → Bool) : Nat := pickB b (List.range 4) 0
noncomputable def otherB (b : Nat → Nat → Bool) : Nat := pickB b ((List.range 4).filter fun k => k != oneB b) (if oneB b = 0 then 1 else 0)
noncomputable def tbl (x01 x02 x03 x12 x13 x23 : Bool) (i j : Nat) : Bool :=
  if i = 0 then (if j = 1 then x01 else if j = 2 then x02 else if j = 3 then x03 else false)
  else if i = 1 then (if j = 0 then !x01 else if j = 2 then x12 else if j = 3 then x13 else false)
  else if i = 2 then (if j = 0 then !x02 else if j = 1 then !x12 else if j = 3 then x23 else false)
  else if i = 3 then (if j = 0 then !x03 else if j = 1 then !x13 else if j = 2 then !x23 else false)
  else false
noncomputable def transB (b : Nat → Nat → Bool) : Bool := (List.range 4).all fun i => (List.range 4).all fun j => (List.range 4).all fun k => !(b i j && b j k) || b i k
theorem tbl_all : ∀ x01 x02 x03 x12 x13 x23 : Bool, transB (tbl x01 x02 x03 x12 x13 x23) = true →
    (run (tbl x01 x02 x03 x12 x13 x23) (kas_sort 4)).toList.take 2 = [oneB (tbl x01 x02 x03 x12 x13 x23), otherB (tbl x01 x02 x03 x12 x13 x23)] := by decide +kernel
theorem sort4 {b : Nat → Nat → Bool} (hd : ∀ i, i < 4 → b i i = false) (ha : ∀ i j, i < 4 → j < 4 → i ≠ j → b j i = !b i j) (ht : ∀ i j k, i < 4 → j < 4 → k < 4 → b i j = true → b j k = true → b i k = true) :
    (run b (kas_sort 4)).toList.take 2 = [oneB b, otherB b] := by
  have e : ∀ i j, i < 4 → j < 4 → b i j = tbl (b 0 1) (b 0 2) (b 0 3) (b 1 2) (b 1 3) (b 2 3) i j := by
    intro i j hi hj
    have hi' : i = 0 ∨ i = 1 ∨ i = 2 ∨ i = 3 := by omega
    have hj' : j = 0 ∨ j = 1 ∨ j = 2 ∨ j = 3 := by omega
    rcases hi' with rfl | rfl | rfl | rfl <;> rcases hj' with rfl | rfl | rfl | rfl <;> simp only [tbl] <;> first | rfl | exact hd _ (by omega) | exact ha _ _ (by omega) (by omega) (by omega)
  have htr : transB (tbl (b 0 1) (b 0 2) (b 0 3) (b 1 2) (b 1 3) (b 2 3)) = true := by
    unfold transB
    rw [List.all_eq_true]; intro i hi
    rw [List.all_eq_true]; intro j hj
    rw [List.all_eq_true]; intro k hk
    have hi := List.mem_range.mp hi
    have hj := List.mem_range.mp hj
    have hk := List.mem_range.mp hk
    rw [← e i j hi hj, ← e j k hj hk, ← e i k hi hk]
    cases h1 : b i j with
    | false => rfl
    | true =>
      cases h2 : b j k with
      | false => rfl
      | true => rw [ht i j k hi hj hk h1 h2]; rfl
  have h := tbl_all _ _ _ _ _ _ htr
  have e1 : oneB b = oneB (tbl (b 0 1) (b 0 2) (b 0 3) (b 1 2) (b 1 3) (b 2 3)) := pickB_congr e _ _ (by omega) fun k hk => List.mem_range.mp hk
  have e2 : otherB b = otherB (tbl (b 0 1) (b 0 2) (b 0 3) (b 1 2) (b 1 3) (b 2 3)) := by
    unfold otherB
    rw [e1]
    exact pickB_congr e _ _ (by split <;> omega) fun k hk => List.mem_range.mp (List.mem_filter.mp hk).1
  rw [run_congr e (kas_sort 4) four_ok, e1, e2]
  exact h
theorem sort_left (l : List Int) : (run (lexI (ordP l)) (kas_sort 4)).toList.take 2 = [oneT l, otherT l] := by
  have e : ∀ i j, i < 4 → j < 4 → lexI (ordP l) i j = lessT l i j := by
    intro i j hi hj
    have g : ∀ k, k < 4 → (ordP l).getD k (0, 0) = (-(l.getD k 0), 0 + (k : Int)) := by
      intro k hk
      unfold ordP
      rw [List.getD_eq_getElem?_getD, List.getElem?_map, List.getElem?_range hk]; rfl
    unfold lexI lessT
    rw [g i hi, g j hj]
    simp only
    have c1 : (-(l.getD i 0) < -(l.getD j 0)) = (l.getD j 0 < l.getD i 0) := propext ⟨fun h => by omega, fun h => by omega⟩
    have c2 : (-(l.getD i 0) = -(l.getD j 0)) = (l.getD i 0 = l.getD j 0) := propext ⟨fun h => by omega, fun h => by omega⟩
    have c3 : ((0 : Int) + (i : Int) < 0 + (j : Int)) = (i < j) := propext ⟨fun h => by omega, fun h => by omega⟩
    simp only [c1, c2, c3]
  rw [run_congr e (kas_sort 4) four_ok]
  refine sort4 (fun i hi => ?_) (fun i j hi hj hne => ?_) (fun i j k hi hj hk h1 h2 => ?_)
  · simp [lessT]
  · unfold lessT
    generalize l.getD i 0 = x
    generalize l.getD j 0 = y
    rcases Int.lt_trichotomy x y with h | h | h
    · have a : ¬ (y < x) := by omega
      have c : ¬ (x = y) := by omega
      simp only [a, h, c, decide_true, decide_false, Bool.false_and, Bool.or_false, Bool.true_or, Bool.not_false]
    · have a : ¬ (y < x) := by omega
      have c : ¬ (x < y) := by omega
      rcases Nat.lt_or_ge i j with d | d
      · have d' : ¬ (j < i) := by omega
        simp [a, c, h, d, d']
      · have d' : j < i := by omega
        have d2 : ¬ (i < j) := by omega
        simp [a, c, h, d', d2]
    · have c : ¬ (x < y) := by omega
      have c2 : ¬ (y = x) := by omega
      simp [h, c, c2]
  · unfold lessT at h1 h2 ⊢
    simp only [Bool.or_eq_true, Bool.and_eq_true, decide_eq_true_eq] at h1 h2 ⊢
    omega
end Mine
namespace Mine
open PySem PySem.W
theorem ordP_at {l : List Int} {k : Nat} (hk : k < 4) : (ordP l).getD k (0, 0) = (-(l.getD k 0), 0 + (k : Int)) := by
  unfold ordP
  rw [List.getD_eq_getElem?_getD, List.getElem?_map, List.getElem?_range hk]; rfl
theorem take_two {α : Type} {rr : List α} {a b : α} (h : rr.take 2 = [a, b]) : ∃ r, rr = a :: b :: r := by
  match rr, h with
  | x :: y :: r, h => simp at h; exact ⟨r, by rw [h.1, h.2]⟩
end Mine
namespace Mine
open PySem
theorem left_len {ns : List Str} {ws : List Int} {ps : List (Str × Str)} : (leftS ns ws ps).length = 4 := by simp [leftS]
end Mine
end
section
open PySem PySem.W PyProof.Rows PySem.Calls
namespace Mine
local macro_rules | `(tactic| kpf_c) => `(tactic| first | with_reducible assumption | with_reducible exact List.mem_cons_self | (with_reducible refine List.mem_cons_of_mem _ ?_; kpf_c) | (refine List.mem_append_left _ ?_; kpf_c) | (refine List.mem_append_right _ ?_; kpf_c))
local macro_rules | `(tactic| kpf_close) => `(tactic| first | exact List.forall_mem_nil _ | (with_reducible refine List.forall_mem_cons.mpr ⟨?_, ?_⟩; (focus kpf_c); kpf_close) | (refine List.forall_mem_append.mpr ⟨?_, ?_⟩; (focus kpf_close); kpf_close) | (intro p hp; kpf_c))
local macro_rules | `(tactic| k_all) => `(tactic| with_reducible assumption)
local macro_rules | `(tactic| walk_at "call ref") => `(tactic| (k_here; refine Hold.on ?_))
local macro_rules | `(tactic| walk_at "exec For Name Call cons nil") => `(tactic| (k_here; refine Hold.on ?_))
local macro_rules | `(tactic| walk_at "pyIter ref") => `(tactic| (refine Hold.on ?_))
local macro_rules | `(tactic| walk_at "eval ListComp") => `(tactic| (k_here; refine Hold.on ?_))
local macro_rules | `(tactic| walk_at "subscriptTail Name Name ref int") => `(tactic| (k_here; refine Hold.on ?_))
local macro_rules | `(tactic| walk_at "call builtin:str.swapcase") => `(tactic| (k_here; refine Hold.on ?_))
local macro_rules | `(tactic| walk_at "call builtin:len") => `(tactic| (k_here; refine Hold.on ?_))
local macro_rules | `(tactic| walk_at "call builtin:sorted") => `(tactic| (k_here; refine Hold.on ?_))
local macro_rules | `(tactic| walk_at "CompSrc") => `(tactic| (refine Hold.on ?_))
theorem ints_at {vs : List Value} {ns : List Int} (h : IntsAre vs ns) : ∀ {k : Nat}, k < ns.length → ∃ t, vs[k]? = some (.int (ns.getD k 0) t) := by
  induction h with
  | nil => intro k h; simp at h
  | cons n t _ ih =>
    intro k h
    cases k with
    | zero => exact ⟨t, rfl⟩
    | succ k =>
      obtain ⟨u, hu⟩ := ih (k := k) (by simpa using h)
      exact ⟨u, by simpa using hu⟩
theorem withLst {h₀ h : Heap} {L a : Addr} {vs : List Value} {r : List (Addr × Obj)} {P : Prop} (_N : News h₀ L h ((a, LCg.lst vs) :: r)) (k : ∀ x9, x9 = a → P) : P := k a rfl
theorem withC4 {h₀ h : Heap} {L a b c d e : Addr} {x x4 x3 x2 x1 : Obj} {r : List (Addr × Obj)} {P : Prop} (_N : News h₀ L h ((a, x) :: (b, x4) :: (c, x3) :: (d, x2) :: (e, x1) :: r)) (k : ∀ y4 y3 y2 y1, y4 = x4 → y3 = x3 → y2 = x2 → y1 = x1 → P) : P := k x4 x3 x2 x1 rfl rfl rfl rfl
theorem withLt5 {a b c d : Prop} {x : Addr} {own : List (Addr × Obj)} {P : Prop} (_ : a ∧ b ∧ c ∧ d ∧ AllLt x own) (k : ∀ x9, x9 = x → P) : P := k x rfl
theorem ties_walk {w : World} {loose : List Str} {mean : ExcName → Option Value} {mg mb : Str → Option Value}
  {dp un : Nat} {gd : Option (List Code)} {cn : Str} {csn : List (Str × NameKind)} {csg csc : Bool} {csm : List (Str × Const)} {a : Addr} {ccd : Value} {cl : List (Str × Addr)} {outer : List Env} {A₀ : Around} {base h₀ : Heap} {L : Addr} {m : Str → Option Value} {news : List (Addr × Obj)} {s : Shared} {Q E : Value → Shared → Prop}
  {NA WA : Addr} {kn kw : Nat} {nvs wvs : List Value} {ns : List Str} {ws : List Int}
  (B : Below A₀ base outer h₀) (F : Fr h₀ L s.heap m) (X : (hd03.heap_39 w.params).In h₀)
  (N : News h₀ L s.heap news) (T : Top hd03.view_39 loose mean mg mb h₀)
  (hd : dp + 12 < recursionLimit) (hu : un + 96 < cLine) (hNA : (NA, listOf nvs.toArray kn) ∈ news) (hWA : (WA, listOf wvs.toArray kw) ∈ news) (hns : StrsAre nvs ns) (hws : IntsAre wvs ws) (hnl : ns.length = 4) (hwl : ws.length = 4) (hnok : ∀ n ∈ ns, okS n)
  (ret : ∀ (tA tdx tl : Addr) (tt tn : Nat) (tvs : List Value) (own : List (Addr × Obj)) (h' : Heap) (tk' : Nat), Fr h₀ L h' m → News h₀ L h' ((tA, instObj 203 tdx) :: (tdx, dictOf [⟨PyData.keyHash w.params "_headers", .str "_headers" tt, .ref tl⟩] 1) :: (tl, listOf tvs.toArray tn) :: (own ++ news)) → (∀ p ∈ own, p.2.cls = .type "tuple") → PairsIn own tvs (tiesS ns ws 6) →
     Q (.ref tA) { s with heap := h', toks := tk' }) :
  wpAny (model PySem.Challenge.rw_sw0068_03.row.prog w) (ktrTop dp un gd cn ⟨.function, csn, csg, csc, csm⟩ L a ccd cl outer) (call (.ref 219) [.ref NA, .ref WA]) Q E s := by
  revert X; k_fill; intro X
  refine wpAny_call ?_
  k_dflt k_enter
  (k_steps; repeat' (refine Hold.off ?_; first | ((with_reducible show wpAny _ _ (call (Value.builtin "str.swapcase") [Value.str _ _]) _ _ _); refine call_swapcase (by assumption) ?_; (try dsimp only); k_steps) | ((with_reducible show wpAny _ _ (subscriptTail _ _ (Value.ref _) (Value.int _ _)) _ _ _); k_dflt (refine' PyProof.Rows.item_listL (News.isList (by k_asm) (by k_mem)) ?ilb ?ilc ?ild ?_ ?ile ?ilf; (case ilb => omega); (case ilc => omega); (case ild => with_reducible assumption); (case ile => with_unfolding_all rfl); (case ilf => intro _; with_unfolding_all rfl)); k_steps)))
  refine Hold.off ?_
  (with_reducible rename Fr _ _ _ _ => F1)
  refine withL F1 fun L9 hL9 => ?_
  subst hL9
  (rename _ ∧ _ ∧ _ ∧ _ ∧ AllLt _ news => ltl)
  refine withLt5 ltl fun tl htl => ?_
  subst htl
  (with_reducible rename News _ _ _ _ => N2)
  refine withC4 N2 fun oc4 oc3 oc2 oc1 e4 e3 e2 e1 => ?_
  subst e4 e3 e2 e1
  (rename oc4.data = _ => hd4)
  (rename oc3.data = _ => hd3)
  (rename oc2.data = _ => hd2)
  (rename oc1.data = _ => hd1)
  have hc1 : oc1.data = Data.cell (some (Value.ref NA)) := hd1
  have hc2 : oc2.data = Data.cell (some (Value.ref WA)) := hd2
  k_dflt (refine' init_walk ?gak1 ?gak2 ?gak3 N2 ?gak5 ?gad ?gau ?_; (case gak1 => k_asm); (case gak2 => k_asm); (case gak3 => k_asm); (case gak5 => k_asm); (case gad => ktr_room); (case gau => ktr_units))
  clear N2
  intro tA tdx tt h2 tk2 F2 N3
  have a1 := news_neD N3 (a := tA) (b := L9 + 1 + 1 + 1 + 1) (x := instObj 203 tdx) (y := oc4) (by kpf_c) (by kpf_c) (fun e => Data.noConfusion (e.trans hd4))
  have a2 := news_neD N3 (a := tA) (b := L9 + 1 + 1 + 1) (x := instObj 203 tdx) (y := oc3) (by kpf_c) (by kpf_c) (fun e => Data.noConfusion (e.trans hd3))
  have a3 := news_neD N3 (a := tA) (b := L9 + 1 + 1) (x := instObj 203 tdx) (y := oc2) (by kpf_c) (by kpf_c) (fun e => Data.noConfusion (e.trans hd2))
  have a4 := news_neD N3 (a := tA) (b := L9 + 1) (x := instObj 203 tdx) (y := oc1) (by kpf_c) (by kpf_c) (fun e => Data.noConfusion (e.trans hd1))
  have b1 := news_neD N3 (a := tdx) (b := L9 + 1 + 1 + 1 + 1) (x := dictOf [⟨PyData.keyHash w.params "_headers", .str "_headers" tt, .ref tl⟩] 1) (y := oc4) (by kpf_c) (by kpf_c) (fun e => Data.noConfusion (e.trans hd4))
  have b2 := news_neD N3 (a := tdx) (b := L9 + 1 + 1 + 1) (x := dictOf [⟨PyData.keyHash w.params "_headers", .str "_headers" tt, .ref tl⟩] 1) (y := oc3) (by kpf_c) (by kpf_c) (fun e => Data.noConfusion (e.trans hd3))
  have b3 := news_neD N3 (a := tdx) (b := L9 + 1 + 1) (x := dictOf [⟨PyData.keyHash w.params "_headers", .str "_headers" tt, .ref tl⟩] 1) (y := oc2) (by kpf_c) (by kpf_c) (fun e => Data.noConfusion (e.trans hd2))
  have b4 := news_neD N3 (a := tdx) (b := L9 + 1) (x := dictOf [⟨PyData.keyHash w.params "_headers", .str "_headers" tt, .ref tl⟩] 1) (y := oc1) (by kpf_c) (by kpf_c) (fun e => Data.noConfusion (e.trans hd1))
  (with_reducible rename ∀ p ∈ news, p.1 < L9 => hn0)
  have n1 : ∀ p ∈ news, p.1 ≠ L9 + 1 := fun p hp => Nat.ne_of_lt (Nat.lt_of_lt_of_le (hn0 p hp) (by omega))
  have n2 : ∀ p ∈ news, p.1 ≠ L9 + 1 + 1 := fun p hp => Nat.ne_of_lt (Nat.lt_of_lt_of_le (hn0 p hp) (by omega))
  have n3 : ∀ p ∈ news, p.1 ≠ L9 + 1 + 1 + 1 := fun p hp => Nat.ne_of_lt (Nat.lt_of_lt_of_le (hn0 p hp) (by omega))
  have n4 : ∀ p ∈ news, p.1 ≠ L9 + 1 + 1 + 1 + 1 := fun p hp => Nat.ne_of_lt (Nat.lt_of_lt_of_le (hn0 p hp) (by omega))
  (try dsimp only)
  (k_steps; repeat' (refine Hold.off ?_; first | ((with_reducible show wpAny _ _ (call (Value.builtin "str.swapcase") [Value.str _ _]) _ _ _); refine call_swapcase (by assumption) ?_; (try dsimp only); k_steps) | ((with_reducible show wpAny _ _ (subscriptTail _ _ (Value.ref _) (Value.int _ _)) _ _ _); k_dflt (refine' PyProof.Rows.item_listL (News.isList (by k_asm) (by k_mem)) ?ilb ?ilc ?ild ?_ ?ile ?ilf; (case ilb => omega); (case ilc => omega); (case ild => with_reducible assumption); (case ile => with_unfolding_all rfl); (case ilf => intro _; with_unfolding_all rfl)); k_steps)))
  refine Hold.off ?_
  (rename Obj => ocT)
  (rename ocT.data = _ => hdT)
  (with_reducible rename Fr _ _ _ _ => F4)
  (with_unfolding_all refine' For_turns F4 ?_; k_whole)
  (k_steps; repeat' (refine Hold.off ?_; first | ((with_reducible show wpAny _ _ (call (Value.builtin "str.swapcase") [Value.str _ _]) _ _ _); refine call_swapcase (by assumption) ?_; (try dsimp only); k_steps) | ((with_reducible show wpAny _ _ (subscriptTail _ _ (Value.ref _) (Value.int _ _)) _ _ _); k_dflt (refine' PyProof.Rows.item_listL (News.isList (by k_asm) (by k_mem)) ?ilb ?ilc ?ild ?_ ?ile ?ilf; (case ilb => omega); (case ilc => omega); (case ild => with_reducible assumption); (case ile => with_unfolding_all rfl); (case ilf => intro _; with_unfolding_all rfl)); k_steps)))
  refine Hold.off ?_
  (with_reducible rename IsRange _ _ _ _ _ _ _ _ => hR)
  (with_unfolding_all refine iter_rangeTurns (n := 6) (by rfl) hR (by decide) (by decide) (by k_asm) (cb_drop (news := (tA, instObj 203 tdx) :: (tdx, dictOf [⟨PyData.keyHash w.params "_headers", .str "_headers" tt, .ref tl⟩] 1) :: (tl, listOf ([] : List Value).toArray 0) :: (L9 + 1 + 1 + 1 + 1, oc4) :: (L9 + 1 + 1 + 1, ocT) :: (L9 + 1 + 1, oc2) :: (L9 + 1, oc1) :: ([] ++ news)) (by k_asm) (by dsimp only [List.nil_append]; kcf_all)) ?_)
  intro I hI
  refine itemsRest_blind (fun i m3 n3 => ∃ (oc4' : Obj) (v4 : Option Value) (tvs : List Value) (tn : Nat) (own : List (Addr × Obj)), oc4'.data = .cell v4 ∧
    n3 = (tA, instObj 203 tdx) :: (tdx, dictOf [⟨PyData.keyHash w.params "_headers", .str "_headers" tt, .ref tl⟩] 1) :: (tl, listOf tvs.toArray tn) :: (L9 + 1 + 1 + 1 + 1, oc4') :: (L9 + 1 + 1 + 1, ocT) :: (L9 + 1 + 1, oc2) :: (L9 + 1, oc1) :: (own ++ news) ∧ (∀ p ∈ own, p.2.cls = .type "tuple" ∧ ∀ v, p.2.data ≠ .cell v) ∧ PairsIn own tvs (tiesS ns ws i)) ?turnA ?doneA ?zA
  case zA => exact ⟨oc4, _, [], 0, [], hd4, rfl, by simp, .nil⟩
  case turnA =>
    rintro Q9 i a0 v3 h3 tk3 m3 n3 hx3 hv3 ⟨oc4', v4, tvs, tn, own, hd4', rfl, hown, htp⟩ F3
    obtain ⟨hi, rfl⟩ := rangeItems_get hx3
    obtain ⟨t9, rfl⟩ := hv3
    refine AllObj.cons fun oI hcI => AllObj.nil fun N3 => ?_
    dsimp only [List.cons_append, List.nil_append] at N3
    have N4 := news_more (x := (NA, listOf nvs.toArray kn)) N3 (by kpf_c)
    have N5 := news_more (x := (WA, listOf wvs.toArray kw)) N4 (by kpf_c)
    clear N3 N4
    dsimp only
    (k_steps; repeat' (refine Hold.off ?_; first | ((with_reducible show wpAny _ _ (call (Value.builtin "str.swapcase") [Value.str _ _]) _ _ _); refine call_swapcase (by assumption) ?_; (try dsimp only); k_steps) | ((with_reducible show wpAny _ _ (subscriptTail _ _ (Value.ref _) (Value.int _ _)) _ _ _); k_dflt (refine' PyProof.Rows.item_listL (News.isList (by k_asm) (by k_mem)) ?ilb ?ilc ?ild ?_ ?ile ?ilf; (case ilb => omega); (case ilc => omega); (case ild => with_reducible assumption); (case ile => with_unfolding_all rfl); (case ilf => intro _; with_unfolding_all rfl)); k_steps)))
    refine Hold.off ?_
    k_dflt (refine LCg.ListComp_U (F₀ := by k_asm) (by with_unfolding_all rfl) (by decide) (by rfl) (by decide) (by rfl) ?_)
    (k_steps; repeat' (refine Hold.off ?_; first | ((with_reducible show wpAny _ _ (call (Value.builtin "str.swapcase") [Value.str _ _]) _ _ _); refine call_swapcase (by assumption) ?_; (try dsimp only); k_steps) | ((with_reducible show wpAny _ _ (subscriptTail _ _ (Value.ref _) (Value.int _ _)) _ _ _); k_dflt (refine' PyProof.Rows.item_listL (News.isList (by k_asm) (by k_mem)) ?ilb ?ilc ?ild ?_ ?ile ?ilf; (case ilb => omega); (case ilc => omega); (case ild => with_reducible assumption); (case ile => with_unfolding_all rfl); (case ilf => intro _; with_unfolding_all rfl)); k_steps)))
    refine Hold.off ?_
    refine LCg.CompSrc.range (n := 4) (by rfl) (by k_asm) (by k_asm) (by assumption) (by rfl) (by rfl) (by exact Nat.le_of_ble_eq_true rfl) ?_
    intro g'
    refine restU_of (J := fun k ys own9 => own9 = [] ∧ IntsAre ys ((leftS ns ws (tiesS ns ws i)).take k)) ?fin1 ?turn1 _ _ _ [] (Nat.zero_add _) ⟨rfl, .nil⟩
    case turn1 =>
      rintro k v ys2 own9 I2 oI2 C oC D2 m₂ h tk E' hk hv ⟨rfl, hJ⟩ hC' hx' F' N' off' ne'
      obtain ⟨tk1, rfl⟩ := hv
      dsimp only [List.nil_append] at N' off'
      obtain ⟨tw, hw1⟩ : ∃ t, wvs[((0 : Int) + (k : Int)).toNat]? = some (.int (ws.getD k 0) t) := by
        rw [show ((0 : Int) + (k : Int)).toNat = k by omega]
        exact ints_at hws (by omega)
      obtain ⟨tn9, hn1⟩ : ∃ t, nvs[((0 : Int) + (k : Int)).toNat]? = some (.str (ns.getD k Str.empty) t) := by
        rw [show ((0 : Int) + (k : Int)).toNat = k by omega]
        exact hns.at (by rw [List.getD_eq_getElem?_getD, List.getElem?_eq_getElem (by omega)]; rfl)
      have hokk : okS (ns.getD k Str.empty) := names_at hnl hnok hk
      have hto := ties_ok (ws := ws) hnl hnok i
      (k_steps; repeat' (refine Hold.off ?_; first | ((with_reducible show wpAny _ _ (call (Value.builtin "str.swapcase") [Value.str _ _]) _ _ _); refine call_swapcase (by assumption) ?_; (try dsimp only); k_steps) | ((with_reducible show wpAny _ _ (subscriptTail _ _ (Value.ref _) (Value.int _ _)) _ _ _); k_dflt (refine' PyProof.Rows.item_listL (News.isList (by k_asm) (by k_mem)) ?ilb ?ilc ?ild ?_ ?ile ?ilf; (case ilb => omega); (case ilc => omega); (case ild => with_reducible assumption); (case ile => with_unfolding_all rfl); (case ilf => intro _; with_unfolding_all rfl)); k_steps)))
      refine Hold.off ?_
      (with_reducible rename News _ _ _ _ => N6)
      have N7 := cb_drop (news := (tA, instObj 203 tdx) :: (tdx, dictOf [⟨PyData.keyHash w.params "_headers", .str "_headers" tt, .ref tl⟩] 1) :: (tl, listOf tvs.toArray tn) :: (I2, oI2) :: (C, oC) :: (D2, LCg.lst ys2) :: (WA, listOf wvs.toArray kw) :: (NA, listOf nvs.toArray kn) :: (I, oI) :: (L9 + 1 + 1 + 1 + 1, oc4') :: (L9 + 1 + 1 + 1, ocT) :: (L9 + 1 + 1, oc2) :: (L9 + 1, oc1) :: (own ++ news)) N6 (by kcf_all)
      clear N6
      k_dflt (refine' get_all_walk (ps := tiesS ns ws i) ?gak1 ?gak2 ?gak3 N7 ?gak5 ?gad ?gau ?gax ?gal ?gap ?gao ?_; (case gak1 => k_asm); (case gak2 => k_asm); (case gak3 => k_asm); (case gak5 => k_asm); (case gad => ktr_room); (case gau => ktr_units); (case gax => exact okS_sw hokk); (case gal => rw [htp.length]; omega); (case gap => exact htp.mono (by kcf_all)); (case gao => exact fun p hp => (hto.1 p hp).1))
      clear N7
      intro DG yg kg h7 tk7 F7 N7 hyg hDG
      (try dsimp only)
      (k_steps; repeat' (refine Hold.off ?_; first | ((with_reducible show wpAny _ _ (call (Value.builtin "str.swapcase") [Value.str _ _]) _ _ _); refine call_swapcase (by assumption) ?_; (try dsimp only); k_steps) | ((with_reducible show wpAny _ _ (subscriptTail _ _ (Value.ref _) (Value.int _ _)) _ _ _); k_dflt (refine' PyProof.Rows.item_listL (News.isList (by k_asm) (by k_mem)) ?ilb ?ilc ?ild ?_ ?ile ?ilf; (case ilb => omega); (case ilc => omega); (case ild => with_reducible assumption); (case ile => with_unfolding_all rfl); (case ilf => intro _; with_unfolding_all rfl)); k_steps)))
      refine Hold.off ?_
      have hgl : yg.length = ((tiesS ns ws i).filter fun p => lowS p.1 == lowS (swS (ns.getD k Str.empty))).length := by rw [hyg.length, List.length_map]
      have hgl2 : yg.length ≤ 12 := by rw [hgl]; exact Nat.le_trans (List.length_filter_le _ _) (by omega)
      refine PyProof.Rows.len_list (items := yg.toArray) (News.isList (by k_asm) (by k_mem)) (by simp only [List.size_toArray]; omega) ?_
      rw [show ((yg.toArray.size : Nat) : Int) = ((((tiesS ns ws i).filter fun p => lowS p.1 == lowS (swS (ns.getD k Str.empty))).length : Nat) : Int) by rw [List.size_toArray, hgl]]
      (try dsimp only)
      (k_steps; repeat' (refine Hold.off ?_; first | ((with_reducible show wpAny _ _ (call (Value.builtin "str.swapcase") [Value.str _ _]) _ _ _); refine call_swapcase (by assumption) ?_; (try dsimp only); k_steps) | ((with_reducible show wpAny _ _ (subscriptTail _ _ (Value.ref _) (Value.int _ _)) _ _ _); k_dflt (refine' PyProof.Rows.item_listL (News.isList (by k_asm) (by k_mem)) ?ilb ?ilc ?ild ?_ ?ile ?ilf; (case ilb => omega); (case ilc => omega); (case ild => with_reducible assumption); (case ile => with_unfolding_all rfl); (case ilf => intro _; with_unfolding_all rfl)); k_steps)))
      refine LCg.CompEnd.intro (by k_asm) (by assumption) _ (by kcf_all) off' trivial ⟨[], rfl, rfl, ?_⟩
      rw [left_take hk]
      exact ksk_snoc hJ
    case fin1 =>
      rintro ys2 own9 ⟨rfl, hJ⟩
      dsimp only [List.nil_append]
      have hJ4 : IntsAre ys2 (leftS ns ws (tiesS ns ws i)) := hJ
      have hown1 : ∀ p ∈ own ++ news, p.1 ≠ L9 + 1 + 1 + 1 + 1 := fun p hp => by
        rcases List.mem_append.mp hp with hp | hp
        · exact news_neD N5 (a := p.1) (b := L9 + 1 + 1 + 1 + 1) (x := p.2) (y := oc4') (by kpf_c) (by kpf_c) (fun e => (hown p hp).2 _ (e.trans hd4'))
        · exact n4 p hp
      have hWA4 : @Ne Nat WA (L9 + 1 + 1 + 1 + 1) := n4 _ hWA
      have hNA4 : @Ne Nat NA (L9 + 1 + 1 + 1 + 1) := n4 _ hNA
      have hI4 : @LT.lt Nat _ (L9 + 1 + 1 + 1 + 1) I := hI (L9 + 1 + 1 + 1 + 1, oc4) (by kpf_c)
      have htl4 : @LT.lt Nat _ (L9 + 1 + 1 + 1 + 1) tl := ltl.1
      clear hJ
      (k_steps; repeat' (refine Hold.off ?_; first | ((with_reducible show wpAny _ _ (call (Value.builtin "str.swapcase") [Value.str _ _]) _ _ _); refine call_swapcase (by assumption) ?_; (try dsimp only); k_steps) | ((with_reducible show wpAny _ _ (subscriptTail _ _ (Value.ref _) (Value.int _ _)) _ _ _); k_dflt (refine' PyProof.Rows.item_listL (News.isList (by k_asm) (by k_mem)) ?ilb ?ilc ?ild ?_ ?ile ?ilf; (case ilb => omega); (case ilc => omega); (case ild => with_reducible assumption); (case ile => with_unfolding_all rfl); (case ilf => intro _; with_unfolding_all rfl)); k_steps)))
      refine Hold.off ?_
      (rename Obj => oc5)
      (rename oc5.data = _ => hd5)
      (with_reducible rename News _ _ _ _ => N6)
      refine withLst N6 fun DL hDL => ?_
      subst hDL
      clear N5
      k_dflt (refine LCg.ListComp_U (F₀ := by k_asm) (by with_unfolding_all rfl) (by decide) (by rfl) (by decide) (by rfl) ?_)
      (k_steps; repeat' (refine Hold.off ?_; first | ((with_reducible show wpAny _ _ (call (Value.builtin "str.swapcase") [Value.str _ _]) _ _ _); refine call_swapcase (by assumption) ?_; (try dsimp only); k_steps) | ((with_reducible show wpAny _ _ (subscriptTail _ _ (Value.ref _) (Value.int _ _)) _ _ _); k_dflt (refine' PyProof.Rows.item_listL (News.isList (by k_asm) (by k_mem)) ?ilb ?ilc ?ild ?_ ?ile ?ilf; (case ilb => omega); (case ilc => omega); (case ild => with_reducible assumption); (case ile => with_unfolding_all rfl); (case ilf => intro _; with_unfolding_all rfl)); k_steps)))
      refine Hold.off ?_
      refine LCg.CompSrc.range (n := 4) (by rfl) (by k_asm) (by k_asm) (by assumption) (by rfl) (by rfl) (by exact Nat.le_of_ble_eq_true rfl) ?_
      intro g2
      refine restU_of (J := fun k ys own9 => (∀ p ∈ own9, p.2.cls = .type "tuple") ∧ IPairsIn own9 ys ((ordP (leftS ns ws (tiesS ns ws i))).take k)) ?fin2 ?turn2 _ _ _ [] (Nat.zero_add _) ⟨(fun _ h => nomatch h), .nil⟩
      case turn2 =>
        rintro k v ys3 own9 I3 oI3 C oC D3 m₂ h tk E' hk hv ⟨hJ1, hJ2⟩ hC' hx' F' N' off' ne'
        obtain ⟨tk1, rfl⟩ := hv
        obtain ⟨tw, hw1⟩ : ∃ t, ys2[((0 : Int) + (k : Int)).toNat]? = some (.int ((leftS ns ws (tiesS ns ws i)).getD k 0) t) := by
          rw [show ((0 : Int) + (k : Int)).toNat = k by omega]
          exact ints_at hJ4 (by unfold leftS; simpa using hk)
        have N8 := cb_drop (news := (I3, oI3) :: (C, oC) :: (D3, LCg.lst ys3) :: (DL, LCg.lst ys2) :: (WA, listOf wvs.toArray kw) :: (NA, listOf nvs.toArray kn) :: (I, oI) :: (tA, instObj 203 tdx) :: (tdx, dictOf [⟨PyData.keyHash w.params "_headers", .str "_headers" tt, .ref tl⟩] 1) :: (tl, listOf tvs.toArray tn) :: (L9 + 1 + 1 + 1 + 1, oc5) :: (L9 + 1 + 1 + 1, ocT) :: (L9 + 1 + 1, oc2) :: (L9 + 1, oc1) :: (own9 ++ (own ++ news))) N' (by first | ((with_reducible repeat (first | exact sub_same | exact sub_nil | refine sub_keep ?_ | refine sub_both ?_ | refine sub_skip ?_ | refine sub_app ?_)); done) | kpf_close)
        clear N'
        (k_steps; repeat' (refine Hold.off ?_; first | ((with_reducible show wpAny _ _ (call (Value.builtin "str.swapcase") [Value.str _ _]) _ _ _); refine call_swapcase (by assumption) ?_; (try dsimp only); k_steps) | ((with_reducible show wpAny _ _ (subscriptTail _ _ (Value.ref _) (Value.int _ _)) _ _ _); k_dflt (refine' PyProof.Rows.item_listL (News.isList (by k_asm) (by k_mem)) ?ilb ?ilc ?ild ?_ ?ile ?ilf; (case ilb => omega); (case ilc => omega); (case ild => with_reducible assumption); (case ile => with_unfolding_all rfl); (case ilf => intro _; with_unfolding_all rfl)); k_steps)))
        (rename I3 < _ ∧ _ => l9)
        refine compEnd_perm (by k_asm) (by assumption) (by first | ((with_reducible repeat (first | exact sub_same | exact sub_nil | refine sub_keep ?_ | refine sub_both ?_ | refine sub_skip ?_ | refine sub_app ?_)); done) | kpf_close) l9 off' trivial ⟨List.forall_mem_cons.mpr ⟨rfl, hJ1⟩, ?_⟩
        rw [ord_take hk]
        exact IPairsIn.snoc (hJ2.mono (fun p hp => List.mem_cons_of_mem _ hp)) (.head _)
      case fin2 =>
        rintro ys3 own9 ⟨hJ1, hJ2⟩
        have hJ5 : IPairsIn own9 ys3 (ordP (leftS ns ws (tiesS ns ws i))) := hJ2
        clear hJ2
        (k_steps; repeat' (refine Hold.off ?_; first | ((with_reducible show wpAny _ _ (call (Value.builtin "str.swapcase") [Value.str _ _]) _ _ _); refine call_swapcase (by assumption) ?_; (try dsimp only); k_steps) | ((with_reducible show wpAny _ _ (subscriptTail _ _ (Value.ref _) (Value.int _ _)) _ _ _); k_dflt (refine' PyProof.Rows.item_listL (News.isList (by k_asm) (by k_mem)) ?ilb ?ilc ?ild ?_ ?ile ?ilf; (case ilb => omega); (case ilc => omega); (case ild => with_reducible assumption); (case ile => with_unfolding_all rfl); (case ilf => intro _; with_unfolding_all rfl)); k_steps)))
        refine Hold.off ?_
        (with_reducible rename News _ _ _ _ => N9)
        have hol : (ordP (leftS ns ws (tiesS ns ws i))).length = 4 := by simp [ordP]
        refine sorted_ipairs (vs := ys3) (xs := ordP (leftS ns ws (tiesS ns ws i))) (by k_asm) N9 (News.isList N9 (.head _)) (hJ5.mono (fun p hp => .tail _ (List.mem_append_left _ hp))) (by rw [hol]; decide) (by rw [hol]; decide) (by rw [hol]; exact allOk_run _ _ four_ok) ?_
        clear N9
        intro DS cS h9 F9 N11
        rw [hol] at N11
        have hs := sort_left (leftS ns ws (tiesS ns ws i))
        have h1lt := one_lt (leftS ns ws (tiesS ns ws i))
        have h2lt := other_lt (leftS ns ws (tiesS ns ws i))
        have hstep : tiesS ns ws (i + 1) = tieStep ns ws (tiesS ns ws i) := rfl
        unfold tieStep at hstep
        dsimp only at hstep
        obtain ⟨r2, hr2⟩ := take_two hs
        rw [hr2] at N11
        simp only [List.map_cons] at N11
        obtain ⟨aO, tO, uO, eO, mO⟩ := ipairs_at hJ5 (i := oneT (leftS ns ws (tiesS ns ws i))) (by rw [hol]; exact h1lt)
        obtain ⟨aP, tP, uP, eP, mP⟩ := ipairs_at hJ5 (i := otherT (leftS ns ws (tiesS ns ws i))) (by rw [hol]; exact h2lt)
        rw [eO, eP] at N11
        rw [ordP_at h1lt] at mO
        rw [ordP_at h2lt] at mP
        clear hs hr2 eO eP
        dsimp only at mO mP
        obtain ⟨tw2, hlo⟩ : ∃ t, ys2[((0 : Int) + ((otherT (leftS ns ws (tiesS ns ws i)) : Nat) : Int)).toNat]? = some (.int ((leftS ns ws (tiesS ns ws i)).getD (otherT (leftS ns ws (tiesS ns ws i))) 0) t) := by
          rw [show ∀ n : Nat, ((0 : Int) + (n : Int)).toNat = n by intro n; omega]
          exact ints_at hJ4 (by rw [left_len]; exact h2lt)
        have hnm : ∀ k : Nat, k < 4 → ∃ t, nvs[((0 : Int) + (k : Int)).toNat]? = some (.str (ns.getD k Str.empty) t) := fun k hk => by
          rw [show ((0 : Int) + (k : Int)).toNat = k by omega]
          exact hns.at (by rw [List.getD_eq_getElem?_getD, List.getElem?_eq_getElem (by omega)]; rfl)
        obtain ⟨tn1, hn1⟩ := hnm _ h1lt
        obtain ⟨tn2, hn2⟩ := hnm _ h2lt
        have hk1 := names_at hnl hnok h1lt
        have hk2 := names_at hnl hnok h2lt
        generalize oneT (leftS ns ws (tiesS ns ws i)) = one at *
        generalize otherT (leftS ns ws (tiesS ns ws i)) = oth at *
        generalize (leftS ns ws (tiesS ns ws i)).getD oth 0 = lo at *
        generalize (leftS ns ws (tiesS ns ws i)).getD one 0 = lo1 at *
        have M1 := news_more (x := (aP, ipObj (-lo) (0 + (oth : Int)) tP uP)) N11 (.tail _ (.tail _ (List.mem_append_left _ mP)))
        have M0 := news_more (x := (aO, ipObj (-lo1) (0 + (one : Int)) tO uO)) M1 (.tail _ (.tail _ (.tail _ (List.mem_append_left _ mO))))
        have N12 := cb_drop (news := (DS, listOf (Value.ref aO :: Value.ref aP :: r2.map fun k => ys3.getD k Value.none).toArray cS) :: (aO, ipObj (-lo1) (0 + (one : Int)) tO uO) :: (aP, ipObj (-lo) (0 + (oth : Int)) tP uP) :: (DL, LCg.lst ys2) :: (WA, listOf wvs.toArray kw) :: (NA, listOf nvs.toArray kn) :: (I, oI) :: (tA, instObj 203 tdx) :: (tdx, dictOf [⟨PyData.keyHash w.params "_headers", .str "_headers" tt, .ref tl⟩] 1) :: (tl, listOf tvs.toArray tn) :: (L9 + 1 + 1 + 1 + 1, oc5) :: (L9 + 1 + 1 + 1, ocT) :: (L9 + 1 + 1, oc2) :: (L9 + 1, oc1) :: (own ++ news)) M0 (by first | ((with_reducible repeat (first | exact sub_same | exact sub_nil | refine sub_keep ?_ | refine sub_both ?_ | refine sub_skip ?_ | refine sub_app ?_)); done) | kpf_close)
        clear N11 M0 M1
        (try dsimp only)
        have lnews := allLt_mem ltl.2.2.2.2
        have hItl : @LT.lt Nat _ tl I := hI (tl, listOf ([] : List Value).toArray 0) (by kpf_c)
        have htAl : @Ne Nat tA tl := news_ne N12 (a := tA) (b := tl) (x := instObj 203 tdx) (y := listOf tvs.toArray tn) (by kpf_c) (by kpf_c) (fun e => nomatch e)
        have htdl : @Ne Nat tdx tl := news_ne N12 (a := tdx) (b := tl) (x := dictOf [⟨PyData.keyHash w.params "_headers", .str "_headers" tt, .ref tl⟩] 1) (y := listOf tvs.toArray tn) (by kpf_c) (by kpf_c) (by show Value.type "dict" ≠ Value.type "list"; decide)
        have hofl : ∀ p ∈ own ++ news, @Ne Nat p.1 tl := fun p hp => by
          rcases List.mem_append.mp hp with hp | hp
          · exact news_ne N12 (a := p.1) (b := tl) (x := p.2) (y := listOf tvs.toArray tn) (by kpf_c) (by kpf_c) (by rw [(hown p hp).1]; show Value.type "tuple" ≠ Value.type "list"; decide)
          · exact Nat.ne_of_lt (lnews p hp)
        have hto := ties_ok (ws := ws) hnl hnok i
        have hIall : ∀ (own5 : List (Addr × Obj)) (tv5 : List Value) (tn5 : Nat) (hg hh : Heap) (LL : Addr) (all : List (Addr × Obj)), News hg LL hh all → (I, oI) ∈ all → (∀ p ∈ own5, p ∈ all) → (∀ p ∈ own5, p.2.cls = .type "tuple" ∧ ∀ v, p.2.data ≠ .cell v) →
            ∀ p ∈ (tA, instObj 203 tdx) :: (tdx, dictOf [⟨PyData.keyHash w.params "_headers", .str "_headers" tt, .ref tl⟩] 1) :: (tl, listOf tv5.toArray tn5) :: (L9 + 1 + 1 + 1 + 1, oc5) :: (L9 + 1 + 1 + 1, ocT) :: (L9 + 1 + 1, oc2) :: (L9 + 1, oc1) :: (own5 ++ news), @Ne Nat p.1 I := by
          intro own5 tv5 tn5 hg hh LL all NN hIm hsub hcls p hp
          revert p hp
          refine List.forall_mem_cons.mpr ⟨Nat.ne_of_lt (hI (tA, instObj 203 tdx) (by kpf_c)), List.forall_mem_cons.mpr ⟨Nat.ne_of_lt (hI (tdx, dictOf [⟨PyData.keyHash w.params "_headers", .str "_headers" tt, .ref tl⟩] 1) (by kpf_c)), List.forall_mem_cons.mpr ⟨Nat.ne_of_lt hItl, List.forall_mem_cons.mpr ⟨Nat.ne_of_lt (hI (L9 + 1 + 1 + 1 + 1, oc4) (by kpf_c)), List.forall_mem_cons.mpr ⟨Nat.ne_of_lt (hI (L9 + 1 + 1 + 1, ocT) (by kpf_c)), List.forall_mem_cons.mpr ⟨Nat.ne_of_lt (hI (L9 + 1 + 1, oc2) (by kpf_c)), List.forall_mem_cons.mpr ⟨Nat.ne_of_lt (hI (L9 + 1, oc1) (by kpf_c)), List.forall_mem_append.mpr ⟨fun p hp => news_ne NN (x := p.2) (y := oI) (hsub p hp) hIm (by rw [(hcls p hp).1, hcI]; show Value.type "tuple" ≠ Value.type "range_iterator"; decide), fun p hp => Nat.ne_of_lt (hI p (by kpf_c))⟩⟩⟩⟩⟩⟩⟩⟩
        (k_steps; repeat' (refine Hold.off ?_; first | ((with_reducible show wpAny _ _ (call (Value.builtin "str.swapcase") [Value.str _ _]) _ _ _); refine call_swapcase (by assumption) ?_; (try dsimp only); k_steps) | ((with_reducible show wpAny _ _ (subscriptTail _ _ (Value.ref _) (Value.int _ _)) _ _ _); k_dflt (refine' PyProof.Rows.item_listL (News.isList (by k_asm) (by k_mem)) ?ilb ?ilc ?ild ?_ ?ile ?ilf; (case ilb => omega); (case ilc => omega); (case ild => with_reducible assumption); (case ile => with_unfolding_all rfl); (case ilf => intro _; with_unfolding_all rfl)); k_steps)))
        · refine Hold.off ?_
          (with_reducible rename News _ _ _ _ => K1)
          have K1b := cb_drop (news := (tA, instObj 203 tdx) :: (tdx, dictOf [⟨PyData.keyHash w.params "_headers", .str "_headers" tt, .ref tl⟩] 1) :: (tl, listOf (tvs).toArray tn) :: (NA, listOf nvs.toArray kn) :: (I, oI) :: (L9 + 1 + 1 + 1 + 1, oc5) :: (L9 + 1 + 1 + 1, ocT) :: (L9 + 1 + 1, oc2) :: (L9 + 1, oc1) :: (own ++ news)) K1 (by first | ((with_reducible repeat (first | exact sub_same | exact sub_nil | refine sub_keep ?_ | refine sub_both ?_ | refine sub_skip ?_ | refine sub_app ?_)); done) | kpf_close)
          clear K1
          k_dflt (refine' add_walk ?gak1 ?gak2 ?gak3 K1b ?gak5 ?gad ?gau ?gax ?gay htAl htdl ?gao ?gal ?_; (case gak1 => k_asm); (case gak2 => k_asm); (case gak3 => k_asm); (case gak5 => k_asm); (case gad => ktr_room); (case gau => ktr_units); (case gax => exact hk1); (case gay => exact hk2); (case gao => exact List.forall_mem_cons.mpr ⟨Nat.ne_of_lt (lnews _ hNA), List.forall_mem_cons.mpr ⟨Nat.ne_of_gt hItl, List.forall_mem_cons.mpr ⟨Nat.ne_of_lt ltl.1, List.forall_mem_cons.mpr ⟨Nat.ne_of_lt ltl.2.1, List.forall_mem_cons.mpr ⟨Nat.ne_of_lt ltl.2.2.1, List.forall_mem_cons.mpr ⟨Nat.ne_of_lt ltl.2.2.2.1, hofl⟩⟩⟩⟩⟩⟩); (case gal => rw [htp.length]; omega))
          clear K1b
          intro T9 T9t T9u hT9 tkT9 FT9 NT9
          (try dsimp only)
          (k_steps; repeat' (refine Hold.off ?_; first | ((with_reducible show wpAny _ _ (call (Value.builtin "str.swapcase") [Value.str _ _]) _ _ _); refine call_swapcase (by assumption) ?_; (try dsimp only); k_steps) | ((with_reducible show wpAny _ _ (subscriptTail _ _ (Value.ref _) (Value.int _ _)) _ _ _); k_dflt (refine' PyProof.Rows.item_listL (News.isList (by k_asm) (by k_mem)) ?ilb ?ilc ?ild ?_ ?ile ?ilf; (case ilb => omega); (case ilc => omega); (case ild => with_reducible assumption); (case ile => with_unfolding_all rfl); (case ilf => intro _; with_unfolding_all rfl)); k_steps)))
          refine Hold.off ?_
          have hT9l : @Ne Nat T9 tl := news_ne NT9 (a := T9) (b := tl) (x := pairObj (ns.getD one Str.empty) (ns.getD oth Str.empty) T9t T9u) (y := listOf (tvs ++ [Value.ref T9]).toArray (tn + 1)) (.head _) (by rw [← List.push_toArray]; kpf_c) (by show Value.type "tuple" ≠ Value.type "list"; decide)
          (with_reducible rename News _ _ _ _ => K2)
          have K2b := cb_drop (news := (tA, instObj 203 tdx) :: (tdx, dictOf [⟨PyData.keyHash w.params "_headers", .str "_headers" tt, .ref tl⟩] 1) :: (tl, listOf (tvs ++ [Value.ref T9]).toArray (tn + 1)) :: (T9, pairObj (ns.getD one Str.empty) (ns.getD oth Str.empty) T9t T9u) :: (NA, listOf nvs.toArray kn) :: (I, oI) :: (L9 + 1 + 1 + 1 + 1, oc5) :: (L9 + 1 + 1 + 1, ocT) :: (L9 + 1 + 1, oc2) :: (L9 + 1, oc1) :: (own ++ news)) K2 (by rw [← List.push_toArray]; first | ((with_reducible repeat (first | exact sub_same | exact sub_nil | refine sub_keep ?_ | refine sub_both ?_ | refine sub_skip ?_ | refine sub_app ?_)); done) | kpf_close)
          clear K2
          k_dflt (refine' add_walk ?gak1 ?gak2 ?gak3 K2b ?gak5 ?gad ?gau ?gax ?gay htAl htdl ?gao ?gal ?_; (case gak1 => k_asm); (case gak2 => k_asm); (case gak3 => k_asm); (case gak5 => k_asm); (case gad => ktr_room); (case gau => ktr_units); (case gax => exact hk2); (case gay => exact hk1); (case gao => exact List.forall_mem_cons.mpr ⟨hT9l, List.forall_mem_cons.mpr ⟨Nat.ne_of_lt (lnews _ hNA), List.forall_mem_cons.mpr ⟨Nat.ne_of_gt hItl, List.forall_mem_cons.mpr ⟨Nat.ne_of_lt ltl.1, List.forall_mem_cons.mpr ⟨Nat.ne_of_lt ltl.2.1, List.forall_mem_cons.mpr ⟨Nat.ne_of_lt ltl.2.2.1, List.forall_mem_cons.mpr ⟨Nat.ne_of_lt ltl.2.2.2.1, hofl⟩⟩⟩⟩⟩⟩⟩); (case gal => rw [List.length_append, htp.length, List.length_singleton]; omega))
          clear K2b
          intro T8 T8t T8u hT8 tkT8 FT8 NT8
          (try dsimp only)
          (k_steps; repeat' (refine Hold.off ?_; first | ((with_reducible show wpAny _ _ (call (Value.builtin "str.swapcase") [Value.str _ _]) _ _ _); refine call_swapcase (by assumption) ?_; (try dsimp only); k_steps) | ((with_reducible show wpAny _ _ (subscriptTail _ _ (Value.ref _) (Value.int _ _)) _ _ _); k_dflt (refine' PyProof.Rows.item_listL (News.isList (by k_asm) (by k_mem)) ?ilb ?ilc ?ild ?_ ?ile ?ilf; (case ilb => omega); (case ilc => omega); (case ild => with_reducible assumption); (case ile => with_unfolding_all rfl); (case ilf => intro _; with_unfolding_all rfl)); k_steps)))
          have hown8 : ∀ p ∈ (T8, pairObj (ns.getD oth Str.empty) (ns.getD one Str.empty) T8t T8u) :: (T9, pairObj (ns.getD one Str.empty) (ns.getD oth Str.empty) T9t T9u) :: own, p.2.cls = .type "tuple" ∧ ∀ v, p.2.data ≠ .cell v := List.forall_mem_cons.mpr ⟨⟨rfl, fun v e => nomatch e⟩, List.forall_mem_cons.mpr ⟨⟨rfl, fun v e => nomatch e⟩, hown⟩⟩
          refine unrEnd2 (news := (tA, instObj 203 tdx) :: (tdx, dictOf [⟨PyData.keyHash w.params "_headers", .str "_headers" tt, .ref tl⟩] 1) :: (tl, listOf ((tvs ++ [Value.ref T9]) ++ [Value.ref T8]).toArray (tn + 1 + 1)) :: (L9 + 1 + 1 + 1 + 1, oc5) :: (L9 + 1 + 1 + 1, ocT) :: (L9 + 1 + 1, oc2) :: (L9 + 1, oc1) :: (((T8, pairObj (ns.getD oth Str.empty) (ns.getD one Str.empty) T8t T8u) :: (T9, pairObj (ns.getD one Str.empty) (ns.getD oth Str.empty) T9t T9u) :: own) ++ news)) (by k_asm) NT8 (by rw [← List.push_toArray (l := tvs ++ [Value.ref T9])]; kpf_close) (hIall _ _ _ _ _ _ _ NT8 (by kpf_c) (by kpf_close) hown8) ⟨trivial, oc5, _, _, _, _, hd5, rfl, hown8, ?_⟩
          rw [hstep, if_pos (by assumption)]
          have q1 := PairsIn.snoc (htp.mono (fun p hp => List.mem_cons_of_mem (T8, pairObj (ns.getD oth Str.empty) (ns.getD one Str.empty) T8t T8u) (List.mem_cons_of_mem (T9, pairObj (ns.getD one Str.empty) (ns.getD oth Str.empty) T9t T9u) hp))) (List.mem_cons_of_mem _ List.mem_cons_self)
          have q2 := PairsIn.snoc q1 List.mem_cons_self
          rw [List.append_assoc (tiesS ns ws i)] at q2
          exact q2
        · (with_reducible rename News _ _ _ _ => K3)
          refine unrEnd2 (news := (tA, instObj 203 tdx) :: (tdx, dictOf [⟨PyData.keyHash w.params "_headers", .str "_headers" tt, .ref tl⟩] 1) :: (tl, listOf tvs.toArray tn) :: (L9 + 1 + 1 + 1 + 1, oc5) :: (L9 + 1 + 1 + 1, ocT) :: (L9 + 1 + 1, oc2) :: (L9 + 1, oc1) :: (own ++ news)) (by k_asm) K3 (by kpf_close) (hIall _ _ _ _ _ _ _ K3 (by kpf_c) (by kpf_close) hown) ⟨trivial, oc5, _, tvs, tn, own, hd5, rfl, hown, ?_⟩
          rw [hstep, if_neg (by assumption)]
          exact htp
  case doneA =>
    rintro h3 tk3 m3 n3 ⟨oc4', v4, tvs, tn, own, hd4', rfl, hown, htp⟩ F3 N3
    (k_steps; repeat' (refine Hold.off ?_; first | ((with_reducible show wpAny _ _ (call (Value.builtin "str.swapcase") [Value.str _ _]) _ _ _); refine call_swapcase (by assumption) ?_; (try dsimp only); k_steps) | ((with_reducible show wpAny _ _ (subscriptTail _ _ (Value.ref _) (Value.int _ _)) _ _ _); k_dflt (refine' PyProof.Rows.item_listL (News.isList (by k_asm) (by k_mem)) ?ilb ?ilc ?ild ?_ ?ile ?ilf; (case ilb => omega); (case ilc => omega); (case ild => with_reducible assumption); (case ile => with_unfolding_all rfl); (case ilf => intro _; with_unfolding_all rfl)); k_steps)))
    exact ret _ _ _ _ _ _ own _ _ (by k_asm) (cb_drop (by assumption) (by kpf_close)) (fun p hp => (hown p hp).1) htp
end Mine
end
section
namespace Mine
open PySem PySem.Calls PySem.Builtin PyProof.Rows PySem.W
section
variable {prog : Program} {w : World} {A : Around} {E : Value → Shared → Prop} {s : Shared} {h₀ : Heap} {L : Addr} {m : Str → Option Value} {news : List (Addr × Obj)}
noncomputable def ltS (a b : Str) : Bool := decide (a.cps.toList < b.cps.toList)
theorem lt_spair {x y : Addr} {a1 b1 a2 b2 : Str} {t1 u1 t2 u2 : Tok} {Q : Bool → Shared → Prop} (hx : s.heap.get? x = some (pairObj a1 b1 t1 u1)) (hy : s.heap.get? y = some (pairObj a2 b2 t2 u2))
    (h : Q (if a1 = a2 then (if b1 = b2 then false else ltS b1 b2) else ltS a1 a2) s) : wpAny (model prog w) A (keyLt' (tuples' true) (.ref x) (.ref y)) Q (fun _ _ => False) s := by
  refine kat_lt hx rfl hy rfl ?_
  refine kat_cons (wpAny_eqBool_str ?_)
  by_cases h1 : a1 = a2
  · rw [if_pos h1] at h
    rw [show decide (a1 = a2) = true from decide_eq_true h1]
    refine kat_yes (kat_cons (wpAny_eqBool_str ?_))
    by_cases h2 : b1 = b2
    · rw [if_pos h2] at h
      rw [show decide (b1 = b2) = true from decide_eq_true h2]
      refine kat_yes (kat_nil ?_)
      simpa using h
    · rw [if_neg h2] at h
      rw [show decide (b1 = b2) = false from decide_eq_false h2]
      refine kat_no ?_
      show wpAny _ _ (oneLt' false _ _) _ _ _
      refine kat_one _ _ (lt_str ?_)
      exact h
  · rw [if_neg h1] at h
    rw [show decide (a1 = a2) = false from decide_eq_false h1]
    refine kat_no ?_
    show wpAny _ _ (oneLt' true _ _) _ _ _
    exact oneLt_str h
noncomputable def lexS (xs : List (Str × Str)) (i j : Nat) : Bool := let p := xs.getD i (Str.empty, Str.empty); let q := xs.getD j (Str.empty, Str.empty); if p.1 = q.1 then (if p.2 = q.2 then false else ltS p.2 q.2) else ltS p.1 q.1
theorem spairs_at {vs : List Value} {xs : List (Str × Str)} (h : PairsIn news vs xs) {i : Nat} (hi : i < xs.length) : ∃ a t u, vs.getD i Value.none = .ref a ∧ (a, pairObj (xs.getD i (Str.empty, Str.empty)).1 (xs.getD i (Str.empty, Str.empty)).2 t u) ∈ news := by
  induction h generalizing i with
  | nil => simp at hi
  | cons hm _ ih =>
    cases i with
    | zero => exact ⟨_, _, _, rfl, hm⟩
    | succ i => simpa using ih (i := i) (by simpa using hi)
theorem spairs_tups {h : Heap} {vs : List Value} {xs : List (Str × Str)} (hn : ∀ p ∈ news, h.get? p.1 = some p.2) (hp : PairsIn news vs xs) : ∃ fs, KatTups h vs fs ∧ fs.length = xs.length ∧ ∀ v ∈ fs, ∃ (i : Str) (t : Tok), v = .str i t := by
  induction hp with
  | nil => exact ⟨[], .nil, rfl, fun _ h => nomatch h⟩
  | cons hm _ ih =>
    obtain ⟨fs, f1, f2, f3⟩ := ih
    exact ⟨_, .cons (hn _ hm) rfl rfl rfl f1, by simp [f2], List.forall_mem_cons.mpr ⟨⟨_, _, rfl⟩, f3⟩⟩
theorem sorted_spairs {Q : Value → Shared → Prop} {l : Addr} {vs : List Value} {xs : List (Str × Str)} (F : Fr h₀ L s.heap m) (N : News h₀ L s.heap news) (hl : s.heap.IsList l vs.toArray) (hp : PairsIn news vs xs) (h2 : 2 ≤ xs.length) (h64 : xs.length < 64)
    (ok : runOk (lexS xs) xs.length (kas_sort xs.length) = true)
    (h : ∀ D c h', Fr h₀ L h' m → News h₀ L h' ((D, listOf (((run (lexS xs) (kas_sort xs.length)).toList.map fun i => vs.getD i Value.none)).toArray c) :: news) → Q (.ref D) { s with heap := h' }) :
    wpAny (model prog w) A (call (.builtin "sorted") [.ref l]) Q E s := by
  have hlen := hp.length
  refine kat_sorted F N hl (by omega) (by omega) fun D e1 h' F' N' hD => ?_
  have hn : ∀ p ∈ news, h'.get? p.1 = some p.2 := fun p hp => (N' p (List.mem_cons_of_mem _ hp)).1
  obtain ⟨fs, f1, f2, f3⟩ := spairs_tups hn hp
  refine kat_kind (T := .type "str") f1 (by omega) (fun v hv => ?_) (by decide) ?_
  · obtain ⟨i, t, rfl⟩ := f3 v hv
    kas_ty
  show (kas_sort vs.length).kasWp (kas_ask prog w A.in1.in1 (tuples' true) vs) _ _
  rw [hlen]
  refine kasWp_runOk (b := lexS xs) (n := xs.length) (fun i j C hi hj hC => ?_) _ _ ok ?_
  · obtain ⟨a, t, u, e1, m1⟩ := spairs_at hp hi
    obtain ⟨a', t', u', e2, m2⟩ := spairs_at hp hj
    unfold kas_ask
    rw [e1, e2]
    exact lt_spair (hn _ m1) (hn _ m2) hC
  · refine KasFin.intro F' N' (.head fun p hp => Nat.ne_of_lt (hD p hp)) fun h2 c F2 N2 => ?_
    exact h D c h2 F2 N2
end
end Mine
namespace Mine
open PySem PySem.Calls PySem.Builtin PyProof.Rows PySem.W
theorem pairs_perm {news : List (Addr × Obj)} {vs : List Value} {xs : List (Str × Str)} (h : PairsIn news vs xs) : ∀ (ks : List Nat), (∀ k ∈ ks, k < xs.length) → PairsIn news (ks.map fun k => vs.getD k Value.none) (ks.map fun k => xs.getD k (Str.empty, Str.empty))
  | [], _ => .nil
  | k :: ks, hk => by
    obtain ⟨a, t, u, e, hm⟩ := spairs_at h (hk k (.head _))
    rw [List.map_cons, List.map_cons, e]
    exact .cons hm (pairs_perm h ks fun x hx => hk x (.tail _ hx))
end Mine
namespace Mine
open PySem
theorem sum_short : ∀ {ys : List Str}, (∀ y ∈ ys, y.length ≤ 10) → (ys.map (·.length)).sum ≤ 10 * ys.length
  | [], _ => Nat.le_refl _
  | y :: ys, h => by
    have h1 := h y (.head _)
    have h2 := sum_short fun x hx => h x (.tail _ hx)
    simp only [List.map_cons, List.sum_cons, List.length_cons]
    omega
noncomputable def lowP (c : Str) : Str × Str := (lowS c, c)
end Mine
end
section
open PySem PySem.W PyProof.Rows PySem.Calls
namespace Mine
local macro_rules | `(tactic| kpf_c) => `(tactic| first | with_reducible assumption | with_reducible exact List.mem_cons_self | (with_reducible refine List.mem_cons_of_mem _ ?_; kpf_c) | (refine List.mem_append_left _ ?_; kpf_c) | (refine List.mem_append_right _ ?_; kpf_c))
local macro_rules | `(tactic| kpf_close) => `(tactic| first | exact List.forall_mem_nil _ | (with_reducible refine List.forall_mem_cons.mpr ⟨?_, ?_⟩; (focus kpf_c); kpf_close) | (refine List.forall_mem_append.mpr ⟨?_, ?_⟩; (focus kpf_close); kpf_close) | (intro p hp; kpf_c))
local macro_rules | `(tactic| k_all) => `(tactic| with_reducible assumption)
local macro_rules | `(tactic| walk_at "eval ListComp") => `(tactic| (k_here; refine Hold.on ?_))
local macro_rules | `(tactic| walk_at "CompSrc") => `(tactic| (refine Hold.on ?_))
local macro_rules | `(tactic| walk_at "SrcLP") => `(tactic| (refine Hold.on ?_))
local macro_rules | `(tactic| walk_at "call builtin:sorted") => `(tactic| (k_here; refine Hold.on ?_))
local macro_rules | `(tactic| walk_at "call builtin:str.join") => `(tactic| (k_here; refine Hold.on ?_))
local macro_rules | `(tactic| walk_at "call builtin:str.lower") => `(tactic| (k_here; refine Hold.on ?_))
theorem order_walk {w : World} {loose : List Str} {mean : ExcName → Option Value} {mg mb : Str → Option Value}
  {dp un : Nat} {gd : Option (List Code)} {cn : Str} {csn : List (Str × NameKind)} {csg csc : Bool} {csm : List (Str × Const)} {a : Addr} {ccd : Value} {cl : List (Str × Addr)} {outer : List Env} {A₀ : Around} {base h₀ : Heap} {L : Addr} {m : Str → Option Value} {news : List (Addr × Obj)} {s : Shared} {Q E : Value → Shared → Prop}
  {SL : Addr} {kn : Nat} {svs : List Value} {ss : List Str}
  (B : Below A₀ base outer h₀) (F : Fr h₀ L s.heap m) (X : (hd03.heap_39 w.params).In h₀)
  (N : News h₀ L s.heap ((SL, listOf svs.toArray kn) :: news)) (T : Top hd03.view_39 loose mean mg mb h₀)
  (hd : dp + 6 < recursionLimit) (hu : un + 48 < cLine) (hss : StrsAre svs ss) (hok : ∀ c ∈ ss, okS c) (hsh : ∀ c ∈ ss, c.length ≤ 10) (hl12 : ss.length ≤ 12) (hcase : ss = [] ∨ 2 ≤ ss.length)
  (hro : runOk (lexS (ss.map lowP)) ss.length (kas_sort ss.length) = true)
  (hpm : ∀ k ∈ (run (lexS (ss.map lowP)) (kas_sort ss.length)).toList, k < ss.length) (hpl : (run (lexS (ss.map lowP)) (kas_sort ss.length)).toList.length ≤ 12)
  (ret : ∀ (t : Tok) (h' : Heap) (tk' : Nat), Fr h₀ L h' m → News h₀ L h' ((SL, listOf svs.toArray kn) :: news) → Q (.str (PySem.Txt.join (Str.ofString "") ((run (lexS (ss.map lowP)) (kas_sort ss.length)).toList.map fun k => ss.getD k Str.empty)) t) { s with heap := h', toks := tk' }) :
  wpAny (model PySem.Challenge.rw_sw0068_03.row.prog w) (ktrTop dp un gd cn ⟨.function, csn, csg, csc, csm⟩ L a ccd cl outer) (call (.ref 224) [.ref SL]) Q E s := by
  revert X; k_fill; intro X
  refine wpAny_call ?_
  k_dflt k_enter
  (k_steps; repeat' (refine Hold.off ?_; first | ((with_reducible show wpAny _ _ (call (Value.builtin "str.lower") [Value.str _ _]) _ _ _); refine call_lower (by assumption) ?_; (try dsimp only); k_steps)))
  refine Hold.off ?_
  k_dflt (refine LCg.ListComp_U (F₀ := by k_asm) (by with_unfolding_all rfl) (by decide) (by rfl) (by decide) (by rfl) ?_)
  (k_steps; repeat' (refine Hold.off ?_; first | ((with_reducible show wpAny _ _ (call (Value.builtin "str.lower") [Value.str _ _]) _ _ _); refine call_lower (by assumption) ?_; (try dsimp only); k_steps)))
  refine Hold.off ?_
  have hsl : svs.length = ss.length := hss.length
  refine LCg.CompSrc.ledger (by rfl) (by k_asm) (by k_asm) (by k_mem) (by rw [sizeLine_eq]; simp only [List.size_toArray]; omega) ?_
  intro g9
  refine restU_of (J := fun i ys own => (∀ p ∈ own, p.2.cls = .type "tuple") ∧ PairsIn own ys ((ss.map lowP).take i)) ?fin ?turn _ _ _ [] (Nat.zero_add _) ⟨(fun _ h => nomatch h), .nil⟩
  case turn =>
    rintro i v ys2 own9 I4 oI4 C oC D2 m₂ h tk E' hi hv ⟨hJ1, hJ2⟩ hC' hx' F' N' off' ne'
    obtain ⟨c, tc, rfl, hc⟩ := hss.item i v (by simpa using hv)
    have hokc : okS c := hok c (List.mem_of_getElem? hc)
    (k_steps; repeat' (refine Hold.off ?_; first | ((with_reducible show wpAny _ _ (call (Value.builtin "str.lower") [Value.str _ _]) _ _ _); refine call_lower (by assumption) ?_; (try dsimp only); k_steps)))
    (rename I4 < _ ∧ _ => l9)
    refine compEnd_pair (kx := lowS c) (vx := c) (by k_asm) (by assumption) l9 off' (.inr ⟨_, List.mem_append_right _ (.head _), rfl, _, rfl⟩) ⟨List.forall_mem_cons.mpr ⟨rfl, hJ1⟩, ?_⟩
    rw [take_next (show (ss.map lowP)[i]? = some (lowP c) by rw [List.getElem?_map, hc]; rfl)]
    exact PairsIn.snoc (hJ2.mono (fun p hp => List.mem_cons_of_mem _ hp)) (.head _)
  case fin =>
    rintro ys own9 ⟨hJ1, hJ2⟩
    rw [show (ss.map lowP).take svs.toArray.size = ss.map lowP from List.take_of_length_le (by rw [List.length_map]; simp only [List.size_toArray]; omega)] at hJ2
    (k_steps; repeat' (refine Hold.off ?_; first | ((with_reducible show wpAny _ _ (call (Value.builtin "str.lower") [Value.str _ _]) _ _ _); refine call_lower (by assumption) ?_; (try dsimp only); k_steps)))
    refine Hold.off ?_
    (with_reducible rename News _ _ _ _ => N9)
    have hol : (ss.map lowP).length = ss.length := List.length_map ..
    rcases hcase with he | h2
    · subst he
      have hy0 : ys = [] := List.eq_nil_of_length_eq_zero (by rw [hJ2.length]; rfl)
      subst hy0
      refine kso_sorted (by k_asm) N9 (News.isList N9 (.head _)) .nil (by decide) ?_
      clear N9
      intro DS v9 n9 c9 h9 F9 N9 l9 i9 e9 p9 o9 b9
      have hn9 : n9 = [] := List.eq_nil_of_length_eq_zero e9
      subst hn9
      have hv9 : v9 = [] := List.eq_nil_of_length_eq_zero (by rw [i9.length]; rfl)
      subst hv9
      (k_steps; repeat' (refine Hold.off ?_; first | ((with_reducible show wpAny _ _ (call (Value.builtin "str.lower") [Value.str _ _]) _ _ _); refine call_lower (by assumption) ?_; (try dsimp only); k_steps)))
      refine Hold.off ?_
      k_dflt (refine LCp.ListComp_P (F₀ := by k_asm) (by with_unfolding_all rfl) (by decide) (by rfl) (by decide) (by rfl) (by rfl) (by decide) ?_)
      (k_steps; repeat' (refine Hold.off ?_; first | ((with_reducible show wpAny _ _ (call (Value.builtin "str.lower") [Value.str _ _]) _ _ _); refine call_lower (by assumption) ?_; (try dsimp only); k_steps)))
      refine Hold.off ?_
      refine LCp.SrcLP.ledger (by rfl) (by k_asm) (by k_asm) (by k_mem) (by decide) ?_
      intro g8
      refine restP_of (J := fun i zs => zs = []) ?fin3 ?turn3 _ _ _ (Nat.zero_add _) rfl
      case turn3 =>
        intro i v hi hv
        exact absurd hi (Nat.not_lt_zero _)
      case fin3 =>
        intro zs hJ
        subst hJ
        (k_steps; repeat' (refine Hold.off ?_; first | ((with_reducible show wpAny _ _ (call (Value.builtin "str.lower") [Value.str _ _]) _ _ _); refine call_lower (by assumption) ?_; (try dsimp only); k_steps)))
        refine Hold.off ?_
        refine PyProof.Rows.join_listW (items := #[]) (ys := []) (News.isList (by k_asm) (by k_mem)) .nil (by decide) (by decide) ?_
        intro t9 k9
        (try dsimp only)
        (k_steps; repeat' (refine Hold.off ?_; first | ((with_reducible show wpAny _ _ (call (Value.builtin "str.lower") [Value.str _ _]) _ _ _); refine call_lower (by assumption) ?_; (try dsimp only); k_steps)))
        exact ret _ _ _ (by k_asm) (cb_drop (by assumption) (by kpf_close))
    refine sorted_spairs (vs := ys) (xs := ss.map lowP) (by k_asm) N9 (News.isList N9 (.head _)) (hJ2.mono (fun p hp => .tail _ (List.mem_append_left _ hp))) (by omega) (by omega) (by rw [hol]; exact hro) ?_
    clear N9
    intro DS cS h9 F9 N11
    rw [hol] at N11
    have hpp := pairs_perm (hJ2.mono (fun p hp => List.mem_append_left ((SL, listOf svs.toArray kn) :: news) hp)) _ (fun k hk => by rw [hol]; exact hpm k hk)
    generalize (run (lexS (ss.map lowP)) (kas_sort ss.length)).toList = pm at *
    (k_steps; repeat' (refine Hold.off ?_; first | ((with_reducible show wpAny _ _ (call (Value.builtin "str.lower") [Value.str _ _]) _ _ _); refine call_lower (by assumption) ?_; (try dsimp only); k_steps)))
    refine Hold.off ?_
    k_dflt (refine LCp.ListComp_P (F₀ := by k_asm) (by with_unfolding_all rfl) (by decide) (by rfl) (by decide) (by rfl) (by rfl) (by decide) ?_)
    (k_steps; repeat' (refine Hold.off ?_; first | ((with_reducible show wpAny _ _ (call (Value.builtin "str.lower") [Value.str _ _]) _ _ _); refine call_lower (by assumption) ?_; (try dsimp only); k_steps)))
    refine Hold.off ?_
    refine LCp.SrcLP.ledger (by rfl) (by k_asm) (by k_asm) (by k_mem) (by rw [sizeLine_eq]; simp only [List.size_toArray, List.length_map]; omega) ?_
    intro g8
    refine restP_of (J := fun i ys => StrsAre ys ((pm.take i).map fun k => ss.getD k Str.empty)) ?fin2 ?turn2 _ _ _ (Nat.zero_add _) .nil
    case turn2 =>
      intro i v hi hv
      obtain ⟨aP, kP, xP, tA, tB, rfl, hm, hp⟩ := hpp.get (by simpa using hv)
      rw [List.getElem?_map] at hp
      obtain ⟨k9, hk9, hp2⟩ := Option.map_eq_some_iff.mp hp
      have hk8 := hpm k9 (List.mem_of_getElem? hk9)
      have hx9 : (ss.map lowP).getD k9 (Str.empty, Str.empty) = lowP (ss.getD k9 Str.empty) := by
        rw [List.getD_eq_getElem?_getD, List.getElem?_map, List.getD_eq_getElem?_getD, List.getElem?_eq_getElem hk8]; rfl
      rw [hx9] at hp2
      obtain ⟨rfl, rfl⟩ := Prod.mk.inj hp2
      refine ⟨aP, pairObj (lowS (ss.getD k9 Str.empty)) (ss.getD k9 Str.empty) tA tB, _, _, _, rfl, ?_, rfl, rfl, ?_⟩
      · rcases List.mem_append.mp hm with hm | hm
        · exact List.mem_cons_of_mem _ (List.mem_cons_of_mem _ (List.mem_append_left _ hm))
        · exact List.mem_cons_of_mem _ (List.mem_cons_of_mem _ (List.mem_append_right _ hm))
      intro ys2 I4 oI4 C oC D2 m₂ h tk E' hJ hC' hx1 hx2 F' N' off' ne'
      (k_steps; repeat' (refine Hold.off ?_; first | ((with_reducible show wpAny _ _ (call (Value.builtin "str.lower") [Value.str _ _]) _ _ _); refine call_lower (by assumption) ?_; (try dsimp only); k_steps)))
      refine LCg.CompEnd.intro (by k_asm) (by assumption) _ (by kpf_close) off' (.inr ⟨_, by k_mem, rfl, _, rfl⟩) ⟨rfl, ?_⟩
      rw [take_next hk9, List.map_append]
      exact StrsAre.snoc' hJ
    case fin2 =>
      intro zs hJ
      rw [List.take_of_length_le (by simp only [List.size_toArray, List.length_map]; exact Nat.le_refl _)] at hJ
      (k_steps; repeat' (refine Hold.off ?_; first | ((with_reducible show wpAny _ _ (call (Value.builtin "str.lower") [Value.str _ _]) _ _ _); refine call_lower (by assumption) ?_; (try dsimp only); k_steps)))
      refine Hold.off ?_
      refine PyProof.Rows.join_listW (items := zs.toArray) (ys := pm.map fun k => ss.getD k Str.empty) (News.isList (by k_asm) (by k_mem)) hJ (by decide) ?hw9 ?_
      case hw9 =>
        have hs9 := sum_short (ys := pm.map fun k => ss.getD k Str.empty) (fun y hy => by
          obtain ⟨k, hk, rfl⟩ := List.mem_map.mp hy
          have hk8 := hpm k hk
          rw [List.getD_eq_getElem?_getD, List.getElem?_eq_getElem hk8]
          exact hsh _ (List.getElem_mem hk8))
        have hpl9 : pm.length ≤ 12 := hpl
        have e9 : (pm.map fun k => ss.getD k Str.empty).length = pm.length := List.length_map ..
        rw [e9] at hs9 ⊢
        omega
      intro t9 k9
      (try dsimp only)
      (k_steps; repeat' (refine Hold.off ?_; first | ((with_reducible show wpAny _ _ (call (Value.builtin "str.lower") [Value.str _ _]) _ _ _); refine call_lower (by assumption) ?_; (try dsimp only); k_steps)))
      exact ret _ _ _ (by k_asm) (cb_drop (by assumption) (by kpf_close))
end Mine
end
section
open PySem PySem.W PyProof.Rows PySem.Calls
namespace Mine
local macro_rules | `(tactic| k_all) => `(tactic| with_reducible assumption)
local macro_rules | `(tactic| walk_at "eval ListComp") => `(tactic| (k_here; refine Hold.on ?_))
theorem keys_walk {w : World} {loose : List Str} {mean : ExcName → Option Value} {mg mb : Str → Option Value}
  {dp un : Nat} {gd : Option (List Code)} {cn : Str} {csn : List (Str × NameKind)} {csg csc : Bool} {csm : List (Str × Const)} {a : Addr} {ccd : Value} {cl : List (Str × Addr)} {outer : List Env} {A₀ : Around} {base h₀ : Heap} {L : Addr} {m : Str → Option Value} {news : List (Addr × Obj)} {s : Shared} {Q E : Value → Shared → Prop}
  {hA dx l : Addr} {tk nn : Nat} {vs : List Value} {ps : List (Str × Str)}
  (B : Below A₀ base outer h₀) (F : Fr h₀ L s.heap m) (X : (hd03.heap_39 w.params).In h₀)
  (N : News h₀ L s.heap ((hA, instObj 203 dx) :: (dx, dictOf [⟨PyData.keyHash w.params "_headers", .str "_headers" tk, .ref l⟩] 1) :: (l, listOf vs.toArray nn) :: news)) (T : Top hd03.view_39 loose mean mg mb h₀)
  (hd : dp + 6 < recursionLimit) (hu : un + 48 < cLine) (hlen : vs.length ≤ 1000) (hps : PairsIn news vs ps)
  (ret : ∀ (D : Addr) (ys : List Value) (n : Nat) (h' : Heap) (tk' : Nat), Fr h₀ L h' m → News h₀ L h' ((D, listOf ys.toArray n) :: (hA, instObj 203 dx) :: (dx, dictOf [⟨PyData.keyHash w.params "_headers", .str "_headers" tk, .ref l⟩] 1) :: (l, listOf vs.toArray nn) :: news) →
     StrsAre ys (ps.map (·.1)) → (∀ p ∈ (hA, instObj 203 dx) :: (dx, dictOf [⟨PyData.keyHash w.params "_headers", .str "_headers" tk, .ref l⟩] 1) :: (l, listOf vs.toArray nn) :: news, @Ne Nat p.1 D) → Q (.ref D) { s with heap := h', toks := tk' }) :
  wpAny (model PySem.Challenge.rw_sw0068_03.row.prog w) (ktrTop dp un gd cn ⟨.function, csn, csg, csc, csm⟩ L a ccd cl outer) (call (.ref 155) [.ref hA]) Q E s := by
  revert X; k_fill; intro X
  refine wpAny_call ?_
  k_dflt k_enter
  (k_steps; repeat' (refine Hold.off ?_; first | (lcp_look; k_dflt (refine LCp.ListComp_P (F₀ := by k_asm) (by with_unfolding_all rfl) (by decide) (by rfl) (by decide) (by rfl) (by rfl) (by decide) ?_); k_steps)))
  refine LCp.SrcLP.ledger (by rfl) (by k_asm) (by k_asm) (by k_mem) (by rw [sizeLine_eq]; simp only [List.size_toArray]; omega) ?_
  intro g'
  refine restP_of (J := fun i ys => StrsAre ys ((ps.take i).map (·.1))) ?fin ?turn _ _ _ (Nat.zero_add _) .nil
  case turn =>
    intro i v hi hv
    obtain ⟨aP, kP, xP, tA, tB, rfl, hm, hp⟩ := hps.get (by simpa using hv)
    refine ⟨aP, pairObj kP xP tA tB, _, _, _, rfl, by simp [hm], rfl, rfl, ?_⟩
    intro ys2 I4 oI4 C oC D2 m₂ h tk E' hJ hC' hx1 hx2 F' N' off' ne'
    (k_steps; repeat' (refine Hold.off ?_; first | (lcp_look; k_dflt (refine LCp.ListComp_P (F₀ := by k_asm) (by with_unfolding_all rfl) (by decide) (by rfl) (by decide) (by rfl) (by rfl) (by decide) ?_); k_steps)))
    refine LCg.CompEnd.intro (by k_asm) (by assumption) _ (by kcf_all) off' (.inr ⟨_, by k_mem, rfl, _, rfl⟩) ⟨rfl, ?_⟩
    rw [List.take_add_one, hp]
    simp only [Option.toList_some, List.map_append, List.map_cons, List.map_nil]
    exact StrsAre.snoc' hJ
  case fin =>
    intro ys hJ
    rw [List.take_of_length_le (by simp only [List.size_toArray]; exact Nat.le_of_eq hps.length.symm)] at hJ
    (k_steps; repeat' (refine Hold.off ?_; first | (lcp_look; k_dflt (refine LCp.ListComp_P (F₀ := by k_asm) (by with_unfolding_all rfl) (by decide) (by rfl) (by decide) (by rfl) (by rfl) (by decide) ?_); k_steps)))
    (rename _ ∧ _ ∧ _ ∧ LCg.Off1 _ news => o9)
    exact ret _ _ _ _ _ (by k_asm) (cb_drop (by assumption) (by kcf_all)) hJ (off1_all o9)
end Mine
end
section
open PySem PySem.W PyProof.Rows PySem.Calls
namespace Mine
local macro_rules | `(tactic| k_all) => `(tactic| with_reducible assumption)
local macro_rules | `(tactic| walk_at "eval ListComp") => `(tactic| (k_here; refine Hold.on ?_))
local macro_rules | `(tactic| walk_at "no such key") => `(tactic| (k_here; refine Hold.on ?_))
theorem values_walk {w : World} {loose : List Str} {mean : ExcName → Option Value} {mg mb : Str → Option Value}
  {dp un : Nat} {gd : Option (List Code)} {cn : Str} {csn : List (Str × NameKind)} {csg csc : Bool} {csm : List (Str × Const)} {a : Addr} {ccd : Value} {cl : List (Str × Addr)} {outer : List Env} {A₀ : Around} {base h₀ : Heap} {L : Addr} {m : Str → Option Value} {news : List (Addr × Obj)} {s : Shared} {Q E : Value → Shared → Prop}
  {hA dx l : Addr} {tk nn : Nat} {vs : List Value} {ps : List (Str × Str)}
  (B : Below A₀ base outer h₀) (F : Fr h₀ L s.heap m) (X : (hd03.heap_39 w.params).In h₀)
  (N : News h₀ L s.heap ((hA, instObj 203 dx) :: (dx, dictOf [⟨PyData.keyHash w.params "_headers", .str "_headers" tk, .ref l⟩] 1) :: (l, listOf vs.toArray nn) :: news)) (T : Top hd03.view_39 loose mean mg mb h₀)
  (hd : dp + 6 < recursionLimit) (hu : un + 48 < cLine) (hlen : vs.length ≤ 1000) (hps : PairsIn news vs ps)
  (ret : ∀ (D : Addr) (ys : List Value) (n : Nat) (h' : Heap) (tk' : Nat), Fr h₀ L h' m → News h₀ L h' ((D, listOf ys.toArray n) :: (hA, instObj 203 dx) :: (dx, dictOf [⟨PyData.keyHash w.params "_headers", .str "_headers" tk, .ref l⟩] 1) :: (l, listOf vs.toArray nn) :: news) →
     StrsAre ys (ps.map (·.2)) → (∀ p ∈ (hA, instObj 203 dx) :: (dx, dictOf [⟨PyData.keyHash w.params "_headers", .str "_headers" tk, .ref l⟩] 1) :: (l, listOf vs.toArray nn) :: news, @Ne Nat p.1 D) → Q (.ref D) { s with heap := h', toks := tk' }) :
  wpAny (model PySem.Challenge.rw_sw0068_03.row.prog w) (ktrTop dp un gd cn ⟨.function, csn, csg, csc, csm⟩ L a ccd cl outer) (call (.ref 160) [.ref hA]) Q E s := by
  revert X; k_fill; intro X
  refine wpAny_call ?_
  k_dflt k_enter
  (k_steps; repeat' (refine Hold.off ?_; first | (lcp_look; k_dflt (refine LCp.ListComp_P (F₀ := by k_asm) (by with_unfolding_all rfl) (by decide) (by rfl) (by decide) (by rfl) (by rfl) (by decide) ?_); k_steps)))
  refine LCp.SrcLP.ledger (by rfl) (by k_asm) (by k_asm) (by k_mem) (by rw [sizeLine_eq]; simp only [List.size_toArray]; omega) ?_
  intro g'
  refine restP_of (J := fun i ys => StrsAre ys ((ps.take i).map (·.2))) ?fin ?turn _ _ _ (Nat.zero_add _) .nil
  case turn =>
    intro i v hi hv
    obtain ⟨aP, kP, xP, tA, tB, rfl, hm, hp⟩ := hps.get (by simpa using hv)
    refine ⟨aP, pairObj kP xP tA tB, _, _, _, rfl, by simp [hm], rfl, rfl, ?_⟩
    intro ys2 I4 oI4 C oC D2 m₂ h tk E' hJ hC' hx1 hx2 F' N' off' ne'
    (k_steps; repeat' (refine Hold.off ?_; first | (lcp_look; k_dflt (refine LCp.ListComp_P (F₀ := by k_asm) (by with_unfolding_all rfl) (by decide) (by rfl) (by decide) (by rfl) (by rfl) (by decide) ?_); k_steps)))
    refine LCg.CompEnd.intro (by k_asm) (by assumption) _ (by kcf_all) off' (.inr ⟨_, by k_mem, rfl, _, rfl⟩) ⟨rfl, ?_⟩
    rw [List.take_add_one, hp]
    simp only [Option.toList_some, List.map_append, List.map_cons, List.map_nil]
    exact StrsAre.snoc' hJ
  case fin =>
    intro ys hJ
    rw [List.take_of_length_le (by simp only [List.size_toArray]; exact Nat.le_of_eq hps.length.symm)] at hJ
    (k_steps; repeat' (refine Hold.off ?_; first | (lcp_look; k_dflt (refine LCp.ListComp_P (F₀ := by k_asm) (by with_unfolding_all rfl) (by decide) (by rfl) (by decide) (by rfl) (by rfl) (by decide) ?_); k_steps)))
    (rename _ ∧ _ ∧ _ ∧ LCg.Off1 _ news => o9)
    exact ret _ _ _ _ _ (by k_asm) (cb_drop (by assumption) (by kcf_all)) hJ (off1_all o9)
end Mine
end
section
namespace Mine
open PySem PySem.Calls PySem.Builtin PySem.Builtin.Str PyProof.Rows PySem.W PyProof
theorem loop_pure {β : Type} (f : Nat → β → Sem (ForInStep β)) (g : Nat → β) (n : Nat) (h : ∀ x p, p < n → f x (g p) = pure (.yield (g (p + 1)))) : ∀ (l : List Nat) (p : Nat), p + l.length = n → forIn l (g p) f = pure (g n)
  | [], p, hp => by have : p = n := by simpa using hp
                    subst this; rfl
  | x :: l, p, hp => by
    simp only [List.length_cons] at hp
    rw [List.forIn_cons, h x p (by omega), pure_bind]
    exact loop_pure f g n h l (p + 1) (by omega)
theorem ascii_at {b : Array UInt8} {p : Nat} (hp : p < b.size) (hc : b[p].toNat < 128) : _codecs.utf8Decoder.find true b p = .char b[p].toNat (p + 1) := by
  have e : Bytes.utf8At b p = (.char b[p].toNat, p + 1) := by
    have e0 : b.getD p 0 = b[p] := by simp [Array.getD, hp]
    unfold Bytes.utf8At
    simp only [e0]
    rw [if_pos hc]
  show (match Bytes.utf8At b p with
  | (.char c, nx) => .char c nx
  | (.bad _ stop reason, _) =>
    .bad stop reason (reason == "unexpected end of data" || (b.getD p 0 == 0xED && p + 2 == b.size && 0xA0 ≤ b.getD (p + 1) 0 && b.getD (p + 1) 0 ≤ 0xBF)) : _codecs.Found) = _
  rw [e]
theorem run_ascii (b : Array UInt8) (hb : ∀ c ∈ b.toList, c.toNat < 128) (hs : b.size ≤ 1000) (id : String) : _codecs.runDecoder id _codecs.utf8Decoder none true b 0 [] = pure ((b.toList.map UInt8.toNat).toArray, b.size) := by
  unfold _codecs.runDecoder
  dsimp only
  rw [KPc.range_list]
  refine (congrArg (fun r => r >>= _) (loop_pure _ (fun p => (p, ((b.toList.take p).map UInt8.toNat).toArray, ({} : _codecs.Faults))) b.size (fun x p hp => ?_) (List.range' 0 b.size 1) 0 (by simp))).trans ?_
  · have hsz : ¬ ((List.map UInt8.toNat (List.take p b.toList)).toArray.size > sizeLine) := by
      have : sizeLine = 16777216 := sizeLine_eq
      simp; omega
    simp only [if_neg hsz, if_neg (show ¬ (p ≥ b.size) by omega)]
    rw [ascii_at hp (hb _ (by simp))]
    show pure _ = pure _
    congr 3
    rw [List.take_add_one]
    simp [hp]
  · show (pure _ >>= fun _ => _) = _
    rw [pure_bind]
    simp
    rw [List.take_of_length_le (by simp)]
theorem ascii_decode {prog : Program} {w : World} {A : Around} {E : Value → Shared → Prop} {s : Shared} {b : Array UInt8} {l : List Nat} {t : Tok} {Q : Value → Shared → Prop} (he : b.toList.map UInt8.toNat = l) (hne : l ≠ []) (hb : ∀ c ∈ l, c < 128) (hs : l.length ≤ 1000)
    (h : ∀ t' k, Q (.str (sL l) t') { s with toks := k }) : wpAny (model prog w) A (call (.builtin "bytes.decode") [.bytes b t]) Q E s := by
  subst he
  obtain ⟨bl⟩ := b
  cases bl with
  | nil => exact absurd rfl hne
  | cons c cs =>
    refine KBd.decode (x := sL ((c :: cs).map UInt8.toNat)) (n := (c :: cs).length) (fun id => ?_) (by rw [sL_len]; have hs' : (List.map UInt8.toNat (c :: cs)).length ≤ 1000 := hs; omega) h
    rw [run_ascii _ (fun d hd => hb _ (List.mem_map.mpr ⟨d, hd, rfl⟩)) (by simpa using hs), sL_eq]
    rfl
end Mine
end
section
namespace Mine
open PySem PySem.Calls PySem.Builtin PyProof.Rows PySem.W
noncomputable abbrev tripObj (a b c : Int) (t1 t2 t3 : Tok) : Obj := { cls := .type "tuple", data := .seq #[.int a t1, .int b t2, .int c t3] }
inductive TripsIn (news : List (Addr × Obj)) : List Value → List (Int × Int × Int) → Prop
  | nil : TripsIn news [] []
  | cons {a : Addr} {x y z : Int} {t1 t2 t3 : Tok} {vs : List Value} {ps : List (Int × Int × Int)} : (a, tripObj x y z t1 t2 t3) ∈ news → TripsIn news vs ps → TripsIn news (.ref a :: vs) ((x, y, z) :: ps)
theorem TripsIn.length {news : List (Addr × Obj)} {vs : List Value} {ps : List (Int × Int × Int)} (h : TripsIn news vs ps) : vs.length = ps.length := by
  induction h with
  | nil => rfl
  | cons _ _ ih => simp [ih]
theorem TripsIn.get {news : List (Addr × Obj)} {vs : List Value} {ps : List (Int × Int × Int)} (h : TripsIn news vs ps) {i : Nat} {v : Value} (hv : vs[i]? = some v) :
    ∃ a x y z t1 t2 t3, v = .ref a ∧ (a, tripObj x y z t1 t2 t3) ∈ news ∧ ps[i]? = some (x, y, z) := by
  induction h generalizing i with
  | nil => simp at hv
  | cons hm _ ih =>
    cases i with
    | zero => simp at hv; exact ⟨_, _, _, _, _, _, _, hv.symm, hm, rfl⟩
    | succ i => simpa using ih (by simpa using hv)
theorem TripsIn.mono {news news' : List (Addr × Obj)} (hs : ∀ p ∈ news, p ∈ news') {vs : List Value} {ps : List (Int × Int × Int)} (h : TripsIn news vs ps) : TripsIn news' vs ps := by
  induction h with
  | nil => exact .nil
  | cons hm _ ih => exact .cons (hs _ hm) ih
theorem TripsIn.snoc {news : List (Addr × Obj)} {a : Addr} {x y z : Int} {t1 t2 t3 : Tok} {vs : List Value} {ps : List (Int × Int × Int)} (h : TripsIn news vs ps) (hm : (a, tripObj x y z t1 t2 t3) ∈ news) : TripsIn news (vs ++ [.ref a]) (ps ++ [(x, y, z)]) := by
  induction h with
  | nil => exact .cons hm .nil
  | cons h1 _ ih => exact .cons h1 ih
noncomputable def okT (t : Int × Int × Int) : Prop := 1 ≤ t.1 ∧ t.1 ≤ 4 ∧ 0 ≤ t.2.1 ∧ t.2.1 ≤ 4 ∧ 0 ≤ t.2.2 ∧ t.2.2 ≤ 1
noncomputable def sqT (z : Int) : Int × Int × Int := (1 + z.fmod 4, (z.fdiv 4).fmod 5, (z.fdiv 20).fmod 2)
end Mine
end
section
namespace Mine
open PySem PySem.Calls PySem.Builtin PySem.Builtin.Str PyProof.Rows PySem.W PyProof
noncomputable def wordN (t : Int × Int × Int) : List Nat := [65 + t.1.toNat, 65 + t.2.1.toNat]
noncomputable def wordS (t : Int × Int × Int) : Str := sL (wordN t)
noncomputable def pairS (t : Int × Int × Int) : Str × Str := (sL [65 + t.1.toNat], sL [65 + t.2.1.toNat])
theorem letters_sL : Str.ofString "ABCDEFGHIJKLMNOP" = sL [65, 66, 67, 68, 69, 70, 71, 72, 73, 74, 75, 76, 77, 78, 79, 80] := by rw [sL_eq]; decide +kernel
theorem okc_AP {n : Nat} (h : n < 16) : okc (65 + n) = true := by
  have all : ∀ i : Fin 16, okc (65 + i.val) = true := by decide +kernel
  exact all ⟨n, h⟩
theorem take_map_next {α β : Type} {f : α → β} {ts : List α} {j : Nat} {t : α} (hp : ts[j]? = some t) : (ts.take (j + 1)).map f = (ts.take j).map f ++ [f t] := by
  rw [List.take_add_one, hp]; simp
theorem letters_at (i : Nat) (h : i < 16) : [65, 66, 67, 68, 69, 70, 71, 72, 73, 74, 75, 76, 77, 78, 79, 80].getD i 0 = 65 + i := by
  have all : ∀ i : Fin 16, [65, 66, 67, 68, 69, 70, 71, 72, 73, 74, 75, 76, 77, 78, 79, 80].getD i.val 0 = 65 + i.val := by decide +kernel
  exact all ⟨i, h⟩
section
variable {prog : Program} {w : World} {A : Around} {E : Value → Shared → Prop} {s : Shared} {Q : Value → Shared → Prop} {value slice : Expr}
theorem letter_item {i : Int} {t u : Tok} (hi : 0 ≤ i ∧ i < 16)
    (h : ∀ t', Q (.str (sL [65 + i.toNat]) t') { s with toks := s.toks + 1 })
    (hs : subscripted slice false (.str (Str.ofString "ABCDEFGHIJKLMNOP") t) (.int i u) = operate [.str (Str.ofString "ABCDEFGHIJKLMNOP") t, .int i u] (getItem (.str (Str.ofString "ABCDEFGHIJKLMNOP") t) (.int i u)) := by with_unfolding_all rfl)
    (ht : ∀ r, letTemporaryGo value (.str (Str.ofString "ABCDEFGHIJKLMNOP") t) r = pure () := by intro _; with_unfolding_all rfl) :
    wpAny (model prog w) A (subscriptTail value slice (.str (Str.ofString "ABCDEFGHIJKLMNOP") t) (.int i u)) Q E s := by
  rw [letters_sL] at hs ht ⊢
  refine sl_itemP (by simp) ⟨hi.1, by simp; omega⟩ (fun t' => ?_) hs ht
  rw [letters_at _ (by omega)]
  exact h t'
end
end Mine
end
section
namespace Mine
open PySem PySem.Calls PySem.Builtin PySem.Builtin.Str PyProof.Rows PySem.W PyProof
noncomputable def signL : List Nat := [97, 98, 66, 99, 67, 68, 101, 69]
noncomputable def rowIs (n : Nat) (t : Int × Int × Int) : Bool := 65 + t.1.toNat == upC n
noncomputable def colS (t : Int × Int × Int) : Str := sL [65 + t.2.1.toNat]
end Mine
namespace Mine
end Mine
end
section
namespace Mine
open PySem PySem.Calls PySem.Builtin PyProof.Rows PySem.W
/-- the ties as indices of guests -/
noncomputable def leftN (ws : List Int) (ps : List (Nat × Nat)) : List Int := (List.range 4).map fun k => ws.getD k 0 - (((ps.filter fun p => p.1 == k).length : Nat) : Int)
noncomputable def tieStepN (ws : List Int) (ps : List (Nat × Nat)) : List (Nat × Nat) :=
  let l := leftN ws ps
  if 0 < l.getD (otherT l) 0 then ps ++ [(oneT l, otherT l), (otherT l, oneT l)] else ps
noncomputable def tiesN (ws : List Int) : Nat → List (Nat × Nat)
  | 0 => []
  | n + 1 => tieStepN ws (tiesN ws n)
noncomputable def rankB (ks : List Nat) (i j : Nat) : Bool := decide (ks.getD i 9 < ks.getD j 9)
noncomputable def sortN (ks : List Nat) : List Nat := (run (rankB ks) (kas_sort ks.length)).toList
noncomputable def sortK (ks : List Nat) : List Nat := (sortN ks).map fun k => ks.getD k 0
noncomputable def reps (ws : List Nat) : List Nat := List.replicate (ws.getD 0 0) 0 ++ List.replicate (ws.getD 1 0) 1 ++ List.replicate (ws.getD 2 0) 2 ++ List.replicate (ws.getD 3 0) 3
noncomputable def odds : List Nat → List Nat
  | _ :: b :: r => b :: odds r
  | _ => []
noncomputable def wsI (ws : List Nat) : List Int := ws.map fun (n : Nat) => (n : Int)
noncomputable def keysN (ws : List Nat) : List Nat := (tiesN (wsI ws) 6).map (·.1)
noncomputable def valsN (ws : List Nat) : List Nat := (tiesN (wsI ws) 6).map (·.2)
noncomputable def leftOver (ws : List Nat) : Int := max (((reps ws).length : Int) % 2) (2 * max (max (ws.getD 0 0 : Int) (ws.getD 1 0)) (max (ws.getD 2 0) (ws.getD 3 0)) - (reps ws).length)

end Mine
end
section
namespace Mine
open PySem PySem.Calls PySem.Builtin PyProof.Rows PySem.W
noncomputable def chrF (f : Nat → Nat) (fl : List Bool) (k : Nat) : Nat := if fl.getD k false = true then 97 + f k else 65 + f k
noncomputable def nameF (f : Nat → Nat) (fl : List Bool) (k : Nat) : Str := sL [chrF f fl k]
noncomputable def namesF (f : Nat → Nat) (fl : List Bool) : List Str := [nameF f fl 0, nameF f fl 1, nameF f fl 2, nameF f fl 3]
noncomputable def figOk (f : Nat → Nat) : Prop := (∀ i j, i < 4 → j < 4 → i < j → f i < f j) ∧ ∀ i, i < 4 → f i ≤ 15
theorem names_getD {f : Nat → Nat} {fl : List Bool} {k : Nat} (hk : k < 4) : (namesF f fl).getD k Str.empty = nameF f fl k := by
  match k, hk with
  | 0, _ => rfl
  | 1, _ => rfl
  | 2, _ => rfl
  | 3, _ => rfl
theorem low_chr {f : Nat → Nat} {fl : List Bool} {k : Nat} (h : f k ≤ 15) : lowN (chrF f fl k) = 97 + f k := by
  unfold lowN chrF
  split <;> split <;> omega
theorem low_sw {f : Nat → Nat} {fl : List Bool} {k : Nat} (h : f k ≤ 15) : lowN (swC (chrF f fl k)) = 97 + f k := by
  unfold chrF swC lowN
  split <;> (repeat' split) <;> omega
theorem swS_one (c : Nat) : swS (sL [c]) = sL [swC c] := by rw [sL_eq, sL_eq]; unfold swS; simp
theorem low_name {f : Nat → Nat} {fl : List Bool} {k : Nat} (h : f k ≤ 15) : lowS (nameF f fl k) = sL [97 + f k] := by
  unfold nameF
  rw [lowS_one, low_chr h]
theorem low_sw_name {f : Nat → Nat} {fl : List Bool} {k : Nat} (h : f k ≤ 15) : lowS (swS (nameF f fl k)) = sL [97 + f k] := by
  unfold nameF
  rw [swS_one, lowS_one, low_sw h]
theorem f_inj {f : Nat → Nat} (hf : figOk f) {i j : Nat} (hi : i < 4) (hj : j < 4) : f i = f j ↔ i = j := by
  constructor
  · intro h
    rcases Nat.lt_trichotomy i j with h1 | h1 | h1
    · have := hf.1 i j hi hj h1; omega
    · exact h1
    · have := hf.1 j i hj hi h1; omega
  · rintro rfl; rfl
theorem f_lt {f : Nat → Nat} (hf : figOk f) {i j : Nat} (hi : i < 4) (hj : j < 4) : f i < f j ↔ i < j := by
  constructor
  · intro h
    rcases Nat.lt_trichotomy i j with h1 | h1 | h1
    · exact h1
    · subst h1; omega
    · have := hf.1 j i hj hi h1; omega
  · exact hf.1 i j hi hj
theorem key_eq {f : Nat → Nat} {fl : List Bool} (hf : figOk f) {i k : Nat} (hi : i < 4) (hk : k < 4) : (lowS (nameF f fl i) == lowS (swS (nameF f fl k))) = (i == k) := by
  rw [low_name (hf.2 i hi), low_sw_name (hf.2 k hk), sL_beq]
  have := f_inj hf hi hk
  by_cases h : i = k
  · subst h; simp
  · have h2 : f i ≠ f k := fun e => h (this.mp e)
    rw [beq_eq_false_iff_ne.mpr h]
    simp
    exact h2
noncomputable def lt4 (p : Nat × Nat) : Prop := p.1 < 4 ∧ p.2 < 4
noncomputable def pairF (f : Nat → Nat) (fl : List Bool) (p : Nat × Nat) : Str × Str := (nameF f fl p.1, nameF f fl p.2)
theorem left_map {f : Nat → Nat} {fl : List Bool} (hf : figOk f) (ws : List Int) {ps : List (Nat × Nat)} (hp : ∀ p ∈ ps, lt4 p) : leftS (namesF f fl) ws (ps.map (pairF f fl)) = leftN ws ps := by
  unfold leftS leftN
  refine List.map_congr_left fun k hk => ?_
  have hk4 : k < 4 := List.mem_range.mp hk
  unfold leftAt
  rw [List.filter_map, List.length_map]
  have : ps.filter ((fun p => lowS p.1 == lowS (swS ((namesF f fl).getD k Str.empty))) ∘ pairF f fl) = ps.filter fun p => p.1 == k := by
    refine List.filter_congr fun p hpm => ?_
    rw [names_getD hk4]
    exact key_eq hf (hp p hpm).1 hk4
  rw [this]
theorem ties_map {f : Nat → Nat} {fl : List Bool} (hf : figOk f) (ws : List Int) : ∀ n, tiesS (namesF f fl) ws n = (tiesN ws n).map (pairF f fl) ∧ ∀ p ∈ tiesN ws n, lt4 p
  | 0 => ⟨rfl, fun _ h => nomatch h⟩
  | n + 1 => by
    obtain ⟨ih, ih2⟩ := ties_map hf ws n
    show tieStep (namesF f fl) ws (tiesS (namesF f fl) ws n) = (tieStepN ws (tiesN ws n)).map (pairF f fl) ∧ ∀ p ∈ tieStepN ws (tiesN ws n), lt4 p
    unfold tieStep tieStepN
    rw [ih, left_map hf ws ih2]
    generalize leftN ws (tiesN ws n) = l
    have h1 := one_lt l
    have h2 := other_lt l
    dsimp only
    split
    · refine ⟨?_, fun p hp => ?_⟩
      · rw [names_getD h1, names_getD h2, List.map_append]; rfl
      · rcases List.mem_append.mp hp with hp | hp
        · exact ih2 p hp
        · simp only [List.mem_cons, List.not_mem_nil, or_false] at hp
          rcases hp with rfl | rfl
          · exact ⟨h1, h2⟩
          · exact ⟨h2, h1⟩
    · exact ⟨rfl, ih2⟩
theorem run_congr2 {α : Type} {n : Nat} {b b' : Nat → Nat → Bool} (h : ∀ i j, i < n → j < n → b i j = b' i j) : ∀ t : KasT α, runOk b' n t = true → run b t = run b' t ∧ runOk b n t = true
  | .ret _, _ => ⟨rfl, rfl⟩
  | .ask i j k, ok => by
    simp only [runOk, Bool.and_eq_true, decide_eq_true_eq] at ok
    have e := h i j ok.1.1 ok.1.2
    have := run_congr2 h (k (b' i j)) ok.2
    refine ⟨?_, ?_⟩
    · unfold run; rw [e]; exact this.1
    · simp only [runOk, Bool.and_eq_true, decide_eq_true_eq]
      rw [e]
      exact ⟨ok.1, this.2⟩
theorem ltS_one (c d : Nat) : ltS (sL [c]) (sL [d]) = decide (c < d) := by
  unfold ltS
  rw [sL_eq, sL_eq]
  simp [List.cons_lt_cons_iff]
theorem lex_rank {f : Nat → Nat} {fl : List Bool} (hf : figOk f) {ks : List Nat} (hk : ∀ k ∈ ks, k < 4) {i j : Nat} (hi : i < ks.length) (hj : j < ks.length) :
    lexS ((ks.map (nameF f fl)).map lowP) i j = rankB ks i j := by
  have e : ∀ {i}, i < ks.length → ((ks.map (nameF f fl)).map lowP).getD i (Str.empty, Str.empty) = lowP (nameF f fl (ks.getD i 9)) ∧ ks.getD i 9 < 4 := by
    intro i hi
    refine ⟨?_, ?_⟩
    · rw [List.getD_eq_getElem?_getD, List.getElem?_map, List.getElem?_map, List.getD_eq_getElem?_getD, List.getElem?_eq_getElem hi]; rfl
    · rw [List.getD_eq_getElem?_getD, List.getElem?_eq_getElem hi]; exact hk _ (List.getElem_mem hi)
  unfold lexS rankB
  rw [(e hi).1, (e hj).1]
  have h1 := (e hi).2
  have h2 := (e hj).2
  generalize ks.getD i 9 = x at *
  generalize ks.getD j 9 = y at *
  unfold lowP
  dsimp only
  rw [low_name (hf.2 x h1), low_name (hf.2 y h2), ltS_one]
  by_cases h : x = y
  · subst h; simp
  · have h3 : ¬ sL [97 + f x] = sL [97 + f y] := fun he => h ((f_inj hf h1 h2).mp (by
      have : (sL [97 + f x] == sL [97 + f y]) = true := by rw [he]; simp
      rw [sL_beq] at this
      simp at this; omega))
    rw [if_neg h3]
    have := f_lt hf h1 h2
    by_cases h4 : x < y
    · simp [h4, this.mpr h4]
    · have h5 : ¬ f x < f y := fun e => h4 (this.mp e)
      simp [h4, h5]
end Mine
end
section
namespace Mine
/-- lev on counts alone, quick for the kernel -/
noncomputable def minN (a b : Nat) : Nat := cond (Nat.ble a b) a b
noncomputable def lowQ (c : Nat) : Nat := cond (Nat.ble 65 c) (cond (Nat.ble c 90) (c + 32) c) c
noncomputable def costN (c d : Nat) : Nat := cond (Nat.beq c d) 0 (cond (Nat.beq (lowQ c) (lowQ d)) 1 2)
noncomputable def innN (c : Nat) : List Nat → List Nat → Nat → Nat → Nat → (List Nat → Nat → Nat → Nat) → Nat
  | ai :: as, ro :: rs, d, r, m, k =>
    (fun r' => innN c as rs ro r' (minN r' m) (fun row => k (r' :: row))) (minN (minN r ro + 2) (d + costN c ai))
  | _, _, _, r, m, k => k [] r m
noncomputable def outN (a : List Nat) (mx : Nat) : List Nat → Nat → List Nat → Nat → Nat
  | [], _, _, r => r
  | c :: bs, i, row, _ => innN c a row (2 * i) (2 * i) 9223372036854775807 fun row2 r2 m2 => cond (Nat.ble m2 mx) (outN a mx bs (i + 1) row2 r2) (mx + 1)
noncomputable def row0N : Nat → Nat → List Nat
  | 0, _ => []
  | n + 1, k => k :: row0N n (k + 2)
noncomputable def coreN (a b : List Nat) (mx : Nat) : Nat :=
  match a with
  | [] => 2 * b.length
  | _ :: _ => match b with
    | [] => 2 * a.length
    | _ :: _ => cond (Nat.ble a.length b.length) (cond (Nat.ble ((b.length - a.length) * 2) mx) (outN a mx b 0 (row0N a.length 2) 0) (mx + 1)) (cond (Nat.ble ((a.length - b.length) * 2) mx) (outN b mx a 0 (row0N b.length 2) 0) (mx + 1))
noncomputable def stripN : List Nat → List Nat → List Nat × List Nat
  | c :: a, d :: b => cond (Nat.beq c d) (stripN a b) (c :: a, d :: b)
  | a, b => (a, b)
noncomputable def levN (x y : List Nat) (mx : Nat) : Nat :=
    let p := stripN x y
    let q := stripN p.1.reverse p.2.reverse
    coreN q.1.reverse q.2.reverse mx
theorem cond_beq {α : Type} (c d : Nat) (a b : α) : cond (Nat.beq c d) a b = if c = d then a else b := by
  by_cases h : c = d
  · subst h; simp
  · rw [if_neg h, show Nat.beq c d = false by cases e : Nat.beq c d with | false => rfl | true => exact absurd (Nat.eq_of_beq_eq_true e) h]; rfl
theorem cond_ble {α : Type} (c d : Nat) (a b : α) : cond (Nat.ble c d) a b = if c ≤ d then a else b := by
  by_cases h : c ≤ d
  · rw [if_pos h, Nat.ble_eq_true_of_le h]; rfl
  · rw [if_neg h, show Nat.ble c d = false by cases e : Nat.ble c d with | false => rfl | true => exact absurd (Nat.le_of_ble_eq_true e) h]; rfl
theorem min_N (a b : Nat) : ((minN a b : Nat) : Int) = min (a : Int) b := by
  unfold minN; rw [cond_ble]; split <;> omega
theorem lowQ_eq (c : Nat) : lowQ c = lowN c := by
  unfold lowQ lowN; rw [cond_ble, cond_ble]; (repeat' split) <;> omega
theorem cost_N (c d : Nat) : ((costN c d : Nat) : Int) = cost c d := by
  unfold costN cost; rw [cond_beq, cond_beq, lowQ_eq, lowQ_eq]; (repeat' split) <;> rfl
theorem strip_N : ∀ a b, stripN a b = stripPre a b
  | [], b => by unfold stripN stripPre; rfl
  | c :: a, [] => by unfold stripN stripPre; rfl
  | c :: a, d :: b => by
    unfold stripN stripPre
    rw [cond_beq, strip_N a b]
noncomputable def castL (l : List Nat) : List Int := l.map fun (n : Nat) => (n : Int)
theorem inn_N (c : Nat) : ∀ (as rs : List Nat) (d r m : Nat), ∃ row r2 m2, (∀ k, innN c as rs d r m k = k row r2 m2) ∧ innF c as (castL rs) d r m = (castL row, ((r2 : Nat) : Int), ((m2 : Nat) : Int))
  | [], rs, d, r, m => ⟨[], r, m, fun k => by unfold innN; rfl, by unfold innF; rfl⟩
  | a :: as, [], d, r, m => ⟨[], r, m, fun k => by unfold innN; rfl, by unfold innF; rfl⟩
  | a :: as, ro :: rs, d, r, m => by
    obtain ⟨row, r2, m2, h1, h2⟩ := inn_N c as rs ro (minN (minN r ro + 2) (d + costN c a)) (minN (minN (minN r ro + 2) (d + costN c a)) m)
    refine ⟨minN (minN r ro + 2) (d + costN c a) :: row, r2, m2, fun k => ?_, ?_⟩
    · unfold innN; exact h1 _
    · have e1 : min (min (r : Int) ro + 2) (d + cost c a) = ((minN (minN r ro + 2) (d + costN c a) : Nat) : Int) := by
        rw [min_N, ← cost_N, Int.natCast_add, min_N, Int.natCast_add]; rfl
      have e2 : (if ((minN (minN r ro + 2) (d + costN c a) : Nat) : Int) < (m : Int) then ((minN (minN r ro + 2) (d + costN c a) : Nat) : Int) else (m : Int)) = ((minN (minN (minN r ro + 2) (d + costN c a)) m : Nat) : Int) := by
        rw [min_N (minN (minN r ro + 2) (d + costN c a)) m]; split <;> omega
      show innF c (a :: as) ((ro : Int) :: castL rs) d r m = _
      unfold innF
      rw [e1]
      dsimp only
      rw [e2, h2]
      rfl
theorem out_N (a : List Nat) (mx : Nat) : ∀ (bs : List Nat) (i : Nat) (row : List Nat) (r : Nat), outF a (mx : Int) bs i (castL row) r = ((outN a mx bs i row r : Nat) : Int)
  | [], i, row, r => by unfold outF outN; rfl
  | c :: bs, i, row, r => by
    obtain ⟨row2, r2, m2, h1, h2⟩ := inn_N c a row (2 * i) (2 * i) 9223372036854775807
    unfold outF outN
    rw [h1, show (2 * (i : Int)) = ((2 * i : Nat) : Int) by omega, show big = ((9223372036854775807 : Nat) : Int) from rfl, h2, cond_ble]
    dsimp only
    rw [out_N a mx bs (i + 1) row2 r2]
    by_cases h : m2 ≤ mx
    · rw [if_pos h, if_neg (by omega)]
    · rw [if_neg h, if_pos (by omega)]; rfl
theorem row0_N : ∀ n k, castL (row0N n k) = (List.range n).map fun (i : Nat) => (k : Int) + 2 * (i : Int)
  | 0, _ => rfl
  | n + 1, k => by
    rw [List.range_succ_eq_map, List.map_cons, List.map_map]
    show (k : Int) :: castL (row0N n (k + 2)) = _
    rw [row0_N n (k + 2)]
    refine congr (congrArg List.cons (by simp)) (List.map_congr_left fun i _ => ?_)
    simp only [Function.comp]
    omega
theorem strip_self : ∀ x, stripPre x x = ([], [])
  | [] => rfl
  | c :: x => by unfold stripPre; rw [if_pos rfl]; exact strip_self x
theorem core_N (a b : List Nat) (mx : Nat) : core a b (mx : Int) = ((coreN a b mx : Nat) : Int) := by
  unfold core coreN
  cases a with
  | nil => simp
  | cons x a =>
    cases b with
    | nil => simp
    | cons y b =>
      rw [if_neg (by simp), cond_ble, cond_ble, cond_ble]
      have e : ∀ n, row0 n = castL (row0N n 2) := fun n => by rw [row0_N]; rfl
      by_cases h : (x :: a).length ≤ (y :: b).length
      · rw [if_pos h, if_neg (show ¬ (y :: b).length < (x :: a).length by omega)]
        dsimp only
        by_cases h2 : ((y :: b).length - (x :: a).length) * 2 ≤ mx
        · rw [if_pos h2, if_neg (by omega), e]
          exact out_N _ mx _ 0 _ 0
        · rw [if_neg h2, if_pos (by omega)]; rfl
      · rw [if_neg h, if_pos (show (y :: b).length < (x :: a).length by omega)]
        dsimp only
        by_cases h2 : ((x :: a).length - (y :: b).length) * 2 ≤ mx
        · rw [if_pos h2, if_neg (by omega), e]
          exact out_N _ mx _ 0 _ 0
        · rw [if_neg h2, if_pos (by omega)]; rfl
theorem lev_N (x y : List Nat) (mx : Nat) : lev x y (mx : Int) = ((levN x y mx : Nat) : Int) := by
  unfold lev levN
  by_cases h : x = y
  · subst h
    rw [if_pos rfl]
    dsimp only
    rw [strip_N x x, strip_self]
    rfl
  · rw [if_neg h]
    dsimp only
    rw [core_N, strip_N, strip_N]
    rfl
end Mine
end
section
namespace Mine
/-- lev sees its letters only through = and through lowN -/
noncomputable def good (φ : Nat → Nat) (x y : List Nat) : Prop := ∀ c ∈ x, ∀ d ∈ y, (φ c = φ d ↔ c = d) ∧ (lowN (φ c) = lowN (φ d) ↔ lowN c = lowN d)
theorem good.symm {φ : Nat → Nat} {x y : List Nat} (h : good φ x y) : good φ y x := fun c hc d hd => by
  have := h d hd c hc
  exact ⟨⟨fun e => (this.1.mp e.symm).symm, fun e => (this.1.mpr e.symm).symm⟩, ⟨fun e => (this.2.mp e.symm).symm, fun e => (this.2.mpr e.symm).symm⟩⟩
theorem good.sub {φ : Nat → Nat} {x y x' y' : List Nat} (h : good φ x y) (hx : ∀ c ∈ x', c ∈ x) (hy : ∀ d ∈ y', d ∈ y) : good φ x' y' := fun c hc d hd => h c (hx c hc) d (hy d hd)
theorem good_cost {φ : Nat → Nat} {c d : Nat} (h : (φ c = φ d ↔ c = d) ∧ (lowN (φ c) = lowN (φ d) ↔ lowN c = lowN d)) : cost (φ c) (φ d) = cost c d := by
  unfold cost; simp only [h.1, h.2]
theorem strip_map {φ : Nat → Nat} : ∀ x y, good φ x y → stripPre (x.map φ) (y.map φ) = ((stripPre x y).1.map φ, (stripPre x y).2.map φ)
  | [], y, _ => by unfold stripPre; rfl
  | c :: x, [], _ => by unfold stripPre; rfl
  | c :: x, d :: y, h => by
    have h1 := (h c (.head _) d (.head _)).1
    have ih := strip_map x y (h.sub (fun _ h => .tail _ h) (fun _ h => .tail _ h))
    rw [List.map_cons, List.map_cons]
    unfold stripPre
    by_cases e : c = d
    · rw [if_pos e, if_pos (h1.mpr e)]; exact ih
    · rw [if_neg e, if_neg (fun e2 => e (h1.mp e2))]; rfl
theorem strip_sub : ∀ x y, (∀ c ∈ (stripPre x y).1, c ∈ x) ∧ (∀ c ∈ (stripPre x y).2, c ∈ y)
  | [], y => by unfold stripPre; exact ⟨fun _ h => h, fun _ h => h⟩
  | c :: x, [] => by unfold stripPre; exact ⟨fun _ h => h, fun _ h => h⟩
  | c :: x, d :: y => by
    have ih := strip_sub x y
    unfold stripPre
    split
    · exact ⟨fun z h => .tail _ (ih.1 z h), fun z h => .tail _ (ih.2 z h)⟩
    · exact ⟨fun _ h => h, fun _ h => h⟩
theorem inn_map {φ : Nat → Nat} {c : Nat} : ∀ (as : List Nat) (rs : List Int) (d r m : Int), (∀ a ∈ as, cost (φ c) (φ a) = cost c a) → innF (φ c) (as.map φ) rs d r m = innF c as rs d r m
  | [], _, _, _, _, _ => by unfold innF; rfl
  | a :: as, [], _, _, _, _ => by unfold innF; rfl
  | a :: as, ro :: rs, d, r, m, h => by
    rw [List.map_cons]
    unfold innF
    rw [h a (.head _)]
    dsimp only
    rw [inn_map as rs _ _ _ fun x hx => h x (.tail _ hx)]
theorem out_map {φ : Nat → Nat} {a : List Nat} {mx : Int} : ∀ (bs : List Nat) (i : Nat) (row : List Int) (r : Int), (∀ b ∈ bs, ∀ x ∈ a, cost (φ b) (φ x) = cost b x) → outF (a.map φ) mx (bs.map φ) i row r = outF a mx bs i row r
  | [], _, _, _, _ => by unfold outF; rfl
  | b :: bs, i, row, r, h => by
    rw [List.map_cons]
    unfold outF
    rw [inn_map a row _ _ _ (h b (.head _))]
    dsimp only
    rw [out_map bs _ _ _ fun x hx => h x (.tail _ hx)]
theorem core_map {φ : Nat → Nat} {x y : List Nat} {mx : Int} (h : good φ x y) : core (x.map φ) (y.map φ) mx = core x y mx := by
  unfold core
  simp only [List.map_eq_nil_iff, List.length_map]
  by_cases e : x = [] ∨ y = []
  · rw [if_pos e, if_pos e]
  · rw [if_neg e, if_neg e]
    by_cases l : y.length < x.length
    · simp only [if_pos l, List.length_map]
      rw [out_map x _ _ _ fun b hb z hz => good_cost (h b hb z hz)]
    · simp only [if_neg l, List.length_map]
      rw [out_map y _ _ _ fun b hb z hz => good_cost (h.symm b hb z hz)]
theorem map_eq_good {φ : Nat → Nat} : ∀ x y, good φ x y → (x.map φ = y.map φ ↔ x = y)
  | [], [], _ => by simp
  | [], _ :: _, _ => by simp
  | _ :: _, [], _ => by simp
  | c :: x, d :: y, h => by
    have h1 := (h c (.head _) d (.head _)).1
    have ih := map_eq_good x y (h.sub (fun _ h => .tail _ h) (fun _ h => .tail _ h))
    rw [List.map_cons, List.map_cons, List.cons.injEq, List.cons.injEq, h1, ih]
theorem lev_map {φ : Nat → Nat} {x y : List Nat} {mx : Int} (h : good φ x y) : lev (x.map φ) (y.map φ) mx = lev x y mx := by
  unfold lev
  have e := map_eq_good x y h
  by_cases h1 : x = y
  · rw [if_pos h1, if_pos (e.mpr h1)]
  · rw [if_neg h1, if_neg (fun h2 => h1 (e.mp h2))]
    have s1 := strip_sub x y
    have g1 : good φ (stripPre x y).1 (stripPre x y).2 := h.sub s1.1 s1.2
    have s2 := strip_sub (stripPre x y).1.reverse (stripPre x y).2.reverse
    have g2 : good φ (stripPre x y).1.reverse (stripPre x y).2.reverse := g1.sub (fun c hc => List.mem_reverse.mp hc) (fun c hc => List.mem_reverse.mp hc)
    dsimp only
    rw [strip_map x y h]
    unfold stripSuf
    dsimp only
    rw [← List.map_reverse, ← List.map_reverse, strip_map _ _ g2]
    dsimp only
    rw [← List.map_reverse, ← List.map_reverse]
    exact core_map (g2.sub (fun c hc => s2.1 c (List.mem_reverse.mp hc)) (fun c hc => s2.2 c (List.mem_reverse.mp hc)))
end Mine
end
section
namespace Mine
open PySem PySem.Calls PySem.Builtin PyProof.Rows PySem.W
noncomputable def runQ {α : Type} (b : Nat → Nat → Bool) (n : Nat) : KasT α → Option α
  | .ret a => some a
  | .ask i j k => cond (Nat.blt i n) (cond (Nat.blt j n) (runQ b n (k (b i j))) none) none
theorem runQ_ok {α : Type} {b : Nat → Nat → Bool} {n : Nat} {a : α} : ∀ t : KasT α, runQ b n t = some a → runOk b n t = true ∧ run b t = a
  | .ret c, h => by
    unfold runQ at h
    exact ⟨rfl, Option.some.inj h⟩
  | .ask i j k, h => by
    unfold runQ at h
    cases h1 : Nat.blt i n with
    | false => rw [h1] at h; cases h
    | true =>
      cases h2 : Nat.blt j n with
      | false => rw [h1, h2] at h; cases h
      | true =>
        rw [h1, h2] at h
        have ih := runQ_ok (k (b i j)) h
        refine ⟨?_, ih.2⟩
        unfold runOk
        simp only [Bool.and_eq_true, decide_eq_true_eq]
        exact ⟨⟨Nat.le_of_ble_eq_true h1, Nat.le_of_ble_eq_true h2⟩, ih.1⟩
noncomputable def rankQ (ks : List Nat) (i j : Nat) : Bool := Nat.blt (ks.getD i 9) (ks.getD j 9)
noncomputable def sortQ (ks : List Nat) : Option (Array Nat) := runQ (rankQ ks) ks.length (kas_sort ks.length)
noncomputable def allLtQ (n : Nat) : List Nat → Bool
  | [] => true
  | k :: ks => cond (Nat.blt k n) (allLtQ n ks) false
noncomputable def eqQ : List Nat → List Nat → Bool
  | [], [] => true
  | a :: x, b :: y => cond (Nat.beq a b) (eqQ x y) false
  | _, _ => false
noncomputable def lenOk (n : Nat) : Bool := Nat.ble n 12 && !Nat.beq n 1
noncomputable def tableQ (ks vs : List Nat) : Bool :=
  match sortQ ks, sortQ vs with
  | some a, some b => allLtQ ks.length a.toList && allLtQ vs.length b.toList && lenOk ks.length && Nat.beq ks.length vs.length && lenOk a.toList.length && lenOk b.toList.length && eqQ (a.toList.map fun k => ks.getD k 0) (b.toList.map fun k => vs.getD k 0)
  | _, _ => false
noncomputable def allF (p : Bool → Bool → Bool → Bool → Bool) : Bool := p false false false false && p true false false false && p false true false false && p true true false false && p false false true false && p true false true false && p false true true false && p true true true false && p false false false true && p true false false true && p false true false true && p true true false true && p false false true true && p true false true true && p false true true true && p true true true true
theorem allF_all {p : Bool → Bool → Bool → Bool → Bool} (h : allF p = true) (a b c d : Bool) : p a b c d = true := by
  unfold allF at h
  simp only [Bool.and_eq_true] at h
  obtain ⟨⟨⟨⟨⟨⟨⟨⟨⟨⟨⟨⟨⟨⟨⟨h0, h1⟩, h2⟩, h3⟩, h4⟩, h5⟩, h6⟩, h7⟩, h8⟩, h9⟩, h10⟩, h11⟩, h12⟩, h13⟩, h14⟩, h15⟩ := h
  cases a <;> cases b <;> cases c <;> cases d <;> assumption
noncomputable def flagQ (a b c d : Bool) (k : Nat) : Bool := cond (Nat.ble k 1) (cond (Nat.beq k 0) a b) (cond (Nat.beq k 2) c d)
noncomputable def laidQ (fl : Nat → Bool) (S : List Nat) : List Nat := S.map fun k => cond (fl k) (97 + k) (65 + k)
noncomputable def lowsQ (fl : Nat → Bool) : List Nat → Nat
  | [] => 0
  | k :: S => cond (fl k) 1 0 + lowsQ fl S
noncomputable def upQ (W : List Nat) : List Nat := W.map fun k => 65 + k
noncomputable def maxN (a b : Nat) : Nat := cond (Nat.ble a b) b a
noncomputable def leftN4 (a b c d : Nat) : Nat := (fun n => maxN (n % 2) (2 * maxN (maxN a b) (maxN c d) - n)) (a + b + c + d)
noncomputable def tableF (S W : List Nat) (lo : Nat) (p q r s : Bool) : Bool :=
  (fun due => Nat.beq (levN (upQ W) (laidQ (flagQ p q r s) S) due) due) (2 * lo + lowsQ (flagQ p q r s) S)
noncomputable def tableH (W : List Nat) : Bool := (fun lack => Nat.beq (levN (upQ (odds W)) (upQ W) lack) lack) (2 * (W.length - (odds W).length))
noncomputable def tableW (a b c d : Nat) : Bool :=
  (fun ps : List (Nat × Nat) => (fun ks vs : List Nat => match sortQ ks, sortQ vs with
    | some x, some y => allLtQ ks.length x.toList && allLtQ vs.length y.toList && lenOk ks.length && Nat.beq ks.length vs.length && lenOk x.toList.length && lenOk y.toList.length && eqQ (x.toList.map fun k => ks.getD k 0) (y.toList.map fun k => vs.getD k 0) && allLtQ 4 (x.toList.map fun k => ks.getD k 0) && allF (tableF (x.toList.map fun k => ks.getD k 0) (reps [a, b, c, d]) (leftN4 a b c d))
    | _, _ => false) (ps.map (·.1)) (ps.map (·.2))) (tiesN (wsI [a, b, c, d]) 6) && tableH (reps [a, b, c, d])
theorem table_0 : ∀ b c d : Fin 4, tableW 0 b.val c.val d.val = true := by decide +kernel
theorem table_1 : ∀ b c d : Fin 4, tableW 1 b.val c.val d.val = true := by decide +kernel
theorem table_2 : ∀ b c d : Fin 4, tableW 2 b.val c.val d.val = true := by decide +kernel
theorem table_3 : ∀ b c d : Fin 4, tableW 3 b.val c.val d.val = true := by decide +kernel
noncomputable def qqq (n : Nat) : Bool := (fun far => Nat.beq (levN [81, 81, 81] (List.replicate n 65) far) far && Nat.blt (far - 1) (levN [81, 81, 81] (List.replicate n 65) (far - 1))) (2 * maxN 3 n)
theorem table_q : ∀ n : Fin 13, qqq n.val = true := by decide +kernel
end Mine
end
section
namespace Mine
open PySem PySem.Calls PySem.Builtin PyProof.Rows PySem.W
theorem table_all {a b c d : Nat} (ha : a < 4) (hb : b < 4) (hc : c < 4) (hd : d < 4) : tableW a b c d = true := by
  match a, ha with
  | 0, _ => exact table_0 ⟨b, hb⟩ ⟨c, hc⟩ ⟨d, hd⟩
  | 1, _ => exact table_1 ⟨b, hb⟩ ⟨c, hc⟩ ⟨d, hd⟩
  | 2, _ => exact table_2 ⟨b, hb⟩ ⟨c, hc⟩ ⟨d, hd⟩
  | 3, _ => exact table_3 ⟨b, hb⟩ ⟨c, hc⟩ ⟨d, hd⟩
theorem allLtQ_mem {n : Nat} : ∀ {l : List Nat}, allLtQ n l = true → ∀ k ∈ l, k < n
  | [], _ => fun _ h => nomatch h
  | k :: l, h => by
    unfold allLtQ at h
    cases h1 : Nat.blt k n with
    | false => rw [h1] at h; cases h
    | true =>
      rw [h1] at h
      exact List.forall_mem_cons.mpr ⟨Nat.le_of_ble_eq_true h1, allLtQ_mem h⟩
theorem eqQ_eq : ∀ {x y : List Nat}, eqQ x y = true → x = y
  | [], [], _ => rfl
  | [], _ :: _, h => by unfold eqQ at h; cases h
  | _ :: _, [], h => by unfold eqQ at h; cases h
  | a :: x, b :: y, h => by
    unfold eqQ at h
    cases h1 : Nat.beq a b with
    | false => rw [h1] at h; cases h
    | true =>
      rw [h1] at h
      rw [Nat.eq_of_beq_eq_true h1, eqQ_eq h]
theorem lenOk_le {n : Nat} (h : lenOk n = true) : n ≤ 12 ∧ n ≠ 1 := by
  unfold lenOk at h
  simp only [Bool.and_eq_true, Bool.not_eq_true'] at h
  refine ⟨Nat.le_of_ble_eq_true h.1, fun e => ?_⟩
  subst e
  exact absurd h.2 (by decide)
theorem rankQ_eq (ks : List Nat) (i j : Nat) : rankB ks i j = rankQ ks i j := by
  unfold rankB rankQ
  cases h : Nat.blt (ks.getD i 9) (ks.getD j 9) with
  | true => exact decide_eq_true (Nat.le_of_ble_eq_true h)
  | false => exact decide_eq_false fun e => by rw [show Nat.blt (ks.getD i 9) (ks.getD j 9) = true from Nat.ble_eq_true_of_le e] at h; cases h
/-- all that the kernel's tables say of the wishes a b c d -/
structure Laid (a b c d : Nat) (ks vs S : List Nat) : Prop where
  hk : ks = keysN [a, b, c, d]
  hv : vs = valsN [a, b, c, d]
  len : ks.length = vs.length
  le : ks.length ≤ 12
  ne : ks.length ≠ 1
  okk : runOk (rankB ks) ks.length (kas_sort ks.length) = true
  okv : runOk (rankB vs) vs.length (kas_sort vs.length) = true
  ltk : ∀ k ∈ sortN ks, k < ks.length
  ltv : ∀ k ∈ sortN vs, k < vs.length
  lnk : (sortN ks).length ≤ 12
  lnv : (sortN vs).length ≤ 12
  sk : sortK ks = S
  sv : sortK vs = S
  s4 : ∀ k ∈ S, k < 4
  tl : ∀ p q r s : Bool, tableF S (reps [a, b, c, d]) (leftN4 a b c d) p q r s = true
  th : tableH (reps [a, b, c, d]) = true
theorem laid_all {a b c d : Nat} (ha : a < 4) (hb : b < 4) (hc : c < 4) (hd : d < 4) : ∃ ks vs S, Laid a b c d ks vs S := by
  have h := table_all ha hb hc hd
  unfold tableW at h
  rw [Bool.and_eq_true] at h
  obtain ⟨h, hh⟩ := h
  dsimp only at h
  show ∃ ks vs S, Laid a b c d ks vs S
  have e1 : (tiesN (wsI [a, b, c, d]) 6).map (·.1) = keysN [a, b, c, d] := rfl
  have e2 : (tiesN (wsI [a, b, c, d]) 6).map (·.2) = valsN [a, b, c, d] := rfl
  rw [e1, e2] at h
  generalize hks : keysN [a, b, c, d] = ks at h
  generalize hvs : valsN [a, b, c, d] = vs at h
  cases hx : sortQ ks with
  | none => rw [hx] at h; cases h
  | some x =>
    cases hy : sortQ vs with
    | none => rw [hx, hy] at h; cases h
    | some y =>
      rw [hx, hy] at h
      dsimp only at h
      simp only [Bool.and_eq_true] at h
      obtain ⟨⟨⟨⟨⟨⟨⟨⟨h1, h2⟩, h3⟩, h4⟩, h5⟩, h6⟩, h7⟩, h8⟩, h9⟩ := h
      have rx := runQ_ok _ hx
      have ry := runQ_ok _ hy
      have ex : rankB ks = rankQ ks := funext fun i => funext fun j => rankQ_eq ks i j
      have ey : rankB vs = rankQ vs := funext fun i => funext fun j => rankQ_eq vs i j
      have sx : sortN ks = x.toList := by unfold sortN; rw [ex, rx.2]
      have sy : sortN vs = y.toList := by unfold sortN; rw [ey, ry.2]
      refine ⟨ks, vs, x.toList.map fun k => ks.getD k 0, ⟨hks.symm, hvs.symm, Nat.eq_of_beq_eq_true h4, (lenOk_le h3).1, (lenOk_le h3).2, by rw [ex]; exact rx.1, by rw [ey]; exact ry.1, ?_, ?_, ?_, ?_, ?_, ?_, allLtQ_mem h8, fun p q r s => allF_all h9 p q r s, hh⟩⟩
      · rw [sx]; exact allLtQ_mem h1
      · rw [sy]; exact allLtQ_mem h2
      · rw [sx]; exact (lenOk_le h5).1
      · rw [sy]; exact (lenOk_le h6).1
      · unfold sortK; rw [sx]
      · unfold sortK; rw [sy]; exact (eqQ_eq h7).symm
end Mine
end
section
namespace Mine
open PySem PySem.Calls PySem.Builtin PyProof.Rows PySem.W
theorem join_ones (g : Nat → Nat) (l : List Nat) : PySem.Txt.join (Str.ofString "") (l.map fun k => sL [g k]) = sL (l.map g) := by
  have e0 : (Str.ofString "").cps = #[] := by decide +kernel
  have key : ∀ (l : List Nat) (acc : Array Nat), (l.map fun k => sL [g k]).foldl (fun acc p => acc ++ (Str.ofString "").cps ++ p.cps) acc = acc ++ (l.map g).toArray := by
    intro l
    induction l with
    | nil => intro acc; simp
    | cons k l ih =>
      intro acc
      rw [List.map_cons, List.foldl_cons, ih, e0, sL_eq]
      simp
  unfold PySem.Txt.join PySem.Builtin.Str.glued
  cases l with
  | nil => rw [sL_eq]; rfl
  | cons k l =>
    simp only [List.map_cons, List.headD_cons, List.drop_succ_cons, List.drop_zero]
    rw [key, sL_eq, sL_eq]
    simp
theorem reps_lt {a b c d : Nat} : ∀ k ∈ reps [a, b, c, d], k < 4 := by
  intro k hk
  unfold reps at hk
  simp only [List.mem_append, List.mem_replicate] at hk
  omega
theorem flagQ_getD (p q r s : Bool) {k : Nat} (hk : k < 4) : flagQ p q r s k = [p, q, r, s].getD k false := by
  match k, hk with
  | 0, _ => rfl
  | 1, _ => rfl
  | 2, _ => rfl
  | 3, _ => rfl
noncomputable def phi (f : Nat → Nat) (c : Nat) : Nat := if c < 97 then 65 + f (c - 65) else 97 + f (c - 97)
theorem phi_up {f : Nat → Nat} {k : Nat} (hk : k < 4) : phi f (65 + k) = 65 + f k := by
  unfold phi; rw [if_pos (by omega), show 65 + k - 65 = k by omega]
theorem phi_low {f : Nat → Nat} {k : Nat} : phi f (97 + k) = 97 + f k := by
  unfold phi; rw [if_neg (by omega), show 97 + k - 97 = k by omega]
theorem lowN_up {k : Nat} (hk : k ≤ 15) : lowN (65 + k) = 97 + k := by unfold lowN; rw [if_pos (by omega)]; omega
theorem lowN_low {k : Nat} (hk : k ≤ 15) : lowN (97 + k) = 97 + k := by unfold lowN; rw [if_neg (by omega)]
theorem good_phi {f : Nat → Nat} (hf : figOk f) (fl : Nat → Bool) {W S : List Nat} (hW : ∀ k ∈ W, k < 4) (hS : ∀ k ∈ S, k < 4) : good (phi f) (upQ W) (laidQ fl S) := by
  intro c hc d hd
  obtain ⟨i, hi, rfl⟩ := List.mem_map.mp hc
  obtain ⟨j, hj, rfl⟩ := List.mem_map.mp hd
  have h1 := hW i hi
  have h2 := hS j hj
  have b1 := hf.2 i h1
  have b2 := hf.2 j h2
  have hij := f_inj hf h1 h2
  cases fl j with
  | true =>
    simp only [cond_true]
    rw [phi_up h1, phi_low, lowN_up b1, lowN_low b2, lowN_up (by omega), lowN_low (by omega)]
    constructor
    · omega
    · constructor
      · intro e; have := hij.mp (by omega); omega
      · intro e; have := hij.mpr (by omega); omega
  | false =>
    simp only [cond_false]
    rw [phi_up h1, phi_up h2, lowN_up b1, lowN_up b2, lowN_up (by omega), lowN_up (by omega)]
    constructor
    · constructor
      · intro e; have := hij.mp (by omega); omega
      · intro e; have := hij.mpr (by omega); omega
    · constructor
      · intro e; have := hij.mp (by omega); omega
      · intro e; have := hij.mpr (by omega); omega
theorem up_phi {f : Nat → Nat} {W : List Nat} (hW : ∀ k ∈ W, k < 4) : (upQ W).map (phi f) = W.map fun k => 65 + f k := by
  unfold upQ
  rw [List.map_map]
  exact List.map_congr_left fun k hk => phi_up (hW k hk)
theorem laid_phi {f : Nat → Nat} {p q r s : Bool} {S : List Nat} (hS : ∀ k ∈ S, k < 4) : (laidQ (flagQ p q r s) S).map (phi f) = S.map (chrF f [p, q, r, s]) := by
  unfold laidQ
  rw [List.map_map]
  refine List.map_congr_left fun k hk => ?_
  unfold chrF
  rw [← flagQ_getD p q r s (hS k hk)]
  simp only [Function.comp]
  cases flagQ p q r s k with
  | true => exact phi_low
  | false => exact phi_up (hS k hk)
section
variable {a b c d : Nat} {ks vs S : List Nat} {f : Nat → Nat} {p q r s : Bool}
theorem laid_lev (h : Laid a b c d ks vs S) (hf : figOk f) :
    lev ((reps [a, b, c, d]).map fun k => 65 + f k) (S.map (chrF f [p, q, r, s])) ((2 * leftN4 a b c d + lowsQ (flagQ p q r s) S : Nat) : Int) = ((2 * leftN4 a b c d + lowsQ (flagQ p q r s) S : Nat) : Int) := by
  have h1 := h.tl p q r s
  unfold tableF at h1
  have h2 := Nat.eq_of_beq_eq_true h1
  rw [← up_phi reps_lt, ← laid_phi h.s4, lev_map (good_phi hf _ reps_lt h.s4), lev_N, h2]
theorem laid_half (h : Laid a b c d ks vs S) (hf : figOk f) :
    lev ((odds (reps [a, b, c, d])).map fun k => 65 + f k) ((reps [a, b, c, d]).map fun k => 65 + f k) ((2 * ((reps [a, b, c, d]).length - (odds (reps [a, b, c, d])).length) : Nat) : Int) = ((2 * ((reps [a, b, c, d]).length - (odds (reps [a, b, c, d])).length) : Nat) : Int) := by
  have h1 := h.th
  unfold tableH at h1
  have h2 := Nat.eq_of_beq_eq_true h1
  have ho : ∀ k ∈ odds (reps [a, b, c, d]), k < 4 := by
    have : ∀ (l : List Nat), ∀ k ∈ odds l, k ∈ l := by
      intro l
      induction l using odds.induct with
      | case1 x y l ih =>
        intro k hk
        unfold odds at hk
        rcases List.mem_cons.mp hk with rfl | hk
        · simp
        · simp [ih k hk]
      | case2 l hne =>
        intro k hk
        unfold odds at hk
        split at hk
        · exact absurd rfl (hne _ _ _)
        · cases hk
    exact fun k hk => reps_lt k (this _ k hk)
  have e : laidQ (fun _ => false) (reps [a, b, c, d]) = upQ (reps [a, b, c, d]) := rfl
  have g := good_phi hf (fun _ => false) ho (reps_lt (a := a) (b := b) (c := c) (d := d))
  rw [e] at g
  rw [← up_phi reps_lt, ← up_phi ho, lev_map g, lev_N, h2]
end
theorem lev_q {l : List Nat} (hl : l.length ≤ 12) (h : ∀ c ∈ l, 65 ≤ c ∧ c ≤ 80) :
    lev [81, 81, 81] l ((2 * maxN 3 l.length : Nat) : Int) = ((2 * maxN 3 l.length : Nat) : Int) ∧ ((2 * maxN 3 l.length - 1 : Nat) : Int) < lev [81, 81, 81] l ((2 * maxN 3 l.length - 1 : Nat) : Int) := by
  have h1 := table_q ⟨l.length, by omega⟩
  unfold qqq at h1
  simp only [Bool.and_eq_true] at h1
  have h2 := Nat.eq_of_beq_eq_true h1.1
  have h3 : 2 * maxN 3 l.length - 1 < levN [81, 81, 81] (List.replicate l.length 65) (2 * maxN 3 l.length - 1) := Nat.le_of_ble_eq_true h1.2
  have e1 : [81, 81, 81].map (fun c => if c = 81 then 81 else 65) = [81, 81, 81] := rfl
  have e2 : l.map (fun c => if c = 81 then 81 else 65) = List.replicate l.length 65 := by
    rw [List.eq_replicate_iff]
    refine ⟨List.length_map .., fun x hx => ?_⟩
    obtain ⟨c, hc, rfl⟩ := List.mem_map.mp hx
    have := h c hc
    rw [if_neg (by omega)]
  have g : good (fun c => if c = 81 then 81 else 65) [81, 81, 81] l := by
    intro c hc d hd
    have hd2 := h d hd
    have hc2 : c = 81 := by simpa using hc
    subst hc2
    dsimp only
    rw [if_pos rfl, if_neg (show ¬ d = 81 by omega)]
    refine ⟨⟨fun e => by omega, fun e => by omega⟩, ?_⟩
    unfold lowN
    (repeat' split) <;> omega
  have m1 := fun mx : Nat => lev_map (mx := (mx : Int)) g
  rw [e1, e2] at m1
  rw [← m1, ← m1, lev_N, lev_N, h2]
  exact ⟨rfl, by omega⟩
end Mine
end
section
namespace Mine
open PySem PySem.Calls PySem.Builtin PyProof.Rows PySem.W
theorem order_of {f : Nat → Nat} {fl : List Bool} (hf : figOk f) {ks S : List Nat} (hk : ∀ k ∈ ks, k < 4) (okk : runOk (rankB ks) ks.length (kas_sort ks.length) = true) (ltk : ∀ k ∈ sortN ks, k < ks.length) (lnk : (sortN ks).length ≤ 12) (sk : sortK ks = S) :
    let SS := ks.map (nameF f fl)
    runOk (lexS (SS.map lowP)) SS.length (kas_sort SS.length) = true ∧ (∀ k ∈ (run (lexS (SS.map lowP)) (kas_sort SS.length)).toList, k < SS.length) ∧ (run (lexS (SS.map lowP)) (kas_sort SS.length)).toList.length ≤ 12 ∧
    PySem.Txt.join (Str.ofString "") ((run (lexS (SS.map lowP)) (kas_sort SS.length)).toList.map fun k => SS.getD k Str.empty) = sL (S.map (chrF f fl)) := by
  intro SS
  have e : SS.length = ks.length := List.length_map ..
  have c := run_congr2 (b := lexS (SS.map lowP)) (fun i j hi hj => lex_rank (fl := fl) hf hk hi hj) (kas_sort ks.length) okk
  have e2 : run (lexS (SS.map lowP)) (kas_sort ks.length) = run (rankB ks) (kas_sort ks.length) := c.1
  have e3 : (run (rankB ks) (kas_sort ks.length)).toList = sortN ks := rfl
  rw [e, e2, e3]
  refine ⟨c.2, ltk, lnk, ?_⟩
  have e4 : (sortN ks).map (fun k => SS.getD k Str.empty) = S.map fun k => sL [chrF f fl k] := by
    rw [← sk]
    unfold sortK
    rw [List.map_map]
    refine List.map_congr_left fun k hk2 => ?_
    have h1 := ltk k hk2
    rw [List.getD_eq_getElem?_getD, List.getElem?_map, List.getElem?_eq_getElem h1]
    simp only [Function.comp]
    rw [List.getD_eq_getElem?_getD, List.getElem?_eq_getElem h1]
    rfl
  rw [e4]
  exact join_ones _ _
theorem keys_of {f : Nat → Nat} {fl : List Bool} (hf : figOk f) (ws : List Nat) : (tiesS (namesF f fl) (wsI ws) 6).map (·.1) = (keysN ws).map (nameF f fl) ∧ (tiesS (namesF f fl) (wsI ws) 6).map (·.2) = (valsN ws).map (nameF f fl) ∧ (∀ k ∈ keysN ws, k < 4) ∧ (∀ k ∈ valsN ws, k < 4) := by
  obtain ⟨h, h4⟩ := ties_map (fl := fl) hf (wsI ws) 6
  rw [h]
  unfold keysN valsN
  refine ⟨by rw [List.map_map, List.map_map]; rfl, by rw [List.map_map, List.map_map]; rfl, fun k hk => ?_, fun k hk => ?_⟩
  · obtain ⟨p, hp, rfl⟩ := List.mem_map.mp hk; exact (h4 p hp).1
  · obtain ⟨p, hp, rfl⟩ := List.mem_map.mp hk; exact (h4 p hp).2
theorem name_okc {f : Nat → Nat} {fl : List Bool} {k : Nat} (h : f k ≤ 15) : okc (chrF f fl k) = true := by
  unfold okc chrF
  split <;> simp <;> omega
theorem name_ok {f : Nat → Nat} {fl : List Bool} {k : Nat} (h : f k ≤ 15) : okS (nameF f fl k) := okS_one (name_okc h)
end Mine
end
section
namespace Mine
open PySem PySem.Calls PySem.Builtin PyProof.Rows PySem.W
noncomputable def figA (A B k : Nat) : Nat := 1 + A + k * (1 + B)
theorem figA_ok {A B : Nat} (hA : A ≤ 2) (hB : B ≤ 3) : figOk (figA A B) := by
  refine ⟨fun i j _ _ h => ?_, fun i h => ?_⟩
  · have := Nat.mul_lt_mul_of_pos_right h (show 0 < 1 + B by omega)
    unfold figA; omega
  · have := Nat.mul_le_mul (show i ≤ 3 by omega) (show 1 + B ≤ 4 by omega)
    unfold figA; omega
theorem figA_int {x y : Int} (hx : 0 ≤ x) (hy : 0 ≤ y) (k : Nat) : 1 + x + (0 + (k : Int)) * (1 + y) = ((figA x.toNat y.toNat k : Nat) : Int) := by
  obtain ⟨a, rfl⟩ := Int.eq_ofNat_of_zero_le hx
  obtain ⟨b, rfl⟩ := Int.eq_ofNat_of_zero_le hy
  unfold figA
  rw [Int.zero_add]
  simp
noncomputable def figsN (f : Nat → Nat) (ws : List Nat) (j : Nat) : List Nat := ((List.range j).map fun k => List.replicate (ws.getD k 0) (f k)).flatten
theorem figs_succ (f : Nat → Nat) (ws : List Nat) (j : Nat) : figsN f ws (j + 1) = figsN f ws j ++ List.replicate (ws.getD j 0) (f j) := by
  unfold figsN
  rw [List.range_succ, List.map_append, List.flatten_append]
  simp
theorem figs_four (f : Nat → Nat) (ws : List Nat) : figsN f ws 4 = (reps ws).map f := by
  unfold figsN reps
  simp [List.range_succ]
theorem figs_len {f : Nat → Nat} {ws : List Nat} (h : ∀ k, ws.getD k 0 ≤ 3) : ∀ j, (figsN f ws j).length ≤ 3 * j
  | 0 => by simp [figsN]
  | j + 1 => by
    rw [figs_succ, List.length_append, List.length_replicate]
    have := figs_len (f := f) h j
    have := h j
    omega
noncomputable def wsT (ts : List (Int × Int)) : List Nat := ts.map fun t => t.1.toNat
noncomputable def flT (ts : List (Int × Int)) : List Bool := ts.map fun t => decide (t.2 = 1)
theorem wsT_at {ts : List (Int × Int)} {j : Nat} {x y : Int} (h : ts[j]? = some (x, y)) : (wsT ts).getD j 0 = x.toNat := by
  unfold wsT; rw [List.getD_eq_getElem?_getD, List.getElem?_map, h]; rfl
theorem flT_at {ts : List (Int × Int)} {j : Nat} {x y : Int} (h : ts[j]? = some (x, y)) : (flT ts).getD j false = decide (y = 1) := by
  unfold flT; rw [List.getD_eq_getElem?_getD, List.getElem?_map, h]; rfl
theorem wsT_le {ts : List (Int × Int)} (h : ∀ t ∈ ts, okG t) (k : Nat) : (wsT ts).getD k 0 ≤ 3 := by
  unfold wsT
  rw [List.getD_eq_getElem?_getD, List.getElem?_map]
  cases e : ts[k]? with
  | none => simp
  | some t => have := h t (List.mem_of_getElem? e); unfold okG at this; simp; omega
theorem wsI_T {ts : List (Int × Int)} (h : ∀ t ∈ ts, okG t) : wsI (wsT ts) = ts.map (·.1) := by
  unfold wsI wsT
  rw [List.map_map]
  refine List.map_congr_left fun t ht => ?_
  have := h t ht
  unfold okG at this
  simp only [Function.comp]
  omega
theorem name_low {f : Nat → Nat} {fl : List Bool} {j : Nat} (hf : f j ≤ 15) (h : fl.getD j false = true) : lowS (sL [65 + f j]) = nameF f fl j := by
  unfold nameF chrF
  rw [lowS_one, lowN_up hf, if_pos h]
theorem name_up {f : Nat → Nat} {fl : List Bool} {j : Nat} (h : fl.getD j false = false) : sL [65 + f j] = nameF f fl j := by
  unfold nameF chrF
  rw [if_neg (by rw [h]; decide)]
theorem names_next (f : Nat → Nat) (fl : List Bool) {j : Nat} (h : j < 4) : (namesF f fl).take (j + 1) = (namesF f fl).take j ++ [nameF f fl j] := by
  refine take_next ?_
  match j, h with
  | 0, _ => rfl
  | 1, _ => rfl
  | 2, _ => rfl
  | 3, _ => rfl
theorem figs_next {f : Nat → Nat} {ws : List Nat} {j n : Nat} {fvs vs : List Value} {ms : List Int} (h : IntsAre fvs ((figsN f ws j).map fun (n : Nat) => (n : Int))) (h2 : IntsAre vs ms) (e : ms = List.replicate n ((f j : Nat) : Int)) (hn : ws.getD j 0 = n) :
    IntsAre (fvs ++ vs) ((figsN f ws (j + 1)).map fun (n : Nat) => (n : Int)) := by
  rw [figs_succ, List.map_append, List.map_replicate, hn, ← e]
  exact h.append h2
end Mine
namespace Mine
/-- the k-th summand of the number: the digit at place k -/
noncomputable def digI (fg : List Nat) (k : Nat) : Int := (fg.map fun (n : Nat) => (n : Int)).getD (-1 - (0 + (k : Int)) + (fg.map fun (n : Nat) => (n : Int)).length).toNat 0 * 16 ^ (0 + (k : Int)).toNat
end Mine
namespace Mine
theorem figs_le {f : Nat → Nat} {ts : List (Int × Int)} (hf : figOk f) {j : Nat} (hj : j ≤ 4) : ∀ x ∈ figsN f (wsT ts) j, 1 ≤ x + 1 ∧ x ≤ 15 := by
  intro x hx
  unfold figsN at hx
  obtain ⟨l, hl, hx⟩ := List.mem_flatten.mp hx
  obtain ⟨k, hk, rfl⟩ := List.mem_map.mp hl
  have := hf.2 k (by have := List.mem_range.mp hk; omega)
  rw [(List.mem_replicate.mp hx).2]
  omega
theorem getD_le {l : List Nat} (h : ∀ x ∈ l, 1 ≤ x + 1 ∧ x ≤ 15) (i : Nat) : 0 ≤ (l.map fun (n : Nat) => (n : Int)).getD i 0 ∧ (l.map fun (n : Nat) => (n : Int)).getD i 0 ≤ 15 := by
  rw [List.getD_eq_getElem?_getD, List.getElem?_map]
  cases e : l[i]? with
  | none => simp
  | some x => have := (h x (List.mem_of_getElem? e)).2; simp; omega
end Mine
namespace Mine
open PySem PySem.Calls PySem.Builtin PyProof.Rows PySem.W
theorem names_ok {f : Nat → Nat} {fl : List Bool} (hf : figOk f) : ∀ n ∈ namesF f fl, okS n := by
  intro n hn
  unfold namesF at hn
  simp only [List.mem_cons, List.not_mem_nil, or_false] at hn
  rcases hn with rfl | rfl | rfl | rfl
  · exact name_ok (hf.2 0 (by omega))
  · exact name_ok (hf.2 1 (by omega))
  · exact name_ok (hf.2 2 (by omega))
  · exact name_ok (hf.2 3 (by omega))
theorem one_len (c : Nat) : (sL [c]).length ≤ 10 := by rw [sL_len]; simp
end Mine
end
section
namespace Mine
open PySem PySem.Calls PySem.Builtin PyProof.Rows PySem.W
/-- digits, the lowest first -/
noncomputable def numR : List Nat → Nat
  | [] => 0
  | d :: r => 16 * numR r + d
theorem numR_lt : ∀ {r : List Nat}, (∀ x ∈ r, x ≤ 15) → numR r < 16 ^ r.length
  | [], _ => by simp [numR]
  | d :: r, h => by
    have ih := numR_lt (r := r) fun x hx => h x (.tail _ hx)
    have hd := h d (.head _)
    rw [List.length_cons, Nat.pow_succ]
    show 16 * numR r + d < _
    omega
theorem numR_pos {d : Nat} {r : List Nat} (hd : 1 ≤ d) : numR (d :: r) ≠ 0 := by show 16 * numR r + d ≠ 0; omega
theorem apL_num : ∀ (r : List Nat) (fuel : Nat), (∀ x ∈ r, 1 ≤ x ∧ x ≤ 15) → r.length ≤ fuel → apL fuel (numR r) = r.reverse.map fun d => (65 + d).toUInt8
  | [], fuel, _, _ => by cases fuel <;> simp [apL, numR]
  | d :: r, 0, _, hl => by simp at hl
  | d :: r, fuel + 1, h, hl => by
    have hd := h d (.head _)
    have ih := apL_num r fuel (fun x hx => h x (.tail _ hx)) (by simpa using hl)
    have e1 : numR (d :: r) / 16 = numR r := by show (16 * numR r + d) / 16 = numR r; omega
    have e2 : numR (d :: r) % 16 = d := by show (16 * numR r + d) % 16 = d; omega
    have e3 := numR_pos (r := r) hd.1
    unfold apL
    rw [if_neg e3, e1, e2, ih, List.reverse_cons, List.map_append]
    rfl
theorem sum_num : ∀ (r : List Nat), ((List.range r.length).map fun k => ((r.getD k 0 : Nat) : Int) * 16 ^ k).sum = ((numR r : Nat) : Int)
  | [] => rfl
  | d :: r => by
    have ih := sum_num r
    rw [List.length_cons, List.range_succ_eq_map, List.map_cons, List.sum_cons, List.map_map]
    have e : (List.range r.length).map ((fun k => (((d :: r).getD k 0 : Nat) : Int) * 16 ^ k) ∘ Nat.succ) = (List.range r.length).map fun k => 16 * (((r.getD k 0 : Nat) : Int) * 16 ^ k) := by
      refine List.map_congr_left fun k _ => ?_
      simp only [Function.comp, List.getD_cons_succ]
      rw [Int.pow_succ]
      rw [← Int.mul_assoc, Int.mul_comm _ (16 : Int), Int.mul_left_comm]
      skip
    have e2 : ∀ l : List Nat, (l.map fun k => 16 * (((r.getD k 0 : Nat) : Int) * 16 ^ k)).sum = 16 * (l.map fun k => ((r.getD k 0 : Nat) : Int) * 16 ^ k).sum := by
      intro l
      induction l with
      | nil => rfl
      | cons k l ih => rw [List.map_cons, List.sum_cons, List.map_cons, List.sum_cons, ih, Int.mul_add]
    rw [e, e2, ih]
    show _ = ((16 * numR r + d : Nat) : Int)
    simp
    omega
theorem dig_sum (fg : List Nat) : ((List.range fg.length).map (digI fg)).sum = ((numR fg.reverse : Nat) : Int) := by
  rw [← sum_num, List.length_reverse]
  refine congrArg List.sum (List.map_congr_left fun k hk => ?_)
  have hk2 := List.mem_range.mp hk
  unfold digI
  rw [List.length_map, show (-1 - (0 + (k : Int)) + (fg.length : Int)).toNat = fg.length - 1 - k by omega, show (0 + (k : Int)).toNat = k by omega]
  congr 1
  rw [List.getD_eq_getElem?_getD, List.getElem?_map, List.getD_eq_getElem?_getD, List.getElem?_reverse hk2, List.getElem?_eq_getElem (show fg.length - 1 - k < fg.length by omega)]
  rfl
theorem ap_figs {fg : List Nat} (h : ∀ x ∈ fg, 1 ≤ x ∧ x ≤ 15) (hl : fg.length ≤ 12) {pool : Int} :
    apA ((1 - 2 * pool.fmod 2) * ((List.range fg.length).map (digI fg)).sum).natAbs = (fg.map fun d => (65 + d).toUInt8).toArray ∧ ((1 - 2 * pool.fmod 2) * ((List.range fg.length).map (digI fg)).sum).natAbs < 2 ^ 62 := by
  have e : ((1 - 2 * pool.fmod 2) * ((List.range fg.length).map (digI fg)).sum).natAbs = numR fg.reverse := by
    rw [dig_sum, Int.natAbs_mul]
    have : (1 - 2 * pool.fmod 2).natAbs = 1 := by
      have := Int.fmod_eq_emod_of_nonneg pool (show (0 : Int) ≤ 2 by decide)
      rw [this]; omega
    rw [this, Nat.one_mul]; rfl
  rw [e]
  have hr : ∀ x ∈ fg.reverse, 1 ≤ x ∧ x ≤ 15 := fun x hx => h x (List.mem_reverse.mp hx)
  refine ⟨?_, ?_⟩
  · unfold apA
    rw [apL_num _ 20 hr (by rw [List.length_reverse]; omega), List.reverse_reverse]
  · have h1 := numR_lt (r := fg.reverse) fun x hx => (hr x hx).2
    have h2 : 16 ^ fg.reverse.length ≤ 16 ^ 12 := Nat.pow_le_pow_right (by decide) (by rw [List.length_reverse]; exact hl)
    exact Nat.lt_of_lt_of_le h1 (Nat.le_trans h2 (by decide))
theorem figs_pos {A B : Nat} {ws : List Nat} {j : Nat} : ∀ x ∈ figsN (figA A B) ws j, 1 ≤ x := by
  intro x hx
  unfold figsN at hx
  obtain ⟨l, hl, hx⟩ := List.mem_flatten.mp hx
  obtain ⟨k, hk, rfl⟩ := List.mem_map.mp hl
  rw [(List.mem_replicate.mp hx).2]
  unfold figA; omega
end Mine
end
section
namespace Mine
open PySem PySem.Calls PySem.Builtin PySem.Builtin.Str PyProof.Rows PySem.W PyProof
theorem nil_entry {t : Tok} : Builtin.«bytes.decode» ⟨[.bytes #[] t], []⟩ = (rule "bytes.decode.empty" >>= fun _ => mkStr Str.empty >>= fun v => ret v) := by kernel_rfl
theorem nil_meets {t : Tok} : Meets (Builtin.«bytes.decode» ⟨[.bytes #[] t], []⟩) (fun _ R s => ∀ t' k, R (.ok (.ret (.str Str.empty t'))) { s with toks := k }) := by
  refine .of_wp fun prog w A R s h => ?_
  rw [nil_entry]
  refine wpAny_bind (wpAny_rule ?_)
  exact wpAny_bind (wpAny_mkStr (wpAny_pure ⟨_, rfl, h _ _⟩) (by decide))
theorem nil_decode {prog : Program} {w : World} {A : Around} {E : Value → Shared → Prop} {s : Shared} {t : Tok} {Q : Value → Shared → Prop}
    (h : ∀ t' k, Q (.str (sL []) t') { s with toks := k }) : wpAny (model prog w) A (call (.builtin "bytes.decode") [.bytes #[] t]) Q E s := by
  have e : sL [] = Str.empty := by rw [sL_eq]; rfl
  rw [e] at h
  exact call_meets FB.slot_bytes_decode (typeIs_bytes _ _ _) FB.entry_bytes_decode (FB.args_bytes_decode_1 _) nil_meets h
end Mine
namespace Mine
open PySem PySem.Calls PySem.Builtin PySem.Builtin.Str PyProof.Rows PySem.W PyProof
theorem decode_figs {fg : List Nat} (h : ∀ x ∈ fg, x ≤ 15) (hl : fg.length ≤ 12) {prog : Program} {w : World} {A : Around} {E : Value → Shared → Prop} {s : Shared} {t : Tok} {Q : Value → Shared → Prop}
    (hQ : ∀ t' k, Q (.str (sL (fg.map fun d => 65 + d)) t') { s with toks := k }) : wpAny (model prog w) A (call (.builtin "bytes.decode") [.bytes (fg.map fun d => (65 + d).toUInt8).toArray t]) Q E s := by
  cases fg with
  | nil => exact nil_decode hQ
  | cons x r =>
    have e : ((x :: r).map fun d => (65 + d).toUInt8).toArray.toList.map UInt8.toNat = (x :: r).map fun d => 65 + d := by
      rw [List.toList_toArray, List.map_map]
      refine List.map_congr_left fun d hd => ?_
      have := h d hd
      simp only [Function.comp]
      show (UInt8.ofNat (65 + d)).toNat = 65 + d
      rw [UInt8.toNat_ofNat']
      omega
    refine ascii_decode e (by simp) (fun c hc => ?_) (by rw [List.length_map]; omega) hQ
    obtain ⟨d, hd, rfl⟩ := List.mem_map.mp hc
    have := h d hd
    omega
end Mine
end
section
namespace Mine
open PySem PySem.Calls PySem.Builtin PyProof.Rows PySem.W
theorem max_N (a b : Nat) : ((maxN a b : Nat) : Int) = max (a : Int) b := by
  unfold maxN; rw [cond_ble]; split <;> omega
theorem left_N {a b c d n : Nat} {M : Int} (hn : n = a + b + c + d) (hM : M ∈ [(a : Int), (b : Int), (c : Int), (d : Int)]) (hle : ∀ x ∈ [(a : Int), (b : Int), (c : Int), (d : Int)], x ≤ M) :
    (if 2 * M - (n : Int) > (n : Int).fmod 2 then 2 * M - (n : Int) else (n : Int).fmod 2) = ((leftN4 a b c d : Nat) : Int) := by
  have hf : (n : Int).fmod 2 = (n : Int) % 2 := Int.fmod_eq_emod_of_nonneg _ (by decide)
  have h1 := hle a (by simp)
  have h2 := hle b (by simp)
  have h3 := hle c (by simp)
  have h4 := hle d (by simp)
  have e1 := max_N a b
  have e2 := max_N c d
  have e3 := max_N (maxN a b) (maxN c d)
  have e4 := max_N (n % 2) (2 * maxN (maxN a b) (maxN c d) - n)
  have hm : ((maxN (maxN a b) (maxN c d) : Nat) : Int) = M := by
    simp only [List.mem_cons, List.not_mem_nil, or_false] at hM
    omega
  unfold leftN4
  dsimp only
  rw [← hn, hf]
  split <;> omega
/-- all that the wishes' tables say of the guests ts -/
theorem laid_T {ts : List (Int × Int)} (hl : ts.length = 4) (hok : ∀ t ∈ ts, okG t) : ∃ a b c d p q r s ks vs S, wsT ts = [a, b, c, d] ∧ flT ts = [p, q, r, s] ∧ ts.map (·.1) = [(a : Int), (b : Int), (c : Int), (d : Int)] ∧ Laid a b c d ks vs S := by
  match ts, hl with
  | [t0, t1, t2, t3], _ =>
    have h0 := hok t0 (by simp)
    have h1 := hok t1 (by simp)
    have h2 := hok t2 (by simp)
    have h3 := hok t3 (by simp)
    unfold okG at h0 h1 h2 h3
    obtain ⟨ks, vs, S, h⟩ := laid_all (a := t0.1.toNat) (b := t1.1.toNat) (c := t2.1.toNat) (d := t3.1.toNat) (by omega) (by omega) (by omega) (by omega)
    refine ⟨_, _, _, _, _, _, _, _, ks, vs, S, rfl, rfl, ?_, h⟩
    simp only [List.map_cons, List.map_nil]
    rw [Int.toNat_of_nonneg h0.1, Int.toNat_of_nonneg h1.1, Int.toNat_of_nonneg h2.1, Int.toNat_of_nonneg h3.1]
theorem keys_T {f : Nat → Nat} (hf : figOk f) {ts : List (Int × Int)} (hok : ∀ t ∈ ts, okG t) {a b c d : Nat} {ks vs S : List Nat} (hw : wsT ts = [a, b, c, d]) (h : Laid a b c d ks vs S) {ps : List (Str × Str)} (hps : tiesS (namesF f (flT ts)) (ts.map (·.1)) 6 = ps) :
    ps.map (·.1) = ks.map (nameF f (flT ts)) ∧ ps.map (·.2) = vs.map (nameF f (flT ts)) ∧ (∀ k ∈ ks, k < 4) ∧ (∀ k ∈ vs, k < 4) ∧ ps.length = ks.length := by
  have k := keys_of (fl := flT ts) hf (wsT ts)
  rw [wsI_T hok, hps, hw, ← h.hk, ← h.hv] at k
  refine ⟨k.1, k.2.1, k.2.2.1, k.2.2.2, ?_⟩
  have := congrArg List.length k.1
  rwa [List.length_map, List.length_map] at this
theorem reps_len (a b c d : Nat) : (reps [a, b, c, d]).length = a + b + c + d := by
  unfold reps; simp; omega
theorem names_len {f : Nat → Nat} {fl : List Bool} {ks : List Nat} : ∀ c ∈ ks.map (nameF f fl), c.length ≤ 10 := by
  intro c hc
  obtain ⟨k, _, rfl⟩ := List.mem_map.mp hc
  exact one_len _
theorem names_okS {f : Nat → Nat} {fl : List Bool} (hf : figOk f) {ks : List Nat} (h : ∀ k ∈ ks, k < 4) : ∀ c ∈ ks.map (nameF f fl), okS c := by
  intro c hc
  obtain ⟨k, hk, rfl⟩ := List.mem_map.mp hc
  exact name_ok (hf.2 k (h k hk))
theorem case_len {f : Nat → Nat} {fl : List Bool} {ks : List Nat} (h : ks.length ≠ 1) : ks.map (nameF f fl) = [] ∨ 2 ≤ (ks.map (nameF f fl)).length := by
  rw [List.length_map]
  rcases Nat.eq_zero_or_pos ks.length with e | e
  · left; rw [List.eq_nil_of_length_eq_zero e]; rfl
  · right; omega
end Mine
end
section
namespace Mine
open PySem PySem.Calls PySem.Builtin PyProof.Rows PySem.W
theorem occ_all : ∀ k : Fin 16, (Builtin.Str.occurrences (Str.ofString "ABCDEFGHIJKLMNOP") ⟨#[65 + k.val]⟩ 0 (Str.ofString "ABCDEFGHIJKLMNOP").length 1).isEmpty = false ∧ (Builtin.Str.occurrences (Str.ofString "ABCDEFGHIJKLMNOP") ⟨#[97 + k.val]⟩ 0 (Str.ofString "ABCDEFGHIJKLMNOP").length 1).isEmpty = true := by decide +kernel
theorem occ_chr {f : Nat → Nat} {fl : List Bool} {k : Nat} (hf : f k ≤ 15) {b : Bool} (h : (Builtin.Str.occurrences (Str.ofString "ABCDEFGHIJKLMNOP") ⟨#[chrF f fl k]⟩ 0 (Str.ofString "ABCDEFGHIJKLMNOP").length 1).isEmpty = b) : fl.getD k false = b := by
  have a := occ_all ⟨f k, by omega⟩
  dsimp only at a
  unfold chrF at h
  cases e : fl.getD k false with
  | true => rw [if_pos e, a.2] at h; exact h
  | false => rw [if_neg (by rw [e]; decide), a.1] at h; exact h
theorem sign_at {l : List Nat} {i c : Nat} (h : (sL l).cps[i]? = some c) : l[i]? = some c := by
  rw [sL_eq] at h
  simpa using h
theorem sign_size (l : List Nat) : (sL l).cps.size = l.length := by rw [sL_eq]; simp
theorem sign_ascii {f : Nat → Nat} {fl : List Bool} {S : List Nat} (h : ∀ k ∈ S, f k ≤ 15) : (sL (S.map (chrF f fl))).cps.all (· < 128) = true := by
  rw [sL_eq, Array.all_eq_true_iff_forall_mem]
  intro c hc
  have hc2 : c ∈ S.map (chrF f fl) := by simpa using hc
  obtain ⟨k, hk, rfl⟩ := List.mem_map.mp hc2
  have := h k hk
  unfold chrF
  split <;> simp <;> omega
theorem lows_snoc (fl : Nat → Bool) (k : Nat) : ∀ l, lowsQ fl (l ++ [k]) = lowsQ fl l + cond (fl k) 1 0
  | [] => by simp [lowsQ]
  | x :: l => by
    have := lows_snoc fl k l
    simp only [List.cons_append, lowsQ]
    omega
theorem lows_next {fl : List Bool} {p q r s : Bool} (hfl : fl = [p, q, r, s]) {S : List Nat} {i k : Nat} (hk : S[i]? = some k) (h4 : k < 4) {b : Bool} (hb : fl.getD k false = b) : lowsQ (flagQ p q r s) (S.take (i + 1)) = lowsQ (flagQ p q r s) (S.take i) + cond b 1 0 := by
  rw [List.take_add_one, hk]
  show lowsQ _ (S.take i ++ [k]) = _
  rw [lows_snoc, flagQ_getD p q r s h4, ← hfl, hb]
end Mine
namespace Mine
theorem lows_le (fl : Nat → Bool) : ∀ l, lowsQ fl l ≤ l.length
  | [] => by simp [lowsQ]
  | x :: l => by
    have := lows_le fl l
    simp only [lowsQ, List.length_cons]
    cases fl x <;> simp <;> omega
end Mine
end
section
namespace Mine
open PySem PySem.Calls PySem.Builtin PyProof.Rows PySem.W LCg LCt
section
variable {prog : Program} {w : World} {A : Around} {E : Value → Shared → Prop} {s : Shared} {h₀ : Heap} {L : Addr} {m : Str → Option Value} {env : Env}
/-- the source of a comprehension with a test: an ASCII text -/
noncomputable def SrcTS (prog : Program) (w : World) (A : Around) (h₀ : Heap) (L : Addr) (m : Str → Option Value) (env : Env) (ct elt : Expr) (x : Str) (scope : Scope) (cl : List (Str × Addr)) (Fin : Shared → List Value → List (Addr × Obj) → Prop) (xv : Value) (s₁ : Shared) : Prop :=
  ∃ tx t news, xv = .str tx t ∧ A.handled = none ∧ tx.cps.all (· < 128) = true ∧ Fr h₀ L s₁.heap m ∧ News h₀ L s₁.heap news ∧ tx.cps.size ≤ sizeLine ∧
    ∀ s₂ : Shared, (∃ h, s₂ = { s₁ with heap := h }) → CompRestT prog w A h₀ L m env ct elt x scope cl s₂ (fun _ => True) (SignAt tx) (Fin s₂) tx.cps.size 0 [] news
theorem strIter_st {I : Addr} {tx : Str} {t : Tok} : ∀ i (h h' : Heap) (o : Obj) (nw : List (Addr × Obj)), h.IsStrIter I "str_ascii_iterator" tx t i → h.get? I = some o → h'.get? I = some o → (∀ b o, h₀.get? b = some o → h'.get? b = some o) → News h₀ L h' nw → True → h'.IsStrIter I "str_ascii_iterator" tx t i :=
  fun i h h' o nw st e e' _ _ _ => by
    obtain ⟨o', q, r⟩ := st
    rw [e] at q
    cases q
    exact ⟨o, e', r⟩
theorem ListComp_TS {ct elt iter : Expr} {x : Str} {px : Pos} {scope : Scope} {cl : List (Str × Addr)} {pos : Pos} {Q : Value → Shared → Prop} (F₀ : Fr h₀ L s.heap m)
    (hclos : closureFor scope env = pure cl) (hcell : ∀ y ∈ scope.names, y.2 ≠ .cell) (hkind : scope.kind = .function)
    (hnames : ∀ y ∈ scope.names, y.2 = .local → scope.names.lookup y.1 = some .local) (hx : scope.names.lookup x = some .local)
    (h : wpAny (model prog w) A (eval iter env) (SrcTS prog w A h₀ L m env ct elt x scope cl (fun s₂ => FinE h₀ L m s₂ Q)) E s)
    (hs : ∀ x, foldedSetIterable iter env x = pure x := by intro _; rfl) :
    wpAny (model prog w) A (eval (.ListComp elt [⟨.Name x px, iter, [ct], 0⟩] scope pos) env) Q E s := by
  rw [eval_ListComp]
  refine wpAny_comprehension_free (use := none) rfl hs hclos hkind hnames (wpAny_mono h (fun xv s₁ h₁ => ?_) fun _ _ e => e)
  obtain ⟨tx, t, news, rfl, hh, ha, F, N, hsz, R⟩ := h₁
  refine wpAny_pyIter_ascii ha ?_
  refine block_T (Walks.strAscii hh s₁.heap.objs.size tx t) hsz (fun i h st => by obtain ⟨o, e, _⟩ := st; exact ⟨o, e⟩) strIter_st hcell hkind hx ⟨_, Heap.get?_push_size _ rfl, rfl, rfl⟩ (fun b hb => ?_)
    (F.keeps fun _ _ e => Heap.get?_push_of_some _ e) (N.grown fun _ _ e => Heap.get?_push_of_some _ e) (Nat.ne_of_lt F.ns.lt) (next_is_new F) (fun p hp => Nat.ne_of_lt (Heap.lt_size (N p hp).1)) trivial (R _ ⟨_, rfl⟩) ?_
  · rw [List.mem_singleton.mp hb]
    show s₁.heap.objs.size < (s₁.heap.push _).objs.size
    rw [Heap.size_push]; exact Nat.lt_succ_self _
  · intro D C h tk m' ys news' F' N' o1 hn hC₀ hD₀ hCL hDL hCD offC fin
    refine ⟨m', hn, fun h'' hs'' => fin D h'' tk (F'.change hs'' hCL hC₀) (fun p hp => ?_) o1⟩
    refine ⟨hs''.extBut _ _ ?_ (N' p hp).1, (N' p hp).2⟩
    rcases List.mem_cons.mp hp with rfl | hp
    · exact Ne.symm hCD
    · exact offC p hp
end
end Mine
end
section
namespace Mine
open PySem PySem.Calls PySem.Builtin PyProof.Rows PySem.W
section
variable {prog : Program} {w : World} {A : Around} {E : Value → Shared → Prop} {s : Shared} {h₀ h : Heap} {L D b : Addr} {m : Str → Option Value} {news news' : List (Addr × Obj)} {fvs flat : List Value} {n n2 : Nat}
/-- list.extend by a list of any length -/
theorem kx_extend {Q : Value → Shared → Prop} (F : Fr h₀ L s.heap m) (N : News h₀ L s.heap news) (hb : (b, listOf flat.toArray n2) ∈ news) (hlen : fvs.length + flat.length ≤ 1000)
    (U : Upd D (listOf fvs.toArray n) (listOf (fvs ++ flat).toArray (if flat.length = 0 then n else n + 1)) news news')
    (h : ∀ h', Fr h₀ L h' m → News h₀ L h' news' → Q .none { s with heap := h' }) : wpAny (model prog w) A (call (.builtin "list.extend") [.ref D, .ref b]) Q E s := by
  have hs : 1000 ≤ sizeLine := by rw [sizeLine_eq]; omega
  have hd : ¬(!fvs.toArray.isEmpty && Builtin.List.listTooLong (fvs.toArray.size + flat.toArray.size)) = true := by
    have : Builtin.List.listTooLong (fvs.toArray.size + flat.toArray.size) = false := by
      simp only [Builtin.List.listTooLong, List.size_toArray, decide_eq_false_iff_not]
      omega
    rw [this]; simp
  by_cases e : flat.length = 0
  · have e2 : flat = [] := List.eq_nil_of_length_eq_zero e
    subst e2
    rw [if_pos e, List.append_nil] at U
    exact kxn_extend F N hb rfl U hd (by show fvs.length ≤ sizeLine; omega) (by simp only [List.size_toArray]; omega) h
  · rw [if_neg e] at U
    exact kl_extend F N hb rfl e U hd (by show fvs.length ≤ sizeLine; omega) (by simp only [List.size_toArray]; omega) h
end
end Mine
namespace Mine
theorem flat_len {α : Type} (n : Nat) (v : α) : (List.replicate n [v]).flatten.length = n := by simp
theorem flat_one {α : Type} (n : Nat) (v : α) : (List.replicate n [v]).flatten = List.replicate n v := by simp
end Mine
end
section
namespace Mine
open PySem PySem.Calls PySem.Builtin PySem.Builtin.Str PyProof.Rows PySem.W PyProof
theorem odds_eq : ∀ (l : List Nat), odds l = (List.range (l.length / 2)).map fun i => l.getD (2 * i + 1) 0
  | [] => by simp [odds]
  | [a] => by simp [odds]
  | a :: b :: r => by
    have ih := odds_eq r
    have e : (a :: b :: r).length / 2 = r.length / 2 + 1 := by simp only [List.length_cons]; omega
    rw [e, List.range_succ_eq_map, List.map_cons, List.map_map]
    unfold odds
    rw [ih]
    congr 1
theorem odds_map (f : Nat → Nat) : ∀ (l : List Nat), odds (l.map f) = (odds l).map f
  | [] => rfl
  | [a] => rfl
  | a :: b :: r => by
    have ih := odds_map f r
    show f b :: odds (r.map f) = f b :: (odds r).map f
    rw [ih]
theorem odds_mem : ∀ (l : List Nat), ∀ k ∈ odds l, k ∈ l
  | [], k, h => by simp [odds] at h
  | [a], k, h => by simp [odds] at h
  | a :: b :: r, k, h => by
    have ih := odds_mem r
    unfold odds at h
    rcases List.mem_cons.mp h with rfl | h
    · simp
    · simp [ih k h]
theorem odds_length (l : List Nat) : (odds l).length = l.length / 2 := by rw [odds_eq]; simp
theorem filter_getD {l : List Nat} : ∀ (is : List Nat), (∀ i ∈ is, i < l.length) → is.filterMap (l.toArray[·]?) = is.map fun i => l.getD i 0
  | [], _ => rfl
  | i :: is, h => by
    have hi := h i (.head _)
    have e : l.toArray[i]? = some (l.getD i 0) := by simp [hi]
    rw [List.filterMap_cons_some e, List.map_cons, filter_getD is fun j hj => h j (.tail _ hj)]
theorem slice_odds (l : List Nat) (u v : Tok) : Txt.sliceBy (sL l) (some (1, u)) none (2, v) = sL (odds l) := by
  have e1 : slicePicked (sL l) (some (1, u)) none (some (2, v)) = (List.range (l.length / 2)).map fun i => 2 * i + 1 := by
    show strSliceIndices (some 1) none 2 (sL l).length = _
    rw [sL_len]
    unfold strSliceIndices sliceRange
    have h1 : ¬ ((1 : Int) < 0) := by decide
    simp only [h1, if_false, show (2 : Int) > 0 by decide, if_true]
    by_cases hn : l.length = 0
    · rw [hn]; decide
    · have hm : max (0 : Int) (min 1 (l.length : Int)) = 1 := by omega
      rw [hm]
      have ec : (if (1 : Int) < (l.length : Int) then ((l.length : Int) - 1 + 2 - 1) / 2 else 0).toNat = l.length / 2 := by
        split <;> omega
      rw [ec]
      refine List.map_congr_left fun k _ => ?_
      omega
  unfold Txt.sliceBy
  rw [e1, if_neg (by simp)]
  have e2 : (sL l).cps = l.toArray := by rw [sL_eq]
  rw [e2, filter_getD _ (by
    intro i hi
    obtain ⟨k, hk, rfl⟩ := List.mem_map.mp hi
    have := List.mem_range.mp hk
    omega), List.map_map, odds_eq, sL_eq]
  rfl
section
variable {prog : Program} {w : World} {A : Around} {E : Value → Shared → Prop} {h₀ : Heap} {L : Addr} {m : PySem.Str → Option Value} {news : List (Addr × Obj)} {value slice : PySem.Expr} {Q : Value → Shared → Prop} {l : List Nat}
theorem sl_odds {hp : Heap} {g : Array GenState} {d : Drawn} {tk : Nat} {os : OsState} {t u v : Tok} (hF : Fr h₀ L hp m) (hN : News h₀ L hp news) (hl : l.length ≤ 1000)
    (h : ∀ h' t' tk', Fr h₀ L h' m → News h₀ L h' news → Q (.str (sL (odds l)) t') ⟨h', g, d, tk', os⟩)
    (hs : subscripted slice false (.str (sL l) t) (.ref hp.objs.size) = operate [.ref hp.objs.size, .str (sL l) t] (getItem (.str (sL l) t) (.ref hp.objs.size)) := by with_unfolding_all rfl)
    (ht : ∀ r, letTemporaryGo value (.str (sL l) t) r = pure () := by intro _; with_unfolding_all rfl) :
    wpAny (model prog w) A (subscriptTail value slice (.str (sL l) t) (.ref hp.objs.size)) Q E ⟨hp.push { cls := .type "slice", data := .fields #[.int 1 u, .none, .int 2 v] }, g, d, tk, os⟩ :=
  slice_strK_sn (s := ⟨hp, g, d, tk, os⟩) hF hN (by decide) (fun h' t' tk' F' N' => by
    rw [slice_odds]; exact h h' t' tk' F' N') hs ht (by rw [sL_len, sizeLine_eq]; omega)
end
end Mine
end
section
open PySem PySem.W PyProof.Rows PySem.Calls
namespace Mine
local macro_rules | `(tactic| k_room) => `(tactic| first | exact Nat.le_of_ble_eq_true rfl | ktr_room)
local macro_rules | `(tactic| kpf_c) => `(tactic| first | with_reducible assumption | with_reducible exact List.mem_cons_self | (with_reducible refine List.mem_cons_of_mem _ ?_; kpf_c) | (refine List.mem_append_left _ ?_; kpf_c) | (refine List.mem_append_right _ ?_; kpf_c))
local macro_rules | `(tactic| kpf_close) => `(tactic| first | exact List.forall_mem_nil _ | (with_reducible refine List.forall_mem_cons.mpr ⟨?_, ?_⟩; (focus kpf_c); kpf_close) | (refine List.forall_mem_append.mpr ⟨?_, ?_⟩; (focus kpf_close); kpf_close) | (intro p hp; kpf_c))
local macro_rules | `(tactic| k_all) => `(tactic| with_reducible assumption)
local macro_rules | `(tactic| walk_at "call ref") => `(tactic| (k_here; refine Hold.on ?_))
local macro_rules | `(tactic| walk_at "exec Assign cons ListComp") => `(tactic| (k_here; refine Hold.on ?_))
local macro_rules | `(tactic| walk_at "exec For Name Call cons nil") => `(tactic| (k_here; refine Hold.on ?_))
local macro_rules | `(tactic| walk_at "eval ListComp") => `(tactic| (k_here; refine Hold.on ?_))
local macro_rules | `(tactic| walk_at "pyIter ref") => `(tactic| (refine Hold.on ?_))
local macro_rules | `(tactic| walk_at "subscriptTail Name Name ref int") => `(tactic| (k_here; refine Hold.on ?_))
local macro_rules | `(tactic| walk_at "subscriptTail Name Name str int") => `(tactic| (k_here; refine Hold.on ?_))
local macro_rules | `(tactic| walk_at "call builtin:str.lower") => `(tactic| (k_here; refine Hold.on ?_))
local macro_rules | `(tactic| walk_at "call builtin:list.append") => `(tactic| (k_here; refine Hold.on ?_))
local macro_rules | `(tactic| walk_at "call builtin:list.extend") => `(tactic| (k_here; refine Hold.on ?_))
local macro_rules | `(tactic| walk_at "subscriptTail Name BinOp ref int") => `(tactic| (k_here; refine Hold.on ?_))
local macro_rules | `(tactic| walk_at "call builtin:len") => `(tactic| (k_here; refine Hold.on ?_))
local macro_rules | `(tactic| walk_at "call builtin:bytes.decode") => `(tactic| (k_here; refine Hold.on ?_))
local macro_rules | `(tactic| walk_at "call builtin:str.join") => `(tactic| (k_here; refine Hold.on ?_))
local macro_rules | `(tactic| walk_at "SrcLP") => `(tactic| (refine Hold.on ?_))
local macro_rules | `(tactic| walk_at "CompSrc") => `(tactic| (refine Hold.on ?_))
local macro_rules | `(tactic| walk_at "subscriptTail Name Slice str ref") => `(tactic| (k_here; refine Hold.on ?_))
theorem letter_itemE {prog : Program} {w : World} {A : Around} {E : Value → Shared → Prop} {s : Shared} {value slice : Expr} {i : Int} {n : Nat} {t u : Tok} {Q : Value → Shared → Prop} (e : i = (n : Int)) (hn : n < 16)
    (h : ∀ t', Q (.str (sL [65 + n]) t') { s with toks := s.toks + 1 })
    (hs : subscripted slice false (.str (Str.ofString "ABCDEFGHIJKLMNOP") t) (.int i u) = operate [.str (Str.ofString "ABCDEFGHIJKLMNOP") t, .int i u] (getItem (.str (Str.ofString "ABCDEFGHIJKLMNOP") t) (.int i u)))
    (ht : ∀ r, letTemporaryGo value (.str (Str.ofString "ABCDEFGHIJKLMNOP") t) r = pure ()) :
    wpAny (model prog w) A (subscriptTail value slice (.str (Str.ofString "ABCDEFGHIJKLMNOP") t) (.int i u)) Q E s := by
  subst e
  exact letter_item ⟨by omega, by omega⟩ (fun t' => by rw [Int.toNat_natCast]; exact h t') hs ht
theorem lev_walkS {w : World} {loose : List Str} {mean : ExcName → Option Value} {mg mb : Str → Option Value}
  {dp un : Nat} {gd : Option (List Code)} {cn : Str} {csn : List (Str × NameKind)} {csg csc : Bool} {csm : List (Str × Const)} {a : Addr} {ccd : Value} {cl : List (Str × Addr)} {outer : List Env} {A₀ : Around} {base h₀ : Heap} {L : Addr} {m : Str → Option Value} {news : List (Addr × Obj)} {s : Shared} {Q E : Value → Shared → Prop}
  {x y : List Nat} {a0 : Str} {mx : Int} {t1 t2 t3 : Tok}
  (B : Below A₀ base outer h₀) (F : Fr h₀ L s.heap m) (X : (hd03.heap_39 w.params).In h₀)
  (N : News h₀ L s.heap news) (T : Top hd03.view_39 loose mean mg mb h₀)
  (hd : dp + 12 < recursionLimit) (hu : un + 96 < cLine) (e0 : a0 = sL x) (hx : ∀ c ∈ x, okc c = true) (hy : ∀ c ∈ y, okc c = true) (hxl : x.length ≤ 40) (hyl : y.length ≤ 40) (hmx : 0 ≤ mx ∧ mx ≤ 1000)
  (ret : ∀ (t : Tok) (h' : Heap) (tk' : Nat), Fr h₀ L h' m → News h₀ L h' news → Q (.int (lev x y mx) t) { s with heap := h', toks := tk' }) :
  wpAny (model PySem.Challenge.rw_sw0068_03.row.prog w) (ktrTop dp un gd cn ⟨.function, csn, csg, csc, csm⟩ L a ccd cl outer) (call (.ref 52) [.str a0 t1, .str (sL y) t2, .int mx t3]) Q E s := by
  subst e0
  exact lev_walk B F X N T hd hu hx hy hxl hyl hmx ret
theorem qqq_eq : Str.ofString "QQQ" = sL [81, 81, 81] := by rw [sL_eq]; decide +kernel
theorem qqq_ok : ∀ c ∈ [81, 81, 81], okc c = true := by decide
theorem maxN_eq (a b : Nat) : maxN a b = max a b := by
  unfold maxN
  by_cases h : a ≤ b
  · rw [Nat.ble_eq_true_of_le h, cond_true]; omega
  · rw [Bool.eq_false_iff.mpr (fun e => h (Nat.le_of_ble_eq_true e)), cond_false]; omega
theorem far_nat (n : Nat) : ((2 * maxN 3 n : Nat) : Int) = 2 * if (n : Int) > 3 then (n : Int) else 3 := by
  rw [maxN_eq]; split <;> omega
theorem far_nat1 (n : Nat) : ((2 * maxN 3 n - 1 : Nat) : Int) = (2 * if (n : Int) > 3 then (n : Int) else 3) - 1 := by
  rw [maxN_eq]; split <;> omega
theorem bne_no {a : Str} {P : Prop} (h : (a != a) = true) : P := by simp at h
theorem withMem {M : Int} {l : List Int} {P : Prop} (_ : M ∈ l) (k : ∀ x, x = M → P) : P := k M rfl
theorem withInts {vs : List Value} {ns : List Int} {P : Prop} (_ : IntsAre vs ns) (k : ∀ x9, x9 = ns → P) : P := k ns rfl
theorem withCells {h₀ h : Heap} {L c1 c2 : Addr} {x y : Obj} {own : List (Addr × Obj)} {P : Prop} (N : News h₀ L h (own ++ [(c2, x), (c1, y)])) (k : ∀ x9 y9, x9 = x → y9 = y → News h₀ L h ((c2, x9) :: (c1, y9) :: own) → P) : P :=
  k x y rfl rfl fun p hp => N p (by simp only [List.mem_append, List.mem_cons, List.not_mem_nil, or_false] at hp ⊢; rcases hp with h | h | h <;> simp [h])
theorem withFour {h₀ h : Heap} {L a b c d : Addr} {x y z o : Obj} {r : List (Addr × Obj)} {P : Prop} (_N : News h₀ L h ((a, x) :: (b, y) :: (c, z) :: (d, o) :: r)) (k : ∀ a9 b9 c9 o9, a9 = a → b9 = b → c9 = c → o9 = o → P) : P := k a b c o rfl rfl rfl rfl
theorem law_walk : PySem.Challenge.rw_sw0068_03.Holds := hd03 (by
  k_go0
  all_goals try k_fold
  (k_steps; repeat' (refine Hold.off ?_; first | ((with_reducible show wpAny _ _ (call (Value.builtin "list.append") [Value.ref _, _]) _ _ _); (with_unfolding_all refine' append_K ?apF ?apN ?apU ?_ ?apz; (case apF => k_asm); (case apN => k_asm); (case apU => k_upd); (case apz => rw [sizeLine_eq]; simp only [List.size_toArray]; omega)); intro h' F' N'; (try k_sweep); k_steps) | ((with_reducible show wpAny _ _ (call (Value.builtin "str.lower") [Value.str _ _]) _ _ _); refine call_lower hokU ?_; (try dsimp only); k_steps) | ((with_reducible show wpAny _ _ (subscriptTail _ _ (Value.str _ _) (Value.int _ _)) _ _ _); k_dflt (refine' letter_itemE hfig ?lei ?_ ?lej ?lek; (case lei => omega); (case lej => with_unfolding_all rfl); (case lek => intro _; with_unfolding_all rfl)); intro t9'; (try dsimp only); k_steps) | ((with_reducible show wpAny _ _ (subscriptTail (PySem.Expr.Name _ _) (PySem.Expr.Name _ _) (Value.ref _) (Value.int _ _)) _ _ _); k_dflt (refine' PyProof.Rows.item_listL (News.isList (by k_asm) (by k_mem)) ?ilb ?ilc ?ild ?_ ?ile ?ilf; (case ilb => omega); (case ilc => omega); (case ild => with_reducible assumption); (case ile => with_unfolding_all rfl); (case ilf => intro _; with_unfolding_all rfl)); k_steps)))
  refine Hold.off ?_
  (with_reducible rename IntsAre _ _ => hI0)
  refine withInts hI0 fun w7 e7 => ?_
  subst e7
  (with_reducible rename Heap.IsList _ _ _ => hL0)
  (rename ¬ _ < ((List.length _ : Nat) : Int) => hln0)
  k_dflt (refine' guests_walk ?gak1 ?gak2 ?gak3 ?gak4 ?gak5 ?gad ?gau hL0 hI0 (by omega) ?_; (case gak1 => k_asm); (case gak2 => k_asm); (case gak3 => k_asm); (case gak4 => k_asm); (case gak5 => k_asm); (case gad => exact Nat.le_of_ble_eq_true rfl); (case gau => exact Nat.le_of_ble_eq_true rfl))
  intro D kD ys ts own h1 tk1 F1 N0 hD hT hts hok hown
  refine withCells N0 fun oc2 oc1 e2 e1 N1 => ?_
  subst e2 e1
  (rename Shared => s1)
  (rename World => w)
  have hoc1 : ∀ p ∈ own, @Ne Nat p.1 (s1.heap.objs.size + 1) := fun p hp => news_neD N1 (x := p.2) (y := oc1) (List.mem_cons_of_mem _ (List.mem_cons_of_mem _ hp)) (by simp) (fun e => (hown p hp).2 _ (e.trans (by assumption)))
  have hoc2 : ∀ p ∈ own, @Ne Nat p.1 (s1.heap.objs.size + 1 + 1) := fun p hp => news_neD N1 (x := p.2) (y := oc2) (List.mem_cons_of_mem _ (List.mem_cons_of_mem _ hp)) (by simp) (fun e => (hown p hp).2 _ (e.trans (by assumption)))
  clear N0
  (try dsimp only)
  generalize hpool : w7.sum = pool at *
  (k_steps; repeat' (refine Hold.off ?_; first | ((with_reducible show wpAny _ _ (call (Value.builtin "list.append") [Value.ref _, _]) _ _ _); (with_unfolding_all refine' append_K ?apF ?apN ?apU ?_ ?apz; (case apF => k_asm); (case apN => k_asm); (case apU => k_upd); (case apz => rw [sizeLine_eq]; simp only [List.size_toArray]; omega)); intro h' F' N'; (try k_sweep); k_steps) | ((with_reducible show wpAny _ _ (call (Value.builtin "str.lower") [Value.str _ _]) _ _ _); refine call_lower hokU ?_; (try dsimp only); k_steps) | ((with_reducible show wpAny _ _ (subscriptTail _ _ (Value.str _ _) (Value.int _ _)) _ _ _); k_dflt (refine' letter_itemE hfig ?lei ?_ ?lej ?lek; (case lei => omega); (case lej => with_unfolding_all rfl); (case lek => intro _; with_unfolding_all rfl)); intro t9'; (try dsimp only); k_steps) | ((with_reducible show wpAny _ _ (subscriptTail (PySem.Expr.Name _ _) (PySem.Expr.Name _ _) (Value.ref _) (Value.int _ _)) _ _ _); k_dflt (refine' PyProof.Rows.item_listL (News.isList (by k_asm) (by k_mem)) ?ilb ?ilc ?ild ?_ ?ile ?ilf; (case ilb => omega); (case ilc => omega); (case ild => with_reducible assumption); (case ile => with_unfolding_all rfl); (case ilf => intro _; with_unfolding_all rfl)); k_steps)))
  refine Hold.off ?_
  k_dflt (refine LCp.Assign_ListComp_P (F₀ := by k_asm) (by rfl) (by with_unfolding_all rfl) (by with_unfolding_all rfl) (by decide) (by rfl) (by decide) (by rfl) (by rfl) (by decide) (by rfl) (by rfl) ?_)
  (k_steps; repeat' (refine Hold.off ?_; first | ((with_reducible show wpAny _ _ (call (Value.builtin "list.append") [Value.ref _, _]) _ _ _); (with_unfolding_all refine' append_K ?apF ?apN ?apU ?_ ?apz; (case apF => k_asm); (case apN => k_asm); (case apU => k_upd); (case apz => rw [sizeLine_eq]; simp only [List.size_toArray]; omega)); intro h' F' N'; (try k_sweep); k_steps) | ((with_reducible show wpAny _ _ (call (Value.builtin "str.lower") [Value.str _ _]) _ _ _); refine call_lower hokU ?_; (try dsimp only); k_steps) | ((with_reducible show wpAny _ _ (subscriptTail _ _ (Value.str _ _) (Value.int _ _)) _ _ _); k_dflt (refine' letter_itemE hfig ?lei ?_ ?lej ?lek; (case lei => omega); (case lej => with_unfolding_all rfl); (case lek => intro _; with_unfolding_all rfl)); intro t9'; (try dsimp only); k_steps) | ((with_reducible show wpAny _ _ (subscriptTail (PySem.Expr.Name _ _) (PySem.Expr.Name _ _) (Value.ref _) (Value.int _ _)) _ _ _); k_dflt (refine' PyProof.Rows.item_listL (News.isList (by k_asm) (by k_mem)) ?ilb ?ilc ?ild ?_ ?ile ?ilf; (case ilb => omega); (case ilc => omega); (case ild => with_reducible assumption); (case ile => with_unfolding_all rfl); (case ilf => intro _; with_unfolding_all rfl)); k_steps)))
  refine Hold.off ?_
  have hyl : ys.length = 4 := by rw [hT.length]; exact hts
  refine LCp.SrcLP.ledger (by rfl) (by k_asm) (by k_asm) (.tail _ (.tail _ hD)) (by rw [sizeLine_eq]; simp only [List.size_toArray]; omega) ?_
  intro g'
  refine restP_of (J := fun i zs => IntsAre zs ((ts.take i).map (·.1))) ?finA ?turnA _ _ _ (Nat.zero_add _) .nil
  case turnA =>
    intro i v hi hv
    obtain ⟨aP, x, y, t1, t2, rfl, hm, hp⟩ := hT.get (by simpa using hv)
    refine ⟨aP, ipObj x y t1 t2, _, _, _, rfl, by simp [hm], rfl, rfl, ?_⟩
    intro ys2 I4 oI4 C oC D2 m₂ h tk E' hJ hC' hx1 hx2 F' N' off' ne'
    (k_steps; repeat' (refine Hold.off ?_; first | ((with_reducible show wpAny _ _ (call (Value.builtin "list.append") [Value.ref _, _]) _ _ _); (with_unfolding_all refine' append_K ?apF ?apN ?apU ?_ ?apz; (case apF => k_asm); (case apN => k_asm); (case apU => k_upd); (case apz => rw [sizeLine_eq]; simp only [List.size_toArray]; omega)); intro h' F' N'; (try k_sweep); k_steps) | ((with_reducible show wpAny _ _ (call (Value.builtin "str.lower") [Value.str _ _]) _ _ _); refine call_lower hokU ?_; (try dsimp only); k_steps) | ((with_reducible show wpAny _ _ (subscriptTail _ _ (Value.str _ _) (Value.int _ _)) _ _ _); k_dflt (refine' letter_itemE hfig ?lei ?_ ?lej ?lek; (case lei => omega); (case lej => with_unfolding_all rfl); (case lek => intro _; with_unfolding_all rfl)); intro t9'; (try dsimp only); k_steps) | ((with_reducible show wpAny _ _ (subscriptTail (PySem.Expr.Name _ _) (PySem.Expr.Name _ _) (Value.ref _) (Value.int _ _)) _ _ _); k_dflt (refine' PyProof.Rows.item_listL (News.isList (by k_asm) (by k_mem)) ?ilb ?ilc ?ild ?_ ?ile ?ilf; (case ilb => omega); (case ilc => omega); (case ild => with_reducible assumption); (case ile => with_unfolding_all rfl); (case ilf => intro _; with_unfolding_all rfl)); k_steps)))
    refine LCg.CompEnd.intro (by k_asm) (by assumption) _ (by kcf_all) off' (.inr ⟨_, .tail _ (.tail _ hD), rfl, _, rfl⟩) ⟨rfl, ?_⟩
    rw [take_map_next hp]
    exact hJ.append (.cons x _ .nil)
  case finA =>
    intro wv hJ
    rw [show ts.take ys.toArray.size = ts from List.take_of_length_le (by simp only [List.size_toArray]; omega)] at hJ
    have hJw := hJ
    have hwv : wv.length = 4 := by rw [hJ.length, List.length_map]; exact hts
    (k_steps; repeat' (refine Hold.off ?_; first | ((with_reducible show wpAny _ _ (call (Value.builtin "list.append") [Value.ref _, _]) _ _ _); (with_unfolding_all refine' append_K ?apF ?apN ?apU ?_ ?apz; (case apF => k_asm); (case apN => k_asm); (case apU => k_upd); (case apz => rw [sizeLine_eq]; simp only [List.size_toArray]; omega)); intro h' F' N'; (try k_sweep); k_steps) | ((with_reducible show wpAny _ _ (call (Value.builtin "str.lower") [Value.str _ _]) _ _ _); refine call_lower hokU ?_; (try dsimp only); k_steps) | ((with_reducible show wpAny _ _ (subscriptTail _ _ (Value.str _ _) (Value.int _ _)) _ _ _); k_dflt (refine' letter_itemE hfig ?lei ?_ ?lej ?lek; (case lei => omega); (case lej => with_unfolding_all rfl); (case lek => intro _; with_unfolding_all rfl)); intro t9'; (try dsimp only); k_steps) | ((with_reducible show wpAny _ _ (subscriptTail (PySem.Expr.Name _ _) (PySem.Expr.Name _ _) (Value.ref _) (Value.int _ _)) _ _ _); k_dflt (refine' PyProof.Rows.item_listL (News.isList (by k_asm) (by k_mem)) ?ilb ?ilc ?ild ?_ ?ile ?ilf; (case ilb => omega); (case ilc => omega); (case ild => with_reducible assumption); (case ile => with_unfolding_all rfl); (case ilf => intro _; with_unfolding_all rfl)); k_steps)))
    refine Hold.off ?_
    (with_reducible rename News _ _ _ _ => N4)
    refine withFour N4 fun FA NA WA oF e1 e2 e3 e4 => ?_
    subst e1 e2 e3 e4
    (rename oF.data = _ => hdF)
    (rename NA < FA ∧ _ => lF)
    (rename WA < NA ∧ _ => lN)
    (rename _ ∧ _ ∧ LCg.Off1 WA own => oW)
    have hA0 : 0 ≤ pool.fmod 3 ∧ pool.fmod 3 ≤ 2 := by rw [Int.fmod_eq_emod_of_nonneg _ (by decide)]; omega
    have hB0 : 0 ≤ (pool.fdiv 3).fmod 4 ∧ (pool.fdiv 3).fmod 4 ≤ 3 := by rw [Int.fmod_eq_emod_of_nonneg _ (by decide)]; omega
    have hf := figA_ok (A := (pool.fmod 3).toNat) (B := ((pool.fdiv 3).fmod 4).toNat) (by omega) (by omega)
    have hfi := figA_int hA0.1 hB0.1
    have hfp := figs_pos (A := (pool.fmod 3).toNat) (B := ((pool.fdiv 3).fmod 4).toNat) (ws := wsT ts) (j := 4)
    generalize figA (pool.fmod 3).toNat ((pool.fdiv 3).fmod 4).toNat = f at hf hfi hfp
    (with_reducible rename Fr _ _ _ _ => F5)
    (with_unfolding_all refine' For_turns F5 ?_; k_whole)
    (k_steps; repeat' (refine Hold.off ?_; first | ((with_reducible show wpAny _ _ (call (Value.builtin "list.append") [Value.ref _, _]) _ _ _); (with_unfolding_all refine' append_K ?apF ?apN ?apU ?_ ?apz; (case apF => k_asm); (case apN => k_asm); (case apU => k_upd); (case apz => rw [sizeLine_eq]; simp only [List.size_toArray]; omega)); intro h' F' N'; (try k_sweep); k_steps) | ((with_reducible show wpAny _ _ (call (Value.builtin "str.lower") [Value.str _ _]) _ _ _); refine call_lower hokU ?_; (try dsimp only); k_steps) | ((with_reducible show wpAny _ _ (subscriptTail _ _ (Value.str _ _) (Value.int _ _)) _ _ _); k_dflt (refine' letter_itemE hfig ?lei ?_ ?lej ?lek; (case lei => omega); (case lej => with_unfolding_all rfl); (case lek => intro _; with_unfolding_all rfl)); intro t9'; (try dsimp only); k_steps) | ((with_reducible show wpAny _ _ (subscriptTail (PySem.Expr.Name _ _) (PySem.Expr.Name _ _) (Value.ref _) (Value.int _ _)) _ _ _); k_dflt (refine' PyProof.Rows.item_listL (News.isList (by k_asm) (by k_mem)) ?ilb ?ilc ?ild ?_ ?ile ?ilf; (case ilb => omega); (case ilc => omega); (case ild => with_reducible assumption); (case ile => with_unfolding_all rfl); (case ilf => intro _; with_unfolding_all rfl)); k_steps)))
    refine Hold.off ?_
    (with_reducible rename IsRange _ _ _ _ _ _ _ _ => hR)
    (with_unfolding_all refine iter_rangeTurns (n := 4) (by rfl) hR (by decide) (by decide) (by k_asm) (cb_drop (news := (FA, listOf ([] : List Value).toArray 0) :: (NA, listOf ([] : List Value).toArray 0) :: (WA, LCg.lst wv) :: (s1.heap.objs.size + 1 + 1, oF) :: (s1.heap.objs.size + 1, oc1) :: own) (by k_asm) (by kcf_all)) ?_)
    intro I hI
    refine itemsRest_blind (fun j m3 n3 => ∃ (nvs fvs : List Value) (nn fn : Nat) (tp : Tok), m3 (Str.ofString "pool") = some (.int pool tp) ∧ m3 (Str.ofString "guests") = some (.ref D) ∧ m3 (Str.ofString "wishes") = some (.ref WA) ∧ m3 (Str.ofString "names") = some (.ref NA) ∧
      n3 = (FA, listOf fvs.toArray fn) :: (NA, listOf nvs.toArray nn) :: (WA, LCg.lst wv) :: (s1.heap.objs.size + 1 + 1, oF) :: (s1.heap.objs.size + 1, oc1) :: own ∧ StrsAre nvs ((namesF f (flT ts)).take j) ∧ IntsAre fvs ((figsN f (wsT ts) j).map fun (n : Nat) => (n : Int))) ?turnB ?doneB ?zB
    case zB => exact ⟨[], [], 0, 0, _, by with_unfolding_all rfl, by with_unfolding_all rfl, by with_unfolding_all rfl, by with_unfolding_all rfl, rfl, .nil, .nil⟩
    case turnB =>
      rintro Q9 i a0 v3 h3 tk3 m3 n3 hx3 hv3 ⟨nvs, fvs, nn, fn, tp, hk2, hk3, hk4, hk5, rfl, hns, hfs⟩ F3
      obtain ⟨hi, rfl⟩ := rangeItems_get hx3
      obtain ⟨t9, rfl⟩ := hv3
      have hyi : ys[((0 : Int) + (i : Int)).toNat]? = some (ys[i]'(by omega)) := by rw [show ((0 : Int) + (i : Int)).toNat = i by omega]; exact List.getElem?_eq_getElem _
      obtain ⟨ai, xi, yi, ti1, ti2, hei, hai, hti⟩ := hT.get (List.getElem?_eq_getElem (show i < ys.length by omega))
      rw [hei] at hyi
      have hoi : okG (xi, yi) := hok _ (List.mem_of_getElem? hti)
      obtain ⟨ui, hwi⟩ := ints_at (k := i) hJ (by rw [List.length_map]; omega)
      rw [show (ts.map (·.1)).getD i 0 = xi by rw [List.getD_eq_getElem?_getD, List.getElem?_map, hti]; rfl] at hwi
      have hwi2 : wv[((0 : Int) + (i : Int)).toNat]? = some (.int xi ui) := by rw [show ((0 : Int) + (i : Int)).toNat = i by omega]; exact hwi
      have hfig := hfi i
      have hx0 : 0 ≤ xi := hoi.1
      have hx3 : xi ≤ 3 := hoi.2.1
      have hnl : nvs.length ≤ 4 := by rw [hns.length, List.length_take]; omega
      have hfl : fvs.length ≤ 12 := by rw [hfs.length, List.length_map]; have := figs_len (f := f) (wsT_le hok) i; omega
      obtain ⟨lF1, lF2, lF3, lF4, lF5⟩ := id lF
      obtain ⟨lN1, lN2, lN3, lN4⟩ := id lN
      have hIN : @LT.lt Nat _ NA I := hI (NA, listOf ([] : List Value).toArray 0) (.tail _ (.head _))
      have hIF : @LT.lt Nat _ FA I := hI (FA, listOf ([] : List Value).toArray 0) (.head _)
      have haN : @LT.lt Nat _ ai NA := allLt_mem lN4 _ hai
      have hDN : @LT.lt Nat _ D NA := allLt_mem lN4 _ hD
      have haF : @LT.lt Nat _ ai FA := allLt_mem lF5 _ hai
      have hDF : @LT.lt Nat _ D FA := allLt_mem lF5 _ hD
      have hoN : ∀ p ∈ own, @Ne Nat p.1 NA := fun p hp => Nat.ne_of_lt (allLt_mem lN4 p hp)
      have hoF : ∀ p ∈ own, @Ne Nat p.1 FA := fun p hp => Nat.ne_of_lt (allLt_mem lF5 p hp)
      have hf15 := hf.2 i hi
      have hokU : okS (sL [65 + f i]) := okS_one (okc_AP (by omega))
      rw [← fr_eq [(_, _), (_, _), (_, _), (_, _)] (List.forall_mem_cons.mpr ⟨hk2, List.forall_mem_cons.mpr ⟨hk3, List.forall_mem_cons.mpr ⟨hk4, List.forall_mem_cons.mpr ⟨hk5, List.forall_mem_nil _⟩⟩⟩⟩)] at F3
      dsimp only [kstB] at F3
      clear hk2 hk3 hk4 hk5
      refine AllObj.cons fun oI hcI => AllObj.nil fun N3 => ?_
      dsimp only [List.cons_append, List.nil_append] at N3
      have N5 := news_more (x := (D, listOf ys.toArray kD)) N3 (.tail _ (.tail _ (.tail _ (.tail _ (.tail _ (.tail _ hD))))))
      have N6 := news_more (x := (ai, ipObj xi yi ti1 ti2)) N5 (.tail _ (.tail _ (.tail _ (.tail _ (.tail _ (.tail _ (.tail _ hai)))))))
      clear N3 N5
      dsimp only
      (k_steps; repeat' (refine Hold.off ?_; first | ((with_reducible show wpAny _ _ (call (Value.builtin "list.append") [Value.ref _, _]) _ _ _); (with_unfolding_all refine' append_K ?apF ?apN ?apU ?_ ?apz; (case apF => k_asm); (case apN => k_asm); (case apU => k_upd); (case apz => rw [sizeLine_eq]; simp only [List.size_toArray]; omega)); intro h' F' N'; (try k_sweep); k_steps) | ((with_reducible show wpAny _ _ (call (Value.builtin "str.lower") [Value.str _ _]) _ _ _); refine call_lower hokU ?_; (try dsimp only); k_steps) | ((with_reducible show wpAny _ _ (subscriptTail _ _ (Value.str _ _) (Value.int _ _)) _ _ _); k_dflt (refine' letter_itemE hfig ?lei ?_ ?lej ?lek; (case lei => omega); (case lej => with_unfolding_all rfl); (case lek => intro _; with_unfolding_all rfl)); intro t9'; (try dsimp only); k_steps) | ((with_reducible show wpAny _ _ (subscriptTail (PySem.Expr.Name _ _) (PySem.Expr.Name _ _) (Value.ref _) (Value.int _ _)) _ _ _); k_dflt (refine' PyProof.Rows.item_listL (News.isList (by k_asm) (by k_mem)) ?ilb ?ilc ?ild ?_ ?ile ?ilf; (case ilb => omega); (case ilc => omega); (case ild => with_reducible assumption); (case ile => with_unfolding_all rfl); (case ilf => intro _; with_unfolding_all rfl)); k_steps)))
      · refine Hold.off ?_
        with_unfolding_all refine' kx_extend ?exF ?exN ?exb ?exl ?exU ?_
        case exF => k_asm
        case exN => k_asm
        case exb => k_mem
        case exU => k_upd
        case exl => rw [flat_len]; omega
        intro h' F' N'
        (try k_sweep)
        (k_steps; repeat' (refine Hold.off ?_; first | ((with_reducible show wpAny _ _ (call (Value.builtin "list.append") [Value.ref _, _]) _ _ _); (with_unfolding_all refine' append_K ?apF ?apN ?apU ?_ ?apz; (case apF => k_asm); (case apN => k_asm); (case apU => k_upd); (case apz => rw [sizeLine_eq]; simp only [List.size_toArray]; omega)); intro h' F' N'; (try k_sweep); k_steps) | ((with_reducible show wpAny _ _ (call (Value.builtin "str.lower") [Value.str _ _]) _ _ _); refine call_lower hokU ?_; (try dsimp only); k_steps) | ((with_reducible show wpAny _ _ (subscriptTail _ _ (Value.str _ _) (Value.int _ _)) _ _ _); k_dflt (refine' letter_itemE hfig ?lei ?_ ?lej ?lek; (case lei => omega); (case lej => with_unfolding_all rfl); (case lek => intro _; with_unfolding_all rfl)); intro t9'; (try dsimp only); k_steps) | ((with_reducible show wpAny _ _ (subscriptTail (PySem.Expr.Name _ _) (PySem.Expr.Name _ _) (Value.ref _) (Value.int _ _)) _ _ _); k_dflt (refine' PyProof.Rows.item_listL (News.isList (by k_asm) (by k_mem)) ?ilb ?ilc ?ild ?_ ?ile ?ilf; (case ilb => omega); (case ilc => omega); (case ild => with_reducible assumption); (case ile => with_unfolding_all rfl); (case ilf => intro _; with_unfolding_all rfl)); k_steps)))
        have hnm : lowS (sL [65 + f i]) = nameF f (flT ts) i := name_low hf15 (by rw [flT_at hti]; exact decide_eq_true (by assumption))
        (with_reducible rename News _ _ _ _ => N8)
        (with_reducible rename IntsAre (List.flatten _) _ => i9)
        refine unrEnd2 (news := (FA, listOf (fvs ++ ?fl8).toArray ?n8) :: (NA, listOf (nvs ++ [Value.str ?nm8 ?tk8]).toArray (nn + 1)) :: (WA, LCg.lst wv) :: (s1.heap.objs.size + 1 + 1, oF) :: (s1.heap.objs.size + 1, oc1) :: own) (by k_asm) N8 ?hs8 ?hI8 ⟨trivial, nvs ++ [Value.str ?nm8 ?tk8], fvs ++ ?fl8, _, _, tp, by with_unfolding_all rfl, by with_unfolding_all rfl, by with_unfolding_all rfl, by with_unfolding_all rfl, rfl, ?hns8, ?hfs8⟩
        case hs8 => rw [← List.push_toArray (l := nvs)]; kcf_all
        case hns8 => rw [names_next _ _ hi, ← hnm]; exact StrsAre.snoc' hns
        case hfs8 => exact figs_next hfs i9 (by rw [hfig, flat_one]) (wsT_at hti)
        case hI8 =>
          intro p hp
          rw [List.mem_cons, List.mem_cons, List.mem_cons, List.mem_cons, List.mem_cons] at hp
          rcases hp with rfl | rfl | rfl | rfl | rfl | hp
          · exact Nat.ne_of_lt hIF
          · exact Nat.ne_of_lt hIN
          · exact Nat.ne_of_lt (hI (WA, LCg.lst wv) (by simp))
          · exact Nat.ne_of_lt (hI (s1.heap.objs.size + 1 + 1, oF) (by simp))
          · exact Nat.ne_of_lt (hI (s1.heap.objs.size + 1, oc1) (by simp))
          · exact Nat.ne_of_lt (hI p (by simp [hp]))
      · refine Hold.off ?_
        with_unfolding_all refine' kx_extend ?exF ?exN ?exb ?exl ?exU ?_
        case exF => k_asm
        case exN => k_asm
        case exb => k_mem
        case exU => k_upd
        case exl => rw [flat_len]; omega
        intro h' F' N'
        (try k_sweep)
        (k_steps; repeat' (refine Hold.off ?_; first | ((with_reducible show wpAny _ _ (call (Value.builtin "list.append") [Value.ref _, _]) _ _ _); (with_unfolding_all refine' append_K ?apF ?apN ?apU ?_ ?apz; (case apF => k_asm); (case apN => k_asm); (case apU => k_upd); (case apz => rw [sizeLine_eq]; simp only [List.size_toArray]; omega)); intro h' F' N'; (try k_sweep); k_steps) | ((with_reducible show wpAny _ _ (call (Value.builtin "str.lower") [Value.str _ _]) _ _ _); refine call_lower hokU ?_; (try dsimp only); k_steps) | ((with_reducible show wpAny _ _ (subscriptTail _ _ (Value.str _ _) (Value.int _ _)) _ _ _); k_dflt (refine' letter_itemE hfig ?lei ?_ ?lej ?lek; (case lei => omega); (case lej => with_unfolding_all rfl); (case lek => intro _; with_unfolding_all rfl)); intro t9'; (try dsimp only); k_steps) | ((with_reducible show wpAny _ _ (subscriptTail (PySem.Expr.Name _ _) (PySem.Expr.Name _ _) (Value.ref _) (Value.int _ _)) _ _ _); k_dflt (refine' PyProof.Rows.item_listL (News.isList (by k_asm) (by k_mem)) ?ilb ?ilc ?ild ?_ ?ile ?ilf; (case ilb => omega); (case ilc => omega); (case ild => with_reducible assumption); (case ile => with_unfolding_all rfl); (case ilf => intro _; with_unfolding_all rfl)); k_steps)))
        have hnm : sL [65 + f i] = nameF f (flT ts) i := name_up (by rw [flT_at hti]; exact decide_eq_false (by assumption))
        (with_reducible rename News _ _ _ _ => N8)
        (with_reducible rename IntsAre (List.flatten _) _ => i9)
        refine unrEnd2 (news := (FA, listOf (fvs ++ ?fl9).toArray ?n9) :: (NA, listOf (nvs ++ [Value.str ?nm9 ?tk9]).toArray (nn + 1)) :: (WA, LCg.lst wv) :: (s1.heap.objs.size + 1 + 1, oF) :: (s1.heap.objs.size + 1, oc1) :: own) (by k_asm) N8 ?hs9 ?hI9 ⟨trivial, nvs ++ [Value.str ?nm9 ?tk9], fvs ++ ?fl9, _, _, tp, by with_unfolding_all rfl, by with_unfolding_all rfl, by with_unfolding_all rfl, by with_unfolding_all rfl, rfl, ?hns9, ?hfs9⟩
        case hs9 => rw [← List.push_toArray (l := nvs)]; kcf_all
        case hns9 => rw [names_next _ _ hi, ← hnm]; exact StrsAre.snoc' hns
        case hfs9 => exact figs_next hfs i9 (by rw [hfig, flat_one]) (wsT_at hti)
        case hI9 =>
          intro p hp
          rw [List.mem_cons, List.mem_cons, List.mem_cons, List.mem_cons, List.mem_cons] at hp
          rcases hp with rfl | rfl | rfl | rfl | rfl | hp
          · exact Nat.ne_of_lt hIF
          · exact Nat.ne_of_lt hIN
          · exact Nat.ne_of_lt (hI (WA, LCg.lst wv) (by simp))
          · exact Nat.ne_of_lt (hI (s1.heap.objs.size + 1 + 1, oF) (by simp))
          · exact Nat.ne_of_lt (hI (s1.heap.objs.size + 1, oc1) (by simp))
          · exact Nat.ne_of_lt (hI p (by simp [hp]))
    case doneB =>
      rintro h3 tk3 m3 n3 ⟨nvs, fvs, nn, fn, tp, hk2, hk3, hk4, hk5, rfl, hns, hfs⟩ F3 N3
      rw [← fr_eq [(_, _), (_, _), (_, _), (_, _)] (List.forall_mem_cons.mpr ⟨hk2, List.forall_mem_cons.mpr ⟨hk3, List.forall_mem_cons.mpr ⟨hk4, List.forall_mem_cons.mpr ⟨hk5, List.forall_mem_nil _⟩⟩⟩⟩)] at F3
      dsimp only [kstB] at F3
      clear hk2 hk3 hk4 hk5
      have e4 : (rangeItems 0 4).length = 4 := rfl
      rw [e4] at hns hfs
      rw [show (namesF f (flT ts)).take 4 = namesF f (flT ts) from rfl] at hns
      have hfl := figs_len (f := f) (wsT_le hok) 4
      have hfb := figs_le (ts := ts) hf (j := 4) (by omega)
      generalize hfg : figsN f (wsT ts) 4 = fg at hfs hfl hfp hfb
      have hap := ap_figs (fg := fg) (pool := pool) (fun x hx => ⟨hfp x hx, (hfb x hx).2⟩) (by omega)
      have hfv : fvs.length = fg.length := by rw [hfs.length, List.length_map]
      clear hI
      (k_steps; repeat' (refine Hold.off ?_; first | ((with_reducible show wpAny _ _ (call (Value.builtin "list.append") [Value.ref _, _]) _ _ _); (with_unfolding_all refine' append_K ?apF ?apN ?apU ?_ ?apz; (case apF => k_asm); (case apN => k_asm); (case apU => k_upd); (case apz => rw [sizeLine_eq]; simp only [List.size_toArray]; omega)); intro h' F' N'; (try k_sweep); k_steps) | ((with_reducible show wpAny _ _ (call (Value.builtin "str.lower") [Value.str _ _]) _ _ _); refine call_lower hokU ?_; (try dsimp only); k_steps) | ((with_reducible show wpAny _ _ (subscriptTail _ _ (Value.str _ _) (Value.int _ _)) _ _ _); k_dflt (refine' letter_itemE hfig ?lei ?_ ?lej ?lek; (case lei => omega); (case lej => with_unfolding_all rfl); (case lek => intro _; with_unfolding_all rfl)); intro t9'; (try dsimp only); k_steps) | ((with_reducible show wpAny _ _ (subscriptTail (PySem.Expr.Name _ _) (PySem.Expr.Name _ _) (Value.ref _) (Value.int _ _)) _ _ _); k_dflt (refine' PyProof.Rows.item_listL (News.isList (by k_asm) (by k_mem)) ?ilb ?ilc ?ild ?_ ?ile ?ilf; (case ilb => omega); (case ilc => omega); (case ild => with_reducible assumption); (case ile => with_unfolding_all rfl); (case ilf => intro _; with_unfolding_all rfl)); k_steps)))
      refine Hold.off ?_
      k_dflt (refine LCg.ListComp_U (F₀ := by k_asm) (by with_unfolding_all rfl) (by decide) (by rfl) (by decide) (by rfl) ?_)
      (k_steps; repeat' (refine Hold.off ?_; first | ((with_reducible show wpAny _ _ (call (Value.builtin "list.append") [Value.ref _, _]) _ _ _); (with_unfolding_all refine' append_K ?apF ?apN ?apU ?_ ?apz; (case apF => k_asm); (case apN => k_asm); (case apU => k_upd); (case apz => rw [sizeLine_eq]; simp only [List.size_toArray]; omega)); intro h' F' N'; (try k_sweep); k_steps) | ((with_reducible show wpAny _ _ (call (Value.builtin "str.lower") [Value.str _ _]) _ _ _); refine call_lower hokU ?_; (try dsimp only); k_steps) | ((with_reducible show wpAny _ _ (subscriptTail _ _ (Value.str _ _) (Value.int _ _)) _ _ _); k_dflt (refine' letter_itemE hfig ?lei ?_ ?lej ?lek; (case lei => omega); (case lej => with_unfolding_all rfl); (case lek => intro _; with_unfolding_all rfl)); intro t9'; (try dsimp only); k_steps) | ((with_reducible show wpAny _ _ (subscriptTail (PySem.Expr.Name _ _) (PySem.Expr.Name _ _) (Value.ref _) (Value.int _ _)) _ _ _); k_dflt (refine' PyProof.Rows.item_listL (News.isList (by k_asm) (by k_mem)) ?ilb ?ilc ?ild ?_ ?ile ?ilf; (case ilb => omega); (case ilc => omega); (case ild => with_reducible assumption); (case ile => with_unfolding_all rfl); (case ilf => intro _; with_unfolding_all rfl)); k_steps)))
      refine Hold.off ?_
      refine PyProof.Rows.len_list (items := fvs.toArray) (News.isList (by k_asm) (by k_mem)) (by simp only [List.size_toArray]; omega) ?_
      rw [show ((fvs.toArray.size : Nat) : Int) = (fg.length : Int) by rw [List.size_toArray, hfv]]
      (try dsimp only)
      (k_steps; repeat' (refine Hold.off ?_; first | ((with_reducible show wpAny _ _ (call (Value.builtin "list.append") [Value.ref _, _]) _ _ _); (with_unfolding_all refine' append_K ?apF ?apN ?apU ?_ ?apz; (case apF => k_asm); (case apN => k_asm); (case apU => k_upd); (case apz => rw [sizeLine_eq]; simp only [List.size_toArray]; omega)); intro h' F' N'; (try k_sweep); k_steps) | ((with_reducible show wpAny _ _ (call (Value.builtin "str.lower") [Value.str _ _]) _ _ _); refine call_lower hokU ?_; (try dsimp only); k_steps) | ((with_reducible show wpAny _ _ (subscriptTail _ _ (Value.str _ _) (Value.int _ _)) _ _ _); k_dflt (refine' letter_itemE hfig ?lei ?_ ?lej ?lek; (case lei => omega); (case lej => with_unfolding_all rfl); (case lek => intro _; with_unfolding_all rfl)); intro t9'; (try dsimp only); k_steps) | ((with_reducible show wpAny _ _ (subscriptTail (PySem.Expr.Name _ _) (PySem.Expr.Name _ _) (Value.ref _) (Value.int _ _)) _ _ _); k_dflt (refine' PyProof.Rows.item_listL (News.isList (by k_asm) (by k_mem)) ?ilb ?ilc ?ild ?_ ?ile ?ilf; (case ilb => omega); (case ilc => omega); (case ild => with_reducible assumption); (case ile => with_unfolding_all rfl); (case ilf => intro _; with_unfolding_all rfl)); k_steps)))
      refine Hold.off ?_
      refine LCg.CompSrc.range (n := fg.length) (by rfl) (by k_asm) (by k_asm) (by assumption) (up_small (by omega)) (up_size _) (by rw [sizeLine_eq]; omega) ?_
      intro g'
      refine restU_of (J := fun k ys own9 => own9 = [] ∧ IntsAre ys ((List.range k).map (digI fg))) ?finC ?turnC _ _ _ [] (Nat.zero_add _) ⟨rfl, .nil⟩
      case turnC =>
        rintro k v ys2 own9 I2 oI2 C oC D2 m₂ h tk E' hk hv ⟨rfl, hJ⟩ hC' hx' F' N' off' ne'
        obtain ⟨tk1, rfl⟩ := hv
        dsimp only [List.nil_append] at N' off'
        (k_steps; repeat' (refine Hold.off ?_; first | ((with_reducible show wpAny _ _ (call (Value.builtin "list.append") [Value.ref _, _]) _ _ _); (with_unfolding_all refine' append_K ?apF ?apN ?apU ?_ ?apz; (case apF => k_asm); (case apN => k_asm); (case apU => k_upd); (case apz => rw [sizeLine_eq]; simp only [List.size_toArray]; omega)); intro h' F' N'; (try k_sweep); k_steps) | ((with_reducible show wpAny _ _ (call (Value.builtin "str.lower") [Value.str _ _]) _ _ _); refine call_lower hokU ?_; (try dsimp only); k_steps) | ((with_reducible show wpAny _ _ (subscriptTail _ _ (Value.str _ _) (Value.int _ _)) _ _ _); k_dflt (refine' letter_itemE hfig ?lei ?_ ?lej ?lek; (case lei => omega); (case lej => with_unfolding_all rfl); (case lek => intro _; with_unfolding_all rfl)); intro t9'; (try dsimp only); k_steps) | ((with_reducible show wpAny _ _ (subscriptTail (PySem.Expr.Name _ _) (PySem.Expr.Name _ _) (Value.ref _) (Value.int _ _)) _ _ _); k_dflt (refine' PyProof.Rows.item_listL (News.isList (by k_asm) (by k_mem)) ?ilb ?ilc ?ild ?_ ?ile ?ilf; (case ilb => omega); (case ilc => omega); (case ild => with_reducible assumption); (case ile => with_unfolding_all rfl); (case ilf => intro _; with_unfolding_all rfl)); k_steps)))
        refine Hold.off ?_
        k_dflt (refine' PyProof.Rows.item_list_ints_negR (News.isList (by k_asm) (by k_mem)) hfs ?in1 ?in2 ?in3 ?in4 ?in5; (case in1 => omega); (case in2 => rw [List.length_map]; omega); (case in3 => omega); (case in5 => with_unfolding_all rfl))
        intro t8
        (try dsimp only)
        (k_steps; repeat' (refine Hold.off ?_; first | ((with_reducible show wpAny _ _ (call (Value.builtin "list.append") [Value.ref _, _]) _ _ _); (with_unfolding_all refine' append_K ?apF ?apN ?apU ?_ ?apz; (case apF => k_asm); (case apN => k_asm); (case apU => k_upd); (case apz => rw [sizeLine_eq]; simp only [List.size_toArray]; omega)); intro h' F' N'; (try k_sweep); k_steps) | ((with_reducible show wpAny _ _ (call (Value.builtin "str.lower") [Value.str _ _]) _ _ _); refine call_lower hokU ?_; (try dsimp only); k_steps) | ((with_reducible show wpAny _ _ (subscriptTail _ _ (Value.str _ _) (Value.int _ _)) _ _ _); k_dflt (refine' letter_itemE hfig ?lei ?_ ?lej ?lek; (case lei => omega); (case lej => with_unfolding_all rfl); (case lek => intro _; with_unfolding_all rfl)); intro t9'; (try dsimp only); k_steps) | ((with_reducible show wpAny _ _ (subscriptTail (PySem.Expr.Name _ _) (PySem.Expr.Name _ _) (Value.ref _) (Value.int _ _)) _ _ _); k_dflt (refine' PyProof.Rows.item_listL (News.isList (by k_asm) (by k_mem)) ?ilb ?ilc ?ild ?_ ?ile ?ilf; (case ilb => omega); (case ilc => omega); (case ild => with_reducible assumption); (case ile => with_unfolding_all rfl); (case ilf => intro _; with_unfolding_all rfl)); k_steps)))
        (try dsimp only)
        refine PyProof.Rows.mul_int ?mu9 (PySem.IntMulOk.of_left (PySem.intBits_le_64 (Int.lt_of_lt_of_le (by decide) (getD_le hfb _).1) (Int.lt_of_le_of_lt (getD_le hfb _).2 (by decide))))
        (try dsimp only)
        refine LCg.CompEnd.intro (by k_asm) (by assumption) _ (by kcf_all) off' trivial ⟨[], rfl, rfl, ?_⟩
        rw [List.range_succ, List.map_append]
        exact hJ.append (.cons (digI fg k) _ .nil)
      case finC =>
        rintro dvs own9 ⟨rfl, hJ⟩
        dsimp only [List.nil_append]
        have hdl : dvs.length = fg.length := by rw [hJ.length, List.length_map, List.length_range]
        (k_steps; repeat' (refine Hold.off ?_; first | ((with_reducible show wpAny _ _ (call (Value.builtin "list.append") [Value.ref _, _]) _ _ _); (with_unfolding_all refine' append_K ?apF ?apN ?apU ?_ ?apz; (case apF => k_asm); (case apN => k_asm); (case apU => k_upd); (case apz => rw [sizeLine_eq]; simp only [List.size_toArray]; omega)); intro h' F' N'; (try k_sweep); k_steps) | ((with_reducible show wpAny _ _ (call (Value.builtin "str.lower") [Value.str _ _]) _ _ _); refine call_lower hokU ?_; (try dsimp only); k_steps) | ((with_reducible show wpAny _ _ (subscriptTail _ _ (Value.str _ _) (Value.int _ _)) _ _ _); k_dflt (refine' letter_itemE hfig ?lei ?_ ?lej ?lek; (case lei => omega); (case lej => with_unfolding_all rfl); (case lek => intro _; with_unfolding_all rfl)); intro t9'; (try dsimp only); k_steps) | ((with_reducible show wpAny _ _ (subscriptTail (PySem.Expr.Name _ _) (PySem.Expr.Name _ _) (Value.ref _) (Value.int _ _)) _ _ _); k_dflt (refine' PyProof.Rows.item_listL (News.isList (by k_asm) (by k_mem)) ?ilb ?ilc ?ild ?_ ?ile ?ilf; (case ilb => omega); (case ilc => omega); (case ild => with_reducible assumption); (case ile => with_unfolding_all rfl); (case ilf => intro _; with_unfolding_all rfl)); k_steps)))
        refine Hold.off ?_
        k_dflt (refine' ap_walk ?gak1 ?gak2 ?gak3 ?gak4 ?gak5 ?gad ?gau hap.2 ?_; (case gak1 => k_asm); (case gak2 => k_asm); (case gak3 => k_asm); (case gak4 => k_asm); (case gak5 => k_asm); (case gad => exact Nat.le_of_ble_eq_true rfl); (case gau => exact Nat.le_of_ble_eq_true rfl))
        intro t9 h9 tk9 F9 N9
        rw [hap.1]
        (try dsimp only)
        clear hJ
        (k_steps; repeat' (refine Hold.off ?_; first | ((with_reducible show wpAny _ _ (call (Value.builtin "list.append") [Value.ref _, _]) _ _ _); (with_unfolding_all refine' append_K ?apF ?apN ?apU ?_ ?apz; (case apF => k_asm); (case apN => k_asm); (case apU => k_upd); (case apz => rw [sizeLine_eq]; simp only [List.size_toArray]; omega)); intro h' F' N'; (try k_sweep); k_steps) | ((with_reducible show wpAny _ _ (call (Value.builtin "str.lower") [Value.str _ _]) _ _ _); refine call_lower hokU ?_; (try dsimp only); k_steps) | ((with_reducible show wpAny _ _ (subscriptTail _ _ (Value.str _ _) (Value.int _ _)) _ _ _); k_dflt (refine' letter_itemE hfig ?lei ?_ ?lej ?lek; (case lei => omega); (case lej => with_unfolding_all rfl); (case lek => intro _; with_unfolding_all rfl)); intro t9'; (try dsimp only); k_steps) | ((with_reducible show wpAny _ _ (subscriptTail (PySem.Expr.Name _ _) (PySem.Expr.Name _ _) (Value.ref _) (Value.int _ _)) _ _ _); k_dflt (refine' PyProof.Rows.item_listL (News.isList (by k_asm) (by k_mem)) ?ilb ?ilc ?ild ?_ ?ile ?ilf; (case ilb => omega); (case ilc => omega); (case ild => with_reducible assumption); (case ile => with_unfolding_all rfl); (case ilf => intro _; with_unfolding_all rfl)); k_steps)))
        refine Hold.off ?_
        refine decode_figs (fun x hx => (hfb x hx).2) (by omega) ?_
        intro t10 k10
        (try dsimp only)
        (k_steps; repeat' (refine Hold.off ?_; first | ((with_reducible show wpAny _ _ (call (Value.builtin "list.append") [Value.ref _, _]) _ _ _); (with_unfolding_all refine' append_K ?apF ?apN ?apU ?_ ?apz; (case apF => k_asm); (case apN => k_asm); (case apU => k_upd); (case apz => rw [sizeLine_eq]; simp only [List.size_toArray]; omega)); intro h' F' N'; (try k_sweep); k_steps) | ((with_reducible show wpAny _ _ (call (Value.builtin "str.lower") [Value.str _ _]) _ _ _); refine call_lower hokU ?_; (try dsimp only); k_steps) | ((with_reducible show wpAny _ _ (subscriptTail _ _ (Value.str _ _) (Value.int _ _)) _ _ _); k_dflt (refine' letter_itemE hfig ?lei ?_ ?lej ?lek; (case lei => omega); (case lej => with_unfolding_all rfl); (case lek => intro _; with_unfolding_all rfl)); intro t9'; (try dsimp only); k_steps) | ((with_reducible show wpAny _ _ (subscriptTail (PySem.Expr.Name _ _) (PySem.Expr.Name _ _) (Value.ref _) (Value.int _ _)) _ _ _); k_dflt (refine' PyProof.Rows.item_listL (News.isList (by k_asm) (by k_mem)) ?ilb ?ilc ?ild ?_ ?ile ?ilf; (case ilb => omega); (case ilc => omega); (case ild => with_reducible assumption); (case ile => with_unfolding_all rfl); (case ilf => intro _; with_unfolding_all rfl)); k_steps)))
        refine Hold.off ?_
        k_dflt (refine LCg.ListComp_U (F₀ := by k_asm) (by with_unfolding_all rfl) (by decide) (by rfl) (by decide) (by rfl) ?_)
        (k_steps; repeat' (refine Hold.off ?_; first | ((with_reducible show wpAny _ _ (call (Value.builtin "list.append") [Value.ref _, _]) _ _ _); (with_unfolding_all refine' append_K ?apF ?apN ?apU ?_ ?apz; (case apF => k_asm); (case apN => k_asm); (case apU => k_upd); (case apz => rw [sizeLine_eq]; simp only [List.size_toArray]; omega)); intro h' F' N'; (try k_sweep); k_steps) | ((with_reducible show wpAny _ _ (call (Value.builtin "str.lower") [Value.str _ _]) _ _ _); refine call_lower hokU ?_; (try dsimp only); k_steps) | ((with_reducible show wpAny _ _ (subscriptTail _ _ (Value.str _ _) (Value.int _ _)) _ _ _); k_dflt (refine' letter_itemE hfig ?lei ?_ ?lej ?lek; (case lei => omega); (case lej => with_unfolding_all rfl); (case lek => intro _; with_unfolding_all rfl)); intro t9'; (try dsimp only); k_steps) | ((with_reducible show wpAny _ _ (subscriptTail (PySem.Expr.Name _ _) (PySem.Expr.Name _ _) (Value.ref _) (Value.int _ _)) _ _ _); k_dflt (refine' PyProof.Rows.item_listL (News.isList (by k_asm) (by k_mem)) ?ilb ?ilc ?ild ?_ ?ile ?ilf; (case ilb => omega); (case ilc => omega); (case ild => with_reducible assumption); (case ile => with_unfolding_all rfl); (case ilf => intro _; with_unfolding_all rfl)); k_steps)))
        refine Hold.off ?_
        refine LCg.CompSrc.ledger (by rfl) (by k_asm) (by k_asm) (by k_mem) (by rw [sizeLine_eq]; simp only [List.size_toArray]; omega) ?_
        intro g8
        refine restU_of (J := fun i ys own9 => own9 = [] ∧ StrsAre ys ((fg.take i).map fun d => sL [65 + d])) ?finD ?turnD _ _ _ [] (Nat.zero_add _) ⟨rfl, .nil⟩
        case turnD =>
          rintro k v ys2 own9 I2 oI2 C oC D2 m₂ h tk E' hk hv ⟨rfl, hJ⟩ hC' hx' F' N' off' ne'
          have hk9 : k < fg.length := by simpa [hfv] using hk
          obtain ⟨tk1, hv1⟩ := ints_at (k := k) hfs (by rw [List.length_map]; exact hk9)
          rw [show (fg.map fun (n : Nat) => (n : Int)).getD k 0 = ((fg[k] : Nat) : Int) by rw [List.getD_eq_getElem?_getD, List.getElem?_map, List.getElem?_eq_getElem hk9]; rfl] at hv1
          have hv2 : v = .int ((fg[k] : Nat) : Int) tk1 := by
            have := hv1.symm.trans (by simpa using hv)
            exact (Option.some.inj this).symm
          subst hv2
          have hfig : ((fg[k] : Nat) : Int) = ((fg[k] : Nat) : Int) := rfl
          have hf15 := (hfb fg[k] (List.getElem_mem hk9)).2
          have hokU : okS (sL [65 + fg[k]]) := okS_one (okc_AP (by omega))
          dsimp only [List.nil_append] at N' off'
          (k_steps; repeat' (refine Hold.off ?_; first | ((with_reducible show wpAny _ _ (call (Value.builtin "list.append") [Value.ref _, _]) _ _ _); (with_unfolding_all refine' append_K ?apF ?apN ?apU ?_ ?apz; (case apF => k_asm); (case apN => k_asm); (case apU => k_upd); (case apz => rw [sizeLine_eq]; simp only [List.size_toArray]; omega)); intro h' F' N'; (try k_sweep); k_steps) | ((with_reducible show wpAny _ _ (call (Value.builtin "str.lower") [Value.str _ _]) _ _ _); refine call_lower hokU ?_; (try dsimp only); k_steps) | ((with_reducible show wpAny _ _ (subscriptTail _ _ (Value.str _ _) (Value.int _ _)) _ _ _); k_dflt (refine' letter_itemE hfig ?lei ?_ ?lej ?lek; (case lei => omega); (case lej => with_unfolding_all rfl); (case lek => intro _; with_unfolding_all rfl)); intro t9'; (try dsimp only); k_steps) | ((with_reducible show wpAny _ _ (subscriptTail (PySem.Expr.Name _ _) (PySem.Expr.Name _ _) (Value.ref _) (Value.int _ _)) _ _ _); k_dflt (refine' PyProof.Rows.item_listL (News.isList (by k_asm) (by k_mem)) ?ilb ?ilc ?ild ?_ ?ile ?ilf; (case ilb => omega); (case ilc => omega); (case ild => with_reducible assumption); (case ile => with_unfolding_all rfl); (case ilf => intro _; with_unfolding_all rfl)); k_steps)))
          refine LCg.CompEnd.intro (by k_asm) (by assumption) _ (by kcf_all) off' (.inr ⟨_, by k_mem, rfl, _, rfl⟩) ⟨[], rfl, rfl, ?_⟩
          rw [take_map_next (List.getElem?_eq_getElem hk9)]
          exact StrsAre.snoc' hJ
        case finD =>
          rintro lvs own9 ⟨rfl, hJ⟩
          dsimp only [List.nil_append]
          rw [show fg.take fvs.toArray.size = fg from List.take_of_length_le (by simp only [List.size_toArray]; omega)] at hJ
          (k_steps; repeat' (refine Hold.off ?_; first | ((with_reducible show wpAny _ _ (call (Value.builtin "list.append") [Value.ref _, _]) _ _ _); (with_unfolding_all refine' append_K ?apF ?apN ?apU ?_ ?apz; (case apF => k_asm); (case apN => k_asm); (case apU => k_upd); (case apz => rw [sizeLine_eq]; simp only [List.size_toArray]; omega)); intro h' F' N'; (try k_sweep); k_steps) | ((with_reducible show wpAny _ _ (call (Value.builtin "str.lower") [Value.str _ _]) _ _ _); refine call_lower hokU ?_; (try dsimp only); k_steps) | ((with_reducible show wpAny _ _ (subscriptTail _ _ (Value.str _ _) (Value.int _ _)) _ _ _); k_dflt (refine' letter_itemE hfig ?lei ?_ ?lej ?lek; (case lei => omega); (case lej => with_unfolding_all rfl); (case lek => intro _; with_unfolding_all rfl)); intro t9'; (try dsimp only); k_steps) | ((with_reducible show wpAny _ _ (subscriptTail (PySem.Expr.Name _ _) (PySem.Expr.Name _ _) (Value.ref _) (Value.int _ _)) _ _ _); k_dflt (refine' PyProof.Rows.item_listL (News.isList (by k_asm) (by k_mem)) ?ilb ?ilc ?ild ?_ ?ile ?ilf; (case ilb => omega); (case ilc => omega); (case ild => with_reducible assumption); (case ile => with_unfolding_all rfl); (case ilf => intro _; with_unfolding_all rfl)); k_steps)))
          refine Hold.off ?_
          refine PyProof.Rows.join_listW (items := lvs.toArray) (ys := fg.map fun d => sL [65 + d]) (News.isList (by k_asm) (by k_mem)) hJ (by decide) ?hw9 ?_
          case hw9 =>
            have hs9 := sum_short (ys := fg.map fun d => sL [65 + d]) (fun y hy => by
              obtain ⟨d, _, rfl⟩ := List.mem_map.mp hy
              exact one_len _)
            rw [List.length_map] at hs9 ⊢
            omega
          intro t11 k11
          rw [join_ones]
          (try dsimp only)
          (k_steps; repeat' (refine Hold.off ?_; first | ((with_reducible show wpAny _ _ (call (Value.builtin "list.append") [Value.ref _, _]) _ _ _); (with_unfolding_all refine' append_K ?apF ?apN ?apU ?_ ?apz; (case apF => k_asm); (case apN => k_asm); (case apU => k_upd); (case apz => rw [sizeLine_eq]; simp only [List.size_toArray]; omega)); intro h' F' N'; (try k_sweep); k_steps) | ((with_reducible show wpAny _ _ (call (Value.builtin "str.lower") [Value.str _ _]) _ _ _); refine call_lower hokU ?_; (try dsimp only); k_steps) | ((with_reducible show wpAny _ _ (subscriptTail _ _ (Value.str _ _) (Value.int _ _)) _ _ _); k_dflt (refine' letter_itemE hfig ?lei ?_ ?lej ?lek; (case lei => omega); (case lej => with_unfolding_all rfl); (case lek => intro _; with_unfolding_all rfl)); intro t9'; (try dsimp only); k_steps) | ((with_reducible show wpAny _ _ (subscriptTail (PySem.Expr.Name _ _) (PySem.Expr.Name _ _) (Value.ref _) (Value.int _ _)) _ _ _); k_dflt (refine' PyProof.Rows.item_listL (News.isList (by k_asm) (by k_mem)) ?ilb ?ilc ?ild ?_ ?ile ?ilf; (case ilb => omega); (case ilc => omega); (case ild => with_reducible assumption); (case ile => with_unfolding_all rfl); (case ilf => intro _; with_unfolding_all rfl)); k_steps)))
          all_goals try exact bne_no (by with_reducible assumption)
          refine Hold.off ?_
          k_dflt (refine' ties_walk (NA := NA) (WA := WA) (kn := nn) (kw := wv.length) (nvs := nvs) (wvs := wv) (ns := namesF f (flT ts)) (ws := ts.map (·.1)) ?gak1 ?gak2 ?gak3 ?gak4 ?gak5 ?gad ?gau ?gna ?gwa hns hJw rfl (by rw [List.length_map]; exact hts) (names_ok hf) ?_; (case gak1 => k_asm); (case gak2 => k_asm); (case gak3 => k_asm); (case gak4 => k_asm); (case gak5 => k_asm); (case gad => exact Nat.le_of_ble_eq_true rfl); (case gau => exact Nat.le_of_ble_eq_true rfl); (case gna => k_mem); (case gwa => k_mem))
          generalize hps9 : tiesS (namesF f (flT ts)) (ts.map (·.1)) 6 = ps
          intro tA tdx tl tt tn tvs own3 h12 tk12 F12 N12 hown3 hps
          have N13 := cb_drop (news := (tA, instObj 203 tdx) :: (tdx, dictOf [⟨PyData.keyHash w.params "_headers", .str "_headers" tt, .ref tl⟩] 1) :: (tl, listOf tvs.toArray tn) :: (FA, listOf fvs.toArray fn) :: (NA, listOf nvs.toArray nn) :: (WA, LCg.lst wv) :: (s1.heap.objs.size + 1 + 1, oF) :: (s1.heap.objs.size + 1, oc1) :: (own3 ++ own)) N12 (by kpf_close)
          clear N12
          (try dsimp only)
          (k_steps; repeat' (refine Hold.off ?_; first | ((with_reducible show wpAny _ _ (call (Value.builtin "list.append") [Value.ref _, _]) _ _ _); (with_unfolding_all refine' append_K ?apF ?apN ?apU ?_ ?apz; (case apF => k_asm); (case apN => k_asm); (case apU => k_upd); (case apz => rw [sizeLine_eq]; simp only [List.size_toArray]; omega)); intro h' F' N'; (try k_sweep); k_steps) | ((with_reducible show wpAny _ _ (call (Value.builtin "str.lower") [Value.str _ _]) _ _ _); refine call_lower hokU ?_; (try dsimp only); k_steps) | ((with_reducible show wpAny _ _ (subscriptTail _ _ (Value.str _ _) (Value.int _ _)) _ _ _); k_dflt (refine' letter_itemE hfig ?lei ?_ ?lej ?lek; (case lei => omega); (case lej => with_unfolding_all rfl); (case lek => intro _; with_unfolding_all rfl)); intro t9'; (try dsimp only); k_steps) | ((with_reducible show wpAny _ _ (subscriptTail (PySem.Expr.Name _ _) (PySem.Expr.Name _ _) (Value.ref _) (Value.int _ _)) _ _ _); k_dflt (refine' PyProof.Rows.item_listL (News.isList (by k_asm) (by k_mem)) ?ilb ?ilc ?ild ?_ ?ile ?ilf; (case ilb => omega); (case ilc => omega); (case ild => with_reducible assumption); (case ile => with_unfolding_all rfl); (case ilf => intro _; with_unfolding_all rfl)); k_steps)))
          refine Hold.off ?_
          refine PyProof.Rows.len_list (items := fvs.toArray) (News.isList (by k_asm) (by k_mem)) (by simp only [List.size_toArray]; omega) ?_
          rw [show ((fvs.toArray.size : Nat) : Int) = (fg.length : Int) by rw [List.size_toArray, hfv]]
          (try dsimp only)
          (k_steps; repeat' (refine Hold.off ?_; first | ((with_reducible show wpAny _ _ (call (Value.builtin "list.append") [Value.ref _, _]) _ _ _); (with_unfolding_all refine' append_K ?apF ?apN ?apU ?_ ?apz; (case apF => k_asm); (case apN => k_asm); (case apU => k_upd); (case apz => rw [sizeLine_eq]; simp only [List.size_toArray]; omega)); intro h' F' N'; (try k_sweep); k_steps) | ((with_reducible show wpAny _ _ (call (Value.builtin "str.lower") [Value.str _ _]) _ _ _); refine call_lower hokU ?_; (try dsimp only); k_steps) | ((with_reducible show wpAny _ _ (subscriptTail _ _ (Value.str _ _) (Value.int _ _)) _ _ _); k_dflt (refine' letter_itemE hfig ?lei ?_ ?lej ?lek; (case lei => omega); (case lej => with_unfolding_all rfl); (case lek => intro _; with_unfolding_all rfl)); intro t9'; (try dsimp only); k_steps) | ((with_reducible show wpAny _ _ (subscriptTail (PySem.Expr.Name _ _) (PySem.Expr.Name _ _) (Value.ref _) (Value.int _ _)) _ _ _); k_dflt (refine' PyProof.Rows.item_listL (News.isList (by k_asm) (by k_mem)) ?ilb ?ilc ?ild ?_ ?ile ?ilf; (case ilb => omega); (case ilc => omega); (case ild => with_reducible assumption); (case ile => with_unfolding_all rfl); (case ilf => intro _; with_unfolding_all rfl)); k_steps)))
          refine Hold.off ?_
          refine PyProof.Rows.len_list (items := fvs.toArray) (News.isList (by k_asm) (by k_mem)) (by simp only [List.size_toArray]; omega) ?_
          rw [show ((fvs.toArray.size : Nat) : Int) = (fg.length : Int) by rw [List.size_toArray, hfv]]
          (try dsimp only)
          (k_steps; repeat' (refine Hold.off ?_; first | ((with_reducible show wpAny _ _ (call (Value.builtin "list.append") [Value.ref _, _]) _ _ _); (with_unfolding_all refine' append_K ?apF ?apN ?apU ?_ ?apz; (case apF => k_asm); (case apN => k_asm); (case apU => k_upd); (case apz => rw [sizeLine_eq]; simp only [List.size_toArray]; omega)); intro h' F' N'; (try k_sweep); k_steps) | ((with_reducible show wpAny _ _ (call (Value.builtin "str.lower") [Value.str _ _]) _ _ _); refine call_lower hokU ?_; (try dsimp only); k_steps) | ((with_reducible show wpAny _ _ (subscriptTail _ _ (Value.str _ _) (Value.int _ _)) _ _ _); k_dflt (refine' letter_itemE hfig ?lei ?_ ?lej ?lek; (case lei => omega); (case lej => with_unfolding_all rfl); (case lek => intro _; with_unfolding_all rfl)); intro t9'; (try dsimp only); k_steps) | ((with_reducible show wpAny _ _ (subscriptTail (PySem.Expr.Name _ _) (PySem.Expr.Name _ _) (Value.ref _) (Value.int _ _)) _ _ _); k_dflt (refine' PyProof.Rows.item_listL (News.isList (by k_asm) (by k_mem)) ?ilb ?ilc ?ild ?_ ?ile ?ilf; (case ilb => omega); (case ilc => omega); (case ild => with_reducible assumption); (case ile => with_unfolding_all rfl); (case ilf => intro _; with_unfolding_all rfl)); k_steps)))
          refine Hold.off ?_
          obtain ⟨wa, wb, wc, wd, fp, fq, fr, fs, ks, vs9, S, hwT, hfT, hmT, hL⟩ := laid_T hts hok
          have hkT := keys_T hf hok hwT hL hps9
          have hps3 : PairsIn ((FA, listOf fvs.toArray fn) :: (NA, listOf nvs.toArray nn) :: (WA, LCg.lst wv) :: (s1.heap.objs.size + 1 + 1, oF) :: (s1.heap.objs.size + 1, oc1) :: (own3 ++ own)) tvs ps := hps.mono (fun p hp => .tail _ (.tail _ (.tail _ (.tail _ (.tail _ (List.mem_append_left _ hp))))))
          have htv : tvs.length ≤ 12 := by rw [hps.length, hkT.2.2.2.2]; exact hL.le
          (with_reducible rename News _ _ _ _ => N13)
          k_dflt (refine' keys_walk (ps := ps) ?gak1 ?gak2 ?gak3 N13 ?gak5 ?gad ?gau (by omega) hps3 ?_; (case gak1 => k_asm); (case gak2 => k_asm); (case gak3 => k_asm); (case gak5 => k_asm); (case gad => exact Nat.le_of_ble_eq_true rfl); (case gau => exact Nat.le_of_ble_eq_true rfl))
          clear N13
          intro KA kys kn9 h13 tk13 F13 N13 hky _
          rw [hkT.1] at hky
          (try dsimp only)
          (k_steps; repeat' (refine Hold.off ?_; first | ((with_reducible show wpAny _ _ (call (Value.builtin "list.append") [Value.ref _, _]) _ _ _); (with_unfolding_all refine' append_K ?apF ?apN ?apU ?_ ?apz; (case apF => k_asm); (case apN => k_asm); (case apU => k_upd); (case apz => rw [sizeLine_eq]; simp only [List.size_toArray]; omega)); intro h' F' N'; (try k_sweep); k_steps) | ((with_reducible show wpAny _ _ (call (Value.builtin "str.lower") [Value.str _ _]) _ _ _); refine call_lower hokU ?_; (try dsimp only); k_steps) | ((with_reducible show wpAny _ _ (subscriptTail _ _ (Value.str _ _) (Value.int _ _)) _ _ _); k_dflt (refine' letter_itemE hfig ?lei ?_ ?lej ?lek; (case lei => omega); (case lej => with_unfolding_all rfl); (case lek => intro _; with_unfolding_all rfl)); intro t9'; (try dsimp only); k_steps) | ((with_reducible show wpAny _ _ (subscriptTail (PySem.Expr.Name _ _) (PySem.Expr.Name _ _) (Value.ref _) (Value.int _ _)) _ _ _); k_dflt (refine' PyProof.Rows.item_listL (News.isList (by k_asm) (by k_mem)) ?ilb ?ilc ?ild ?_ ?ile ?ilf; (case ilb => omega); (case ilc => omega); (case ild => with_reducible assumption); (case ile => with_unfolding_all rfl); (case ilf => intro _; with_unfolding_all rfl)); k_steps)))
          refine Hold.off ?_
          have hok1 := order_of (fl := flT ts) hf hkT.2.2.1 hL.okk hL.ltk hL.lnk hL.sk
          k_dflt (refine' order_walk (ss := ks.map (nameF f (flT ts))) ?gak1 ?gak2 ?gak3 N13 ?gak5 ?gad ?gau hky (names_okS hf hkT.2.2.1) names_len (by rw [List.length_map]; exact hL.le) (case_len hL.ne) hok1.1 hok1.2.1 hok1.2.2.1 ?_; (case gak1 => k_asm); (case gak2 => k_asm); (case gak3 => k_asm); (case gak5 => k_asm); (case gad => exact Nat.le_of_ble_eq_true rfl); (case gau => exact Nat.le_of_ble_eq_true rfl))
          rw [hok1.2.2.2]
          clear N13
          intro t14 h14 tk14 F14 N14
          (try dsimp only)
          (k_steps; repeat' (refine Hold.off ?_; first | ((with_reducible show wpAny _ _ (call (Value.builtin "list.append") [Value.ref _, _]) _ _ _); (with_unfolding_all refine' append_K ?apF ?apN ?apU ?_ ?apz; (case apF => k_asm); (case apN => k_asm); (case apU => k_upd); (case apz => rw [sizeLine_eq]; simp only [List.size_toArray]; omega)); intro h' F' N'; (try k_sweep); k_steps) | ((with_reducible show wpAny _ _ (call (Value.builtin "str.lower") [Value.str _ _]) _ _ _); refine call_lower hokU ?_; (try dsimp only); k_steps) | ((with_reducible show wpAny _ _ (subscriptTail _ _ (Value.str _ _) (Value.int _ _)) _ _ _); k_dflt (refine' letter_itemE hfig ?lei ?_ ?lej ?lek; (case lei => omega); (case lej => with_unfolding_all rfl); (case lek => intro _; with_unfolding_all rfl)); intro t9'; (try dsimp only); k_steps) | ((with_reducible show wpAny _ _ (subscriptTail (PySem.Expr.Name _ _) (PySem.Expr.Name _ _) (Value.ref _) (Value.int _ _)) _ _ _); k_dflt (refine' PyProof.Rows.item_listL (News.isList (by k_asm) (by k_mem)) ?ilb ?ilc ?ild ?_ ?ile ?ilf; (case ilb => omega); (case ilc => omega); (case ild => with_reducible assumption); (case ile => with_unfolding_all rfl); (case ilf => intro _; with_unfolding_all rfl)); k_steps)))
          refine Hold.off ?_
          have hSl : S.length ≤ 12 := by rw [← hL.sk]; unfold sortK; rw [List.length_map]; exact hL.lnk
          k_dflt (refine ListComp_TS (F₀ := by k_asm) (by with_unfolding_all rfl) (by decide) (by rfl) (by decide) (by rfl) ?_)
          (k_steps; repeat' (refine Hold.off ?_; first | ((with_reducible show wpAny _ _ (call (Value.builtin "list.append") [Value.ref _, _]) _ _ _); (with_unfolding_all refine' append_K ?apF ?apN ?apU ?_ ?apz; (case apF => k_asm); (case apN => k_asm); (case apU => k_upd); (case apz => rw [sizeLine_eq]; simp only [List.size_toArray]; omega)); intro h' F' N'; (try k_sweep); k_steps) | ((with_reducible show wpAny _ _ (call (Value.builtin "str.lower") [Value.str _ _]) _ _ _); refine call_lower hokU ?_; (try dsimp only); k_steps) | ((with_reducible show wpAny _ _ (subscriptTail _ _ (Value.str _ _) (Value.int _ _)) _ _ _); k_dflt (refine' letter_itemE hfig ?lei ?_ ?lej ?lek; (case lei => omega); (case lej => with_unfolding_all rfl); (case lek => intro _; with_unfolding_all rfl)); intro t9'; (try dsimp only); k_steps) | ((with_reducible show wpAny _ _ (subscriptTail (PySem.Expr.Name _ _) (PySem.Expr.Name _ _) (Value.ref _) (Value.int _ _)) _ _ _); k_dflt (refine' PyProof.Rows.item_listL (News.isList (by k_asm) (by k_mem)) ?ilb ?ilc ?ild ?_ ?ile ?ilf; (case ilb => omega); (case ilc => omega); (case ild => with_reducible assumption); (case ile => with_unfolding_all rfl); (case ilf => intro _; with_unfolding_all rfl)); k_steps)))
          refine ⟨_, _, _, rfl, by rfl, ?asc, by k_asm, by k_asm, ?siz, ?res⟩
          case asc => exact sign_ascii (fun k hk => hf.2 k (hL.s4 k hk))
          case siz => rw [sign_size, List.length_map, sizeLine_eq]; omega
          case res =>
            rintro s2 ⟨g9, rfl⟩
            refine restT_of (J := fun i ys => ys.length = lowsQ (flagQ fp fq fr fs) (S.take i)) ?finE ?turnE _ _ _ (Nat.zero_add _) (by simp [lowsQ])
            case turnE =>
              intro i v ys2 I3 oI3 C oC D2 m₂ h tk E' hi hv hJ hC' hx' F' N' off' ne'
              obtain ⟨c, u, hc, rfl⟩ := hv
              have hc2 := sign_at hc
              rw [List.getElem?_map] at hc2
              obtain ⟨k9, hk9, hc3⟩ := Option.map_eq_some_iff.mp hc2
              subst hc3
              have hk4 := hL.s4 k9 (List.mem_of_getElem? hk9)
              clear hc hc2
              (k_steps; repeat' (refine Hold.off ?_; first | ((with_reducible show wpAny _ _ (call (Value.builtin "list.append") [Value.ref _, _]) _ _ _); (with_unfolding_all refine' append_K ?apF ?apN ?apU ?_ ?apz; (case apF => k_asm); (case apN => k_asm); (case apU => k_upd); (case apz => rw [sizeLine_eq]; simp only [List.size_toArray]; omega)); intro h' F' N'; (try k_sweep); k_steps) | ((with_reducible show wpAny _ _ (call (Value.builtin "str.lower") [Value.str _ _]) _ _ _); refine call_lower hokU ?_; (try dsimp only); k_steps) | ((with_reducible show wpAny _ _ (subscriptTail _ _ (Value.str _ _) (Value.int _ _)) _ _ _); k_dflt (refine' letter_itemE hfig ?lei ?_ ?lej ?lek; (case lei => omega); (case lej => with_unfolding_all rfl); (case lek => intro _; with_unfolding_all rfl)); intro t9'; (try dsimp only); k_steps) | ((with_reducible show wpAny _ _ (subscriptTail (PySem.Expr.Name _ _) (PySem.Expr.Name _ _) (Value.ref _) (Value.int _ _)) _ _ _); k_dflt (refine' PyProof.Rows.item_listL (News.isList (by k_asm) (by k_mem)) ?ilb ?ilc ?ild ?_ ?ile ?ilf; (case ilb => omega); (case ilc => omega); (case ild => with_reducible assumption); (case ile => with_unfolding_all rfl); (case ilf => intro _; with_unfolding_all rfl)); k_steps)))
              all_goals (refine LCg.CompEnd.intro (by k_asm) (by assumption) _ (by kpf_close) off' trivial ⟨rfl, ?_⟩)
              · rw [lows_next hfT hk9 hk4 (occ_chr (hf.2 k9 hk4) (by assumption)), List.length_append, hJ]; rfl
              · rw [lows_next hfT hk9 hk4 (occ_chr (hf.2 k9 hk4) (by assumption)), hJ]; rfl
            case finE =>
              intro zs hJ
              rw [sign_size, List.length_map, List.take_length] at hJ
              (k_steps; repeat' (refine Hold.off ?_; first | ((with_reducible show wpAny _ _ (call (Value.builtin "list.append") [Value.ref _, _]) _ _ _); (with_unfolding_all refine' append_K ?apF ?apN ?apU ?_ ?apz; (case apF => k_asm); (case apN => k_asm); (case apU => k_upd); (case apz => rw [sizeLine_eq]; simp only [List.size_toArray]; omega)); intro h' F' N'; (try k_sweep); k_steps) | ((with_reducible show wpAny _ _ (call (Value.builtin "str.lower") [Value.str _ _]) _ _ _); refine call_lower hokU ?_; (try dsimp only); k_steps) | ((with_reducible show wpAny _ _ (subscriptTail _ _ (Value.str _ _) (Value.int _ _)) _ _ _); k_dflt (refine' letter_itemE hfig ?lei ?_ ?lej ?lek; (case lei => omega); (case lej => with_unfolding_all rfl); (case lek => intro _; with_unfolding_all rfl)); intro t9'; (try dsimp only); k_steps) | ((with_reducible show wpAny _ _ (subscriptTail (PySem.Expr.Name _ _) (PySem.Expr.Name _ _) (Value.ref _) (Value.int _ _)) _ _ _); k_dflt (refine' PyProof.Rows.item_listL (News.isList (by k_asm) (by k_mem)) ?ilb ?ilc ?ild ?_ ?ile ?ilf; (case ilb => omega); (case ilc => omega); (case ild => with_reducible assumption); (case ile => with_unfolding_all rfl); (case ilf => intro _; with_unfolding_all rfl)); k_steps)))
              refine Hold.off ?_
              refine PyProof.Rows.len_list (items := zs.toArray) (News.isList (by k_asm) (by k_mem)) (by simp only [List.size_toArray]; have := lows_le (flagQ fp fq fr fs) S; omega) ?_
              rw [show ((zs.toArray.size : Nat) : Int) = ((lowsQ (flagQ fp fq fr fs) S : Nat) : Int) by rw [List.size_toArray, hJ]]
              (try dsimp only)
              (k_steps; repeat' (refine Hold.off ?_; first | ((with_reducible show wpAny _ _ (call (Value.builtin "list.append") [Value.ref _, _]) _ _ _); (with_unfolding_all refine' append_K ?apF ?apN ?apU ?_ ?apz; (case apF => k_asm); (case apN => k_asm); (case apU => k_upd); (case apz => rw [sizeLine_eq]; simp only [List.size_toArray]; omega)); intro h' F' N'; (try k_sweep); k_steps) | ((with_reducible show wpAny _ _ (call (Value.builtin "str.lower") [Value.str _ _]) _ _ _); refine call_lower hokU ?_; (try dsimp only); k_steps) | ((with_reducible show wpAny _ _ (subscriptTail _ _ (Value.str _ _) (Value.int _ _)) _ _ _); k_dflt (refine' letter_itemE hfig ?lei ?_ ?lej ?lek; (case lei => omega); (case lej => with_unfolding_all rfl); (case lek => intro _; with_unfolding_all rfl)); intro t9'; (try dsimp only); k_steps) | ((with_reducible show wpAny _ _ (subscriptTail (PySem.Expr.Name _ _) (PySem.Expr.Name _ _) (Value.ref _) (Value.int _ _)) _ _ _); k_dflt (refine' PyProof.Rows.item_listL (News.isList (by k_asm) (by k_mem)) ?ilb ?ilc ?ild ?_ ?ile ?ilf; (case ilb => omega); (case ilc => omega); (case ild => with_reducible assumption); (case ile => with_unfolding_all rfl); (case ilf => intro _; with_unfolding_all rfl)); k_steps)))
              refine Hold.off ?_
              (with_reducible rename News _ _ _ _ => N15)
              have N16 := cb_drop (news := (tA, instObj 203 tdx) :: (tdx, dictOf [⟨PyData.keyHash w.params "_headers", .str "_headers" tt, .ref tl⟩] 1) :: (tl, listOf tvs.toArray tn) :: (FA, listOf fvs.toArray fn) :: (NA, listOf nvs.toArray nn) :: (WA, LCg.lst wv) :: (s1.heap.objs.size + 1 + 1, oF) :: (s1.heap.objs.size + 1, oc1) :: (own3 ++ own)) N15 (by kpf_close)
              clear N15
              k_dflt (refine' values_walk (ps := ps) ?gak1 ?gak2 ?gak3 N16 ?gak5 ?gad ?gau (by omega) hps3 ?_; (case gak1 => k_asm); (case gak2 => k_asm); (case gak3 => k_asm); (case gak5 => k_asm); (case gad => exact Nat.le_of_ble_eq_true rfl); (case gau => exact Nat.le_of_ble_eq_true rfl))
              clear N16
              intro VA yvs vn9 h16 tk16 F16 N16 hvy _
              rw [hkT.2.1] at hvy
              (try dsimp only)
              (k_steps; repeat' (refine Hold.off ?_; first | ((with_reducible show wpAny _ _ (call (Value.builtin "list.append") [Value.ref _, _]) _ _ _); (with_unfolding_all refine' append_K ?apF ?apN ?apU ?_ ?apz; (case apF => k_asm); (case apN => k_asm); (case apU => k_upd); (case apz => rw [sizeLine_eq]; simp only [List.size_toArray]; omega)); intro h' F' N'; (try k_sweep); k_steps) | ((with_reducible show wpAny _ _ (call (Value.builtin "str.lower") [Value.str _ _]) _ _ _); refine call_lower hokU ?_; (try dsimp only); k_steps) | ((with_reducible show wpAny _ _ (subscriptTail _ _ (Value.str _ _) (Value.int _ _)) _ _ _); k_dflt (refine' letter_itemE hfig ?lei ?_ ?lej ?lek; (case lei => omega); (case lej => with_unfolding_all rfl); (case lek => intro _; with_unfolding_all rfl)); intro t9'; (try dsimp only); k_steps) | ((with_reducible show wpAny _ _ (subscriptTail (PySem.Expr.Name _ _) (PySem.Expr.Name _ _) (Value.ref _) (Value.int _ _)) _ _ _); k_dflt (refine' PyProof.Rows.item_listL (News.isList (by k_asm) (by k_mem)) ?ilb ?ilc ?ild ?_ ?ile ?ilf; (case ilb => omega); (case ilc => omega); (case ild => with_reducible assumption); (case ile => with_unfolding_all rfl); (case ilf => intro _; with_unfolding_all rfl)); k_steps)))
              refine Hold.off ?_
              have hok2 := order_of (fl := flT ts) hf hkT.2.2.2.1 hL.okv hL.ltv hL.lnv hL.sv
              k_dflt (refine' order_walk (ss := vs9.map (nameF f (flT ts))) ?gak1 ?gak2 ?gak3 N16 ?gak5 ?gad ?gau hvy (names_okS hf hkT.2.2.2.1) names_len (by rw [List.length_map, ← hL.len]; exact hL.le) (case_len (by rw [← hL.len]; exact hL.ne)) hok2.1 hok2.2.1 hok2.2.2.1 ?_; (case gak1 => k_asm); (case gak2 => k_asm); (case gak3 => k_asm); (case gak5 => k_asm); (case gad => exact Nat.le_of_ble_eq_true rfl); (case gau => exact Nat.le_of_ble_eq_true rfl))
              rw [hok2.2.2.2]
              clear N16
              intro t17 h17 tk17 F17 N17
              (try dsimp only)
              (k_steps; repeat' (refine Hold.off ?_; first | ((with_reducible show wpAny _ _ (call (Value.builtin "list.append") [Value.ref _, _]) _ _ _); (with_unfolding_all refine' append_K ?apF ?apN ?apU ?_ ?apz; (case apF => k_asm); (case apN => k_asm); (case apU => k_upd); (case apz => rw [sizeLine_eq]; simp only [List.size_toArray]; omega)); intro h' F' N'; (try k_sweep); k_steps) | ((with_reducible show wpAny _ _ (call (Value.builtin "str.lower") [Value.str _ _]) _ _ _); refine call_lower hokU ?_; (try dsimp only); k_steps) | ((with_reducible show wpAny _ _ (subscriptTail _ _ (Value.str _ _) (Value.int _ _)) _ _ _); k_dflt (refine' letter_itemE hfig ?lei ?_ ?lej ?lek; (case lei => omega); (case lej => with_unfolding_all rfl); (case lek => intro _; with_unfolding_all rfl)); intro t9'; (try dsimp only); k_steps) | ((with_reducible show wpAny _ _ (subscriptTail (PySem.Expr.Name _ _) (PySem.Expr.Name _ _) (Value.ref _) (Value.int _ _)) _ _ _); k_dflt (refine' PyProof.Rows.item_listL (News.isList (by k_asm) (by k_mem)) ?ilb ?ilc ?ild ?_ ?ile ?ilf; (case ilb => omega); (case ilc => omega); (case ild => with_reducible assumption); (case ile => with_unfolding_all rfl); (case ilf => intro _; with_unfolding_all rfl)); k_steps)))
              refine Hold.off ?_
              have hfg2 : fg = (reps [wa, wb, wc, wd]).map f := by rw [← hfg, hwT, figs_four]
              (rename _ ∈ List.map _ ts => hM)
              (rename ∀ a, a ∈ List.map _ ts → a ≤ _ => hMle)
              refine withMem hM fun M9 e9 => ?_
              subst e9
              have hleft := left_N (n := fg.length) (by rw [hfg2, List.length_map, reps_len]) (by rw [← hmT]; exact hM) (by rw [← hmT]; exact hMle)
              have hlv : lev (fg.map fun d => 65 + d) (S.map (chrF f (flT ts))) ((2 * if 2 * M9 - (fg.length : Int) > (fg.length : Int).fmod 2 then 2 * M9 - (fg.length : Int) else (fg.length : Int).fmod 2) + ((lowsQ (flagQ fp fq fr fs) S : Nat) : Int)) = (2 * if 2 * M9 - (fg.length : Int) > (fg.length : Int).fmod 2 then 2 * M9 - (fg.length : Int) else (fg.length : Int).fmod 2) + ((lowsQ (flagQ fp fq fr fs) S : Nat) : Int) := by
                have h9 := laid_lev (p := fp) (q := fq) (r := fr) (s := fs) hL hf
                rw [hleft, hfT, hfg2, List.map_map]
                have e9 : (2 * ((leftN4 wa wb wc wd : Nat) : Int) + ((lowsQ (flagQ fp fq fr fs) S : Nat) : Int)) = ((2 * leftN4 wa wb wc wd + lowsQ (flagQ fp fq fr fs) S : Nat) : Int) := by omega
                rw [e9]
                exact h9
              have hM3 : M9 ≤ 3 := by
                obtain ⟨t, ht, e⟩ := List.mem_map.mp hM
                have := (hok t ht).2.1
                omega
              have hq12 := lows_le (flagQ fp fq fr fs) S
              have hm2 : (fg.length : Int).fmod 2 = (fg.length : Int) % 2 := Int.fmod_eq_emod_of_nonneg _ (by decide)
              have hia : ∀ c ∈ fg.map (fun d => 65 + d), okc c = true := fun c hc => by
                obtain ⟨d, hd, rfl⟩ := List.mem_map.mp hc
                exact okc_AP (by have := (hfb d hd).2; omega)
              have hja : ∀ c ∈ S.map (chrF f (flT ts)), okc c = true := fun c hc => by
                obtain ⟨k, hk, rfl⟩ := List.mem_map.mp hc
                exact name_okc (hf.2 k (hL.s4 k hk))
              k_dflt (refine' lev_walk ?gak1 ?gak2 ?gak3 ?gak4 ?gak5 ?gad ?gau hia hja ?gal ?gam ?gan ?_; (case gak1 => k_asm); (case gak2 => k_asm); (case gak3 => k_asm); (case gak4 => k_asm); (case gak5 => k_asm); (case gad => exact Nat.le_of_ble_eq_true rfl); (case gau => exact Nat.le_of_ble_eq_true rfl); (case gal => rw [List.length_map]; omega); (case gam => rw [List.length_map]; omega); (case gan => split <;> omega))
              intro t18 h18 tk18 F18 N18
              rw [hlv]
              (try dsimp only)
              (k_steps; repeat' (refine Hold.off ?_; first | ((with_reducible show wpAny _ _ (call (Value.builtin "list.append") [Value.ref _, _]) _ _ _); (with_unfolding_all refine' append_K ?apF ?apN ?apU ?_ ?apz; (case apF => k_asm); (case apN => k_asm); (case apU => k_upd); (case apz => rw [sizeLine_eq]; simp only [List.size_toArray]; omega)); intro h' F' N'; (try k_sweep); k_steps) | ((with_reducible show wpAny _ _ (call (Value.builtin "str.lower") [Value.str _ _]) _ _ _); refine call_lower hokU ?_; (try dsimp only); k_steps) | ((with_reducible show wpAny _ _ (subscriptTail _ _ (Value.str _ _) (Value.int _ _)) _ _ _); k_dflt (refine' letter_itemE hfig ?lei ?_ ?lej ?lek; (case lei => omega); (case lej => with_unfolding_all rfl); (case lek => intro _; with_unfolding_all rfl)); intro t9'; (try dsimp only); k_steps) | ((with_reducible show wpAny _ _ (subscriptTail (PySem.Expr.Name _ _) (PySem.Expr.Name _ _) (Value.ref _) (Value.int _ _)) _ _ _); k_dflt (refine' PyProof.Rows.item_listL (News.isList (by k_asm) (by k_mem)) ?ilb ?ilc ?ild ?_ ?ile ?ilf; (case ilb => omega); (case ilc => omega); (case ild => with_reducible assumption); (case ile => with_unfolding_all rfl); (case ilf => intro _; with_unfolding_all rfl)); k_steps)))
              refine Hold.off ?_
              have hwl : (fg.map fun d => 65 + d).length = fg.length := List.length_map ..
              have hol : (odds (fg.map fun d => 65 + d)).length = fg.length / 2 := by rw [odds_length, hwl]
              k_dflt (refine' sl_odds ?so1 ?so2 ?so3 ?_ ?so4 ?so5; (case so1 => k_asm); (case so2 => k_asm); (case so3 => omega); (case so4 => with_unfolding_all rfl); (case so5 => (intro _; with_unfolding_all rfl)))
              clear N18
              intro h19 t19 tk19 F19 N19
              (try dsimp only)
              (k_steps; repeat' (refine Hold.off ?_; first | ((with_reducible show wpAny _ _ (call (Value.builtin "list.append") [Value.ref _, _]) _ _ _); (with_unfolding_all refine' append_K ?apF ?apN ?apU ?_ ?apz; (case apF => k_asm); (case apN => k_asm); (case apU => k_upd); (case apz => rw [sizeLine_eq]; simp only [List.size_toArray]; omega)); intro h' F' N'; (try k_sweep); k_steps) | ((with_reducible show wpAny _ _ (call (Value.builtin "str.lower") [Value.str _ _]) _ _ _); refine call_lower hokU ?_; (try dsimp only); k_steps) | ((with_reducible show wpAny _ _ (subscriptTail _ _ (Value.str _ _) (Value.int _ _)) _ _ _); k_dflt (refine' letter_itemE hfig ?lei ?_ ?lej ?lek; (case lei => omega); (case lej => with_unfolding_all rfl); (case lek => intro _; with_unfolding_all rfl)); intro t9'; (try dsimp only); k_steps) | ((with_reducible show wpAny _ _ (subscriptTail (PySem.Expr.Name _ _) (PySem.Expr.Name _ _) (Value.ref _) (Value.int _ _)) _ _ _); k_dflt (refine' PyProof.Rows.item_listL (News.isList (by k_asm) (by k_mem)) ?ilb ?ilc ?ild ?_ ?ile ?ilf; (case ilb => omega); (case ilc => omega); (case ild => with_reducible assumption); (case ile => with_unfolding_all rfl); (case ilf => intro _; with_unfolding_all rfl)); k_steps)))
              refine Hold.off ?_
              refine sl_len hwl (by omega) ?_
              (try dsimp only)
              (k_steps; repeat' (refine Hold.off ?_; first | ((with_reducible show wpAny _ _ (call (Value.builtin "list.append") [Value.ref _, _]) _ _ _); (with_unfolding_all refine' append_K ?apF ?apN ?apU ?_ ?apz; (case apF => k_asm); (case apN => k_asm); (case apU => k_upd); (case apz => rw [sizeLine_eq]; simp only [List.size_toArray]; omega)); intro h' F' N'; (try k_sweep); k_steps) | ((with_reducible show wpAny _ _ (call (Value.builtin "str.lower") [Value.str _ _]) _ _ _); refine call_lower hokU ?_; (try dsimp only); k_steps) | ((with_reducible show wpAny _ _ (subscriptTail _ _ (Value.str _ _) (Value.int _ _)) _ _ _); k_dflt (refine' letter_itemE hfig ?lei ?_ ?lej ?lek; (case lei => omega); (case lej => with_unfolding_all rfl); (case lek => intro _; with_unfolding_all rfl)); intro t9'; (try dsimp only); k_steps) | ((with_reducible show wpAny _ _ (subscriptTail (PySem.Expr.Name _ _) (PySem.Expr.Name _ _) (Value.ref _) (Value.int _ _)) _ _ _); k_dflt (refine' PyProof.Rows.item_listL (News.isList (by k_asm) (by k_mem)) ?ilb ?ilc ?ild ?_ ?ile ?ilf; (case ilb => omega); (case ilc => omega); (case ild => with_reducible assumption); (case ile => with_unfolding_all rfl); (case ilf => intro _; with_unfolding_all rfl)); k_steps)))
              refine Hold.off ?_
              refine sl_len hol (by omega) ?_
              (try dsimp only)
              (k_steps; repeat' (refine Hold.off ?_; first | ((with_reducible show wpAny _ _ (call (Value.builtin "list.append") [Value.ref _, _]) _ _ _); (with_unfolding_all refine' append_K ?apF ?apN ?apU ?_ ?apz; (case apF => k_asm); (case apN => k_asm); (case apU => k_upd); (case apz => rw [sizeLine_eq]; simp only [List.size_toArray]; omega)); intro h' F' N'; (try k_sweep); k_steps) | ((with_reducible show wpAny _ _ (call (Value.builtin "str.lower") [Value.str _ _]) _ _ _); refine call_lower hokU ?_; (try dsimp only); k_steps) | ((with_reducible show wpAny _ _ (subscriptTail _ _ (Value.str _ _) (Value.int _ _)) _ _ _); k_dflt (refine' letter_itemE hfig ?lei ?_ ?lej ?lek; (case lei => omega); (case lej => with_unfolding_all rfl); (case lek => intro _; with_unfolding_all rfl)); intro t9'; (try dsimp only); k_steps) | ((with_reducible show wpAny _ _ (subscriptTail (PySem.Expr.Name _ _) (PySem.Expr.Name _ _) (Value.ref _) (Value.int _ _)) _ _ _); k_dflt (refine' PyProof.Rows.item_listL (News.isList (by k_asm) (by k_mem)) ?ilb ?ilc ?ild ?_ ?ile ?ilf; (case ilb => omega); (case ilc => omega); (case ild => with_reducible assumption); (case ile => with_unfolding_all rfl); (case ilf => intro _; with_unfolding_all rfl)); k_steps)))
              refine Hold.off ?_
              refine sl_len hwl (by omega) ?_
              (try dsimp only)
              (k_steps; repeat' (refine Hold.off ?_; first | ((with_reducible show wpAny _ _ (call (Value.builtin "list.append") [Value.ref _, _]) _ _ _); (with_unfolding_all refine' append_K ?apF ?apN ?apU ?_ ?apz; (case apF => k_asm); (case apN => k_asm); (case apU => k_upd); (case apz => rw [sizeLine_eq]; simp only [List.size_toArray]; omega)); intro h' F' N'; (try k_sweep); k_steps) | ((with_reducible show wpAny _ _ (call (Value.builtin "str.lower") [Value.str _ _]) _ _ _); refine call_lower hokU ?_; (try dsimp only); k_steps) | ((with_reducible show wpAny _ _ (subscriptTail _ _ (Value.str _ _) (Value.int _ _)) _ _ _); k_dflt (refine' letter_itemE hfig ?lei ?_ ?lej ?lek; (case lei => omega); (case lej => with_unfolding_all rfl); (case lek => intro _; with_unfolding_all rfl)); intro t9'; (try dsimp only); k_steps) | ((with_reducible show wpAny _ _ (subscriptTail (PySem.Expr.Name _ _) (PySem.Expr.Name _ _) (Value.ref _) (Value.int _ _)) _ _ _); k_dflt (refine' PyProof.Rows.item_listL (News.isList (by k_asm) (by k_mem)) ?ilb ?ilc ?ild ?_ ?ile ?ilf; (case ilb => omega); (case ilc => omega); (case ild => with_reducible assumption); (case ile => with_unfolding_all rfl); (case ilf => intro _; with_unfolding_all rfl)); k_steps)))
              refine Hold.off ?_
              have hodd : odds (fg.map fun d => 65 + d) = (odds (reps [wa, wb, wc, wd])).map fun k => 65 + f k := by rw [odds_map, hfg2, odds_map, List.map_map]; rfl
              have hlh : lev (odds (fg.map fun d => 65 + d)) (fg.map fun d => 65 + d) (2 * ((fg.length : Int) - ((fg.length / 2 : Nat) : Int))) = 2 * ((fg.length : Int) - ((fg.length / 2 : Nat) : Int)) := by
                have h9 := laid_half hL hf
                have h8 : (odds (reps [wa, wb, wc, wd])).length = fg.length / 2 := by rw [odds_length, hfg2, List.length_map]
                have h7 : (reps [wa, wb, wc, wd]).length = fg.length := by rw [hfg2, List.length_map]
                rw [h7, h8] at h9
                rw [hodd, hfg2, List.map_map, ← hfg2]
                have e9 : 2 * ((fg.length : Int) - ((fg.length / 2 : Nat) : Int)) = ((2 * (fg.length - fg.length / 2) : Nat) : Int) := by omega
                rw [e9]
                exact h9
              k_dflt (refine' lev_walk ?gak1 ?gak2 ?gak3 ?gak4 ?gak5 ?gad ?gau (fun c hc => hia c (odds_mem _ c hc)) hia ?gal ?gam ?gan ?_; (case gak1 => k_asm); (case gak2 => k_asm); (case gak3 => k_asm); (case gak4 => k_asm); (case gak5 => k_asm); (case gad => exact Nat.le_of_ble_eq_true rfl); (case gau => exact Nat.le_of_ble_eq_true rfl); (case gal => omega); (case gam => omega); (case gan => omega))
              intro t20 h20 tk20 F20 N20
              rw [hlh]
              (try dsimp only)
              (k_steps; repeat' (refine Hold.off ?_; first | ((with_reducible show wpAny _ _ (call (Value.builtin "list.append") [Value.ref _, _]) _ _ _); (with_unfolding_all refine' append_K ?apF ?apN ?apU ?_ ?apz; (case apF => k_asm); (case apN => k_asm); (case apU => k_upd); (case apz => rw [sizeLine_eq]; simp only [List.size_toArray]; omega)); intro h' F' N'; (try k_sweep); k_steps) | ((with_reducible show wpAny _ _ (call (Value.builtin "str.lower") [Value.str _ _]) _ _ _); refine call_lower hokU ?_; (try dsimp only); k_steps) | ((with_reducible show wpAny _ _ (subscriptTail _ _ (Value.str _ _) (Value.int _ _)) _ _ _); k_dflt (refine' letter_itemE hfig ?lei ?_ ?lej ?lek; (case lei => omega); (case lej => with_unfolding_all rfl); (case lek => intro _; with_unfolding_all rfl)); intro t9'; (try dsimp only); k_steps) | ((with_reducible show wpAny _ _ (subscriptTail (PySem.Expr.Name _ _) (PySem.Expr.Name _ _) (Value.ref _) (Value.int _ _)) _ _ _); k_dflt (refine' PyProof.Rows.item_listL (News.isList (by k_asm) (by k_mem)) ?ilb ?ilc ?ild ?_ ?ile ?ilf; (case ilb => omega); (case ilc => omega); (case ild => with_reducible assumption); (case ile => with_unfolding_all rfl); (case ilf => intro _; with_unfolding_all rfl)); k_steps)))
              refine Hold.off ?_
              have hq := lev_q (l := fg.map fun d => 65 + d) (by omega) (fun c hc => by
                obtain ⟨d, hd, rfl⟩ := List.mem_map.mp hc
                have := (hfb d hd).2
                omega)
              rw [hwl, far_nat, far_nat1] at hq
              have hfr : 0 ≤ (2 * if (fg.length : Int) > 3 then (fg.length : Int) else 3) - 1 ∧ (2 * if (fg.length : Int) > 3 then (fg.length : Int) else 3) ≤ 100 := by split <;> omega
              k_dflt (refine' lev_walkS ?gak1 ?gak2 ?gak3 ?gak4 ?gak5 ?gad ?gau qqq_eq qqq_ok hia ?gal ?gam ?gan ?_; (case gak1 => k_asm); (case gak2 => k_asm); (case gak3 => k_asm); (case gak4 => k_asm); (case gak5 => k_asm); (case gad => exact Nat.le_of_ble_eq_true rfl); (case gau => exact Nat.le_of_ble_eq_true rfl); (case gal => decide); (case gam => omega); (case gan => omega))
              intro t21 h21 tk21 F21 N21
              rw [hq.1]
              (try dsimp only)
              (k_steps; repeat' (refine Hold.off ?_; first | ((with_reducible show wpAny _ _ (call (Value.builtin "list.append") [Value.ref _, _]) _ _ _); (with_unfolding_all refine' append_K ?apF ?apN ?apU ?_ ?apz; (case apF => k_asm); (case apN => k_asm); (case apU => k_upd); (case apz => rw [sizeLine_eq]; simp only [List.size_toArray]; omega)); intro h' F' N'; (try k_sweep); k_steps) | ((with_reducible show wpAny _ _ (call (Value.builtin "str.lower") [Value.str _ _]) _ _ _); refine call_lower hokU ?_; (try dsimp only); k_steps) | ((with_reducible show wpAny _ _ (subscriptTail _ _ (Value.str _ _) (Value.int _ _)) _ _ _); k_dflt (refine' letter_itemE hfig ?lei ?_ ?lej ?lek; (case lei => omega); (case lej => with_unfolding_all rfl); (case lek => intro _; with_unfolding_all rfl)); intro t9'; (try dsimp only); k_steps) | ((with_reducible show wpAny _ _ (subscriptTail (PySem.Expr.Name _ _) (PySem.Expr.Name _ _) (Value.ref _) (Value.int _ _)) _ _ _); k_dflt (refine' PyProof.Rows.item_listL (News.isList (by k_asm) (by k_mem)) ?ilb ?ilc ?ild ?_ ?ile ?ilf; (case ilb => omega); (case ilc => omega); (case ild => with_reducible assumption); (case ile => with_unfolding_all rfl); (case ilf => intro _; with_unfolding_all rfl)); k_steps)))
              refine Hold.off ?_
              k_dflt (refine' lev_walkS ?gak1 ?gak2 ?gak3 ?gak4 ?gak5 ?gad ?gau qqq_eq qqq_ok hia ?gal ?gam ?gan ?_; (case gak1 => k_asm); (case gak2 => k_asm); (case gak3 => k_asm); (case gak4 => k_asm); (case gak5 => k_asm); (case gad => exact Nat.le_of_ble_eq_true rfl); (case gau => exact Nat.le_of_ble_eq_true rfl); (case gal => decide); (case gam => omega); (case gan => omega))
              intro t22 h22 tk22 F22 N22
              have hq2 := hq.2
              generalize lev [81, 81, 81] (fg.map fun d => 65 + d) ((2 * if (fg.length : Int) > 3 then (fg.length : Int) else 3) - 1) = z9 at hq2 ⊢
              (try dsimp only)
              (k_steps; repeat' (refine Hold.off ?_; first | ((with_reducible show wpAny _ _ (call (Value.builtin "list.append") [Value.ref _, _]) _ _ _); (with_unfolding_all refine' append_K ?apF ?apN ?apU ?_ ?apz; (case apF => k_asm); (case apN => k_asm); (case apU => k_upd); (case apz => rw [sizeLine_eq]; simp only [List.size_toArray]; omega)); intro h' F' N'; (try k_sweep); k_steps) | ((with_reducible show wpAny _ _ (call (Value.builtin "str.lower") [Value.str _ _]) _ _ _); refine call_lower hokU ?_; (try dsimp only); k_steps) | ((with_reducible show wpAny _ _ (subscriptTail _ _ (Value.str _ _) (Value.int _ _)) _ _ _); k_dflt (refine' letter_itemE hfig ?lei ?_ ?lej ?lek; (case lei => omega); (case lej => with_unfolding_all rfl); (case lek => intro _; with_unfolding_all rfl)); intro t9'; (try dsimp only); k_steps) | ((with_reducible show wpAny _ _ (subscriptTail (PySem.Expr.Name _ _) (PySem.Expr.Name _ _) (Value.ref _) (Value.int _ _)) _ _ _); k_dflt (refine' PyProof.Rows.item_listL (News.isList (by k_asm) (by k_mem)) ?ilb ?ilc ?ild ?_ ?ile ?ilf; (case ilb => omega); (case ilc => omega); (case ild => with_reducible assumption); (case ile => with_unfolding_all rfl); (case ilf => intro _; with_unfolding_all rfl)); k_steps))))
end Mine
end
end
theorem PySem.Challenge.cw_sw0068_03_holds : PySem.Challenge.rw_sw0068_03.Holds := by
  exact Mine.law_walk
