import PyProof.Rows.All
import Wide.All
import OpenK.AllK
import Wide.FinOn
import PySem.Sre
import KE.KxPercent
import PyProof.StrWalks
import KE.KLcPair
import PySem.Challenge.RW_sw0068_01
set_option Elab.async false
set_option maxRecDepth 100000
set_option maxHeartbeats 8000000
section
open PySem PySem.W PyProof.Rows
open_top hd01 for PySem.Challenge.rw_sw0068_01
end
theorem Mine.top_off : True := by
  w_top off
  trivial
section
open PySem PySem.W PyProof.Rows PySem.Calls
local macro_rules | `(tactic| k_room) => `(tactic| ktr_room)
local macro_rules | `(tactic| k_units) => `(tactic| first | exact Nat.le_of_ble_eq_true rfl | ktr_units)
section
namespace Mine
open PySem

noncomputable def okc (c : Nat) : Bool := (65 ≤ c && c ≤ 90) || (97 ≤ c && c ≤ 122)
noncomputable def nameCode : Array Nat := #[14, 10, 4, 1, 1, 22, 0, 31, 16, 127, 0, 13, 7, 22, 0, 31, 16, 127, 0, 1]
noncomputable def valueCode : Array Nat := #[14, 14, 4, 1, 1, 9, 4294966783, 0, 0, 2147483648, 0, 0, 0, 0, 0, 13, 11, 9, 4294966783, 0, 0, 2147483648, 0, 0, 0, 0, 0, 1]

theorem inSet_name {c : Nat} (h : okc c = true) (seen : Sre.Seen) : ∃ seen', Sre.inSet nameCode c nameCode.size 5 true seen = .ok (false, seen') := by
  simp only [okc, Bool.or_eq_true, Bool.and_eq_true, decide_eq_true_eq] at h
  refine ⟨((seen.add 22).add 16).add 0, ?_⟩
  show Sre.inSet nameCode c 20 5 true seen = _
  have e1 : (decide (0 ≤ c) && decide (c ≤ 31)) = false := by
    rw [Bool.and_eq_false_iff]; right; exact decide_eq_false (by omega)
  have e2 : (c == 127) = false := beq_false_of_ne (by omega)
  show (if (decide (0 ≤ c) && decide (c ≤ 31)) = true then _ else if (c == 127) = true then _ else Except.ok (!true, ((seen.add 22).add 16).add 0)) = _
  rw [e1, e2]; rfl

theorem inSet_value {c : Nat} (h : okc c = true) (seen : Sre.Seen) : ∃ seen', Sre.inSet valueCode c valueCode.size 5 true seen = .ok (false, seen') := by
  refine ⟨(seen.add 9).add 0, ?_⟩
  have e : (decide (c < 256) && (valueCode.getD (5 + (1 + c / 32)) 0).testBit (c % 32)) = false := by
    simp only [okc, Bool.or_eq_true, Bool.and_eq_true, decide_eq_true_eq] at h
    have : ∀ c : Fin 123, 65 ≤ c.val → (decide (c.val < 256) && (valueCode.getD (5 + (1 + c.val / 32)) 0).testBit (c.val % 32)) = false := by decide +kernel
    exact this ⟨c, by omega⟩ (by show 65 ≤ c; omega)
  show (if (decide (c < 256) && (valueCode.getD (5 + (1 + c / 32)) 0).testBit (c % 32)) = true then _ else Except.ok (!true, (seen.add 9).add 0)) = _
  rw [e]; rfl

theorem admitted_none {m : Sre.M} (hs : ∀ i, i < m.lim → ∀ seen, ∃ seen', Sre.inSet m.code (m.text.getD i 0) m.code.size 5 true seen = .ok (false, seen')) :
    ∀ fuel s seen, ∃ seen', Sre.M.admitted m fuel s seen = .ok (none, seen') := by
  intro fuel
  induction fuel with
  | zero => intro s seen; exact ⟨seen, rfl⟩
  | succ n ih =>
    intro s seen
    unfold Sre.M.admitted
    by_cases h : s ≥ m.lim
    · rw [if_pos h]; exact ⟨seen, rfl⟩
    · rw [if_neg h]
      obtain ⟨seen', e⟩ := hs s (by omega) seen
      rw [e]
      exact ih _ _

theorem search_fails {code text : Array Nat} (groups : Nat) (hc : code = nameCode ∨ code = valueCode) (ht : ∀ i, i < text.size → okc (text.getD i 0) = true) :
    ((Sre.forSearch code text groups 0 text.size false).runFor 4).outcome = some .failed := by
  have hin : ∀ i, i < text.size → ∀ seen, ∃ seen', Sre.inSet code (text.getD i 0) code.size 5 true seen = .ok (false, seen') := fun i hi seen => by
    rcases hc with rfl | rfl
    · exact inSet_name (ht i hi) seen
    · exact inSet_value (ht i hi) seen
  have hhead : Sre.header code = (1, (Sre.header code).2) := by rcases hc with rfl | rfl <;> rfl
  have key : ∃ m : Sre.M, Sre.forSearch code text groups 0 text.size false = m.say false ∧ m.outcome = none ∧ m.frames = [] := by
    unfold Sre.forSearch
    dsimp only
    split
    · exact ⟨_, rfl, rfl, rfl⟩
    · unfold Sre.M.attemptFrom
      rw [if_neg (by rcases hc with rfl | rfl <;> exact Bool.false_ne_true)]
      split
      · rename_i s seen heq
        exfalso
        obtain ⟨seen', e⟩ := admitted_none (m := _) hin _ _ _ |>.imp fun _ e => e.symm.trans heq |>.symm
        cases e
      · exact ⟨_, rfl, rfl, rfl⟩
      · rename_i why heq
        exfalso
        obtain ⟨seen', e⟩ := admitted_none (m := _) hin _ _ _ |>.imp fun _ e => e.symm.trans heq |>.symm
        cases e
  obtain ⟨m, e, ho, hf⟩ := key
  rw [e]
  have h1 : (m.say false).step = { m.say false with outcome := some .failed } := by
    unfold Sre.M.step
    rw [if_neg (by show ¬ (m.outcome.isSome = true); rw [ho]; exact Bool.false_ne_true)]
    show (match some false, m.frames with | some yes, [] => _ | some yes, f :: rest => _ | none, _ => _ : Sre.M) = _
    rw [hf]; rfl
  have h0 : (m.say false).runFor 4 = ((m.say false).step).runFor 3 := by
    show (if (m.say false).outcome.isSome = true then _ else _ : Sre.M) = _
    rw [if_neg (by show ¬ (m.outcome.isSome = true); rw [ho]; exact Bool.false_ne_true)]
  rw [h0, h1]
  rfl
end Mine
end
section
namespace Mine
open PySem PySem.Calls PySem.Builtin PyProof.Rows

theorem plainAttrs_pat : PlainAttrs "re.Pattern" :=
  ⟨⟨"object.__getattribute__", by rw [typeLookup_type, builtinLookup_eq_fast]; kernel_rfl, by decide +kernel⟩, by rw [typeLookup_type, builtinLookup_eq_fast]; kernel_rfl⟩
theorem slot_search : Slot "re.Pattern" "search" "re.Pattern.search" :=
  .of (owner := "re.Pattern") (n := "search") (by rw [typeLookup_type, builtinLookup_eq_fast]; kernel_rfl) (by decide +kernel) (by decide +kernel) (by decide +kernel)
    (by first | exact .inl (by decide +kernel) | exact .inr (by decide +kernel)) (by rw [isSubtype_type]; kernel_rfl)
theorem type_search : typeOf (.builtin "re.Pattern.search") = pure (.type "method_descriptor") := by show builtinType _ = _; rw [builtinType_eq_fast]; kernel_rfl
theorem entry_search : entryFor table "re.Pattern.search" = some Builtin.«re.Pattern.search» := entryFor_of_fast (by kernel_rfl)
theorem args_search (a b : Value) : argsOk "re.Pattern.search" ⟨[a, b], []⟩ := by unfold argsOk; kernel_rfl

end Mine
end
section
namespace Mine
open PySem PySem.Calls PySem.Builtin PyProof.Rows

open PySem.Builtin.Re in
theorem search_rule {prog : Program} {w : World} {A : Around} {E : Value → Shared → Prop} {s : Shared} {Q : Value → Shared → Prop} {P T : Addr} {fs ws : Array Value} {n : Nat} {x : Str} {t : Tok} {code : Array Nat}
    (h1 : s.heap.get? P = some { cls := .type "re.Pattern", data := .fields fs }) (h5 : fs.getD 5 .none = .ref T) (h6 : reRawNat (fs.getD 6 .none) = 0)
    (hT : s.heap.get? T = some { cls := .type "tuple", data := .seq ws n }) (hcode : (ws.map reRawOf).map (·.toNat) = code) (hc : code = nameCode ∨ code = valueCode)
    (hl : x.cps.size ≤ 1048576) (hx : ∀ i, i < x.cps.size → okc (x.cps.getD i 0) = true) (h : Q .none s) :
    wpAny (model prog w) A (call (.builtin "re.Pattern.search") [.ref P, .str x t]) Q E s := by
  refine wpAny_call_entry slot_search ⟨_, h1, rfl⟩ entry_search ?_ (args_search _ _)
  unfold Builtin.«re.Pattern.search»
  have hlim : min ((2 ^ 63 - 1 : Int)).toNat x.cps.size = x.cps.size := by omega
  have hfail := search_fails (code := code) (text := x.cps) (reRawNat (fs.getD 2 .none)) hc hx
  have target : ∀ {R : ReTarget → Shared → Prop}, R { pattern := .ref P, string := .str x t, code := code, text := x.cps, kind := 0, groups := reRawNat (fs.getD 2 .none), pos := 0, lim := x.cps.size } s →
      wpAny (model prog w) A.in1 (reTarget "re.Pattern.search" "search" ⟨[.ref P, .str x t], []⟩) R E s := by
    intro R hR
    unfold reTarget
    have hni : reNoCollectionInside (.str x t) 0 = pure () := rfl
    have hn : reNamed "re.Pattern.search" "search" ["string", "pos", "endpos"] 1 [.str x t] [] = pure [some (.str x t), none, none] := by rfl
    dsimp only
    rw [hn]
    refine wpAny_bind (wpAny_pure ?_)
    refine wpAny_bind (wpAny_pure ?_)
    refine wpAny_bind (wpAny_pure ?_)
    refine wpAny_bind (wpAny_fieldsOf h1 rfl ?_)
    refine wpAny_bind (m := reTextOf (.str x t)) (wpAny_pure ?_)
    dsimp only
    rw [h6]
    refine wpAny_bind ?_
    rw [hni]
    refine wpAny_pure (wpAny_bind ?_)
    rw [h5]
    unfold reRawItems
    refine wpAny_bind (wpAny_seqItems hT rfl (wpAny_pure (wpAny_pure ?_)))
    have e0 : Min.min (Int.toNat 0) x.cps.size = 0 := Nat.zero_min _
    rw [hlim, e0]
    show R { pattern := .ref P, string := .str x t, code := (ws.map reRawOf).map (·.toNat), text := x.cps, kind := 0, groups := reRawNat (fs.getD 2 .none), pos := 0, lim := x.cps.size } s
    rw [hcode]
    exact hR
  refine wpAny_bind (target ?_)
  dsimp only
  unfold reAnswer reRunToEnd
  refine wpAny_bind (wpAny_bind (m := reDrive (2 ^ 64) _) ?_)
  show wpAny _ _ (reDrive (18446744073709551615 + 1) _) _ _ _
  unfold reDrive
  dsimp only
  rw [show reTurnSteps = 4 from rfl, if_pos (by rw [hfail]; rfl)]
  refine wpAny_pure (wpAny_bind ?_)
  refine wpAny_mono (wpAny_forIn_list _ (fun _ _ s' => s' = s) (fun _ s' => s' = s) (fun i rest b s' e => ?_) (fun _ _ e => e) _ _ rfl) (fun _ s' e => ?_) fun _ _ e => e
  · subst e
    split
    · exact wpAny_bind (wpAny_rule (wpAny_pure rfl))
    · exact wpAny_pure rfl
  · subst e
    rw [hfail]
    exact wpAny_pure (wpAny_pure ⟨_, rfl, h⟩)
end Mine
end
section
namespace Mine
open PySem PySem.Calls PySem.Builtin PyProof.Rows PySem.W

noncomputable def okS (x : Str) : Prop := x.cps.size ≤ 1048576 ∧ ∀ i, i < x.cps.size → okc (x.cps.getD i 0) = true
theorem okS_len {x : Str} (h : okS x) : x.length ≤ 1048576 := h.1

section
variable {prog : Program} {w : World} {A : Around} {E : Value → Shared → Prop} {s : Shared} {K : Frag} {h₀ : Heap} {L : Addr} {m : Str → Option Value}
theorem search_method {P : Addr} {fs : Array Value} {pl : Sem Bool} {Q : Value × List Value → Shared → Prop} (F : Fr h₀ L s.heap m) (X : K.In h₀)
    (ho : K.lookup P = some { cls := .type "re.Pattern", dict := none, data := .fields fs, slots := #[] }) (h : Q (.builtin "re.Pattern.search", [.ref P]) s) :
    wpAny (model prog w) A (getMethod (.ref P) "search" pl) Q E s := by
  have h1 : s.heap.get? P = some { cls := .type "re.Pattern", dict := none, data := .fields fs, slots := #[] } := X.keeps F.keep _ _ ho
  exact getMethod_builtin (T := "re.Pattern") ⟨_, h1, rfl⟩ plainAttrs_pat slot_search type_search (fun a e => by cases e; exact ⟨_, h1, rfl⟩) h

theorem search_K {P T : Addr} {fs ws : Array Value} {n : Nat} {x : Str} {t : Tok} {Q : Value → Shared → Prop} (F : Fr h₀ L s.heap m) (X : K.In h₀)
    (ho : K.lookup P = some { cls := .type "re.Pattern", dict := none, data := .fields fs, slots := #[] }) (h5 : fs.getD 5 .none = .ref T) (h6 : Re.reRawNat (fs.getD 6 .none) = 0)
    (hT : K.lookup T = some { cls := .type "tuple", dict := none, data := .seq ws n, slots := #[] })
    (hc : (ws.map Re.reRawOf).map (·.toNat) = nameCode ∨ (ws.map Re.reRawOf).map (·.toNat) = valueCode) (hx : okS x) (h : Q .none s) :
    wpAny (model prog w) A (call (.builtin "re.Pattern.search") [.ref P, .str x t]) Q E s :=
  search_rule (X.keeps F.keep _ _ ho) h5 h6 (X.keeps F.keep _ _ hT) rfl hc hx.1 hx.2 h
end
end Mine
namespace Mine
open PySem PySem.Calls PySem.Builtin PyProof.Rows PySem.W
section
variable {prog : Program} {w : World} {A : Around} {E : Value → Shared → Prop} {s : Shared} {K : Frag} {h₀ : Heap} {L : Addr} {m : Str → Option Value}
theorem txt_join_one (x y : Str) : Txt.join x [y] = y := by
  show Builtin.Str.glued x [y] = y
  rw [StrLaws.glued_eq_join]
  rfl
theorem join_single {D : Addr} {x y : Str} {t ty : Tok} {Q : Value → Shared → Prop} (hl : s.heap.IsList D #[.str y ty]) (hy : y.length ≤ 1048576) (hx : x.length ≤ 64)
    (h : ∀ t' k, Q (.str y t') { s with toks := k }) : wpAny (model prog w) A (call (.builtin "str.join") [.str x t, .ref D]) Q E s :=
  join_list (ys := [y]) hl (.cons y ty .nil) (by simp only [List.map_cons, List.map_nil, List.sum_cons, List.sum_nil, List.length_cons, List.length_nil]; omega) (by rw [txt_join_one]; exact h)
end
end Mine
namespace Mine
open PySem PySem.Calls PySem.Builtin PyProof.Rows PySem.W
theorem news_drop2 {h₀ h : Heap} {L : Addr} {x y : Addr × Obj} {r : List (Addr × Obj)} (N : News h₀ L h (x :: y :: r)) : News h₀ L h (x :: r) := fun p hp => by
  rcases List.mem_cons.mp hp with rfl | hp
  · exact N _ List.mem_cons_self
  · exact N _ (List.mem_cons_of_mem _ (List.mem_cons_of_mem _ hp))
theorem ne_new {h₀ h : Heap} {L a : Addr} {o : Obj} {news : List (Addr × Obj)} (N : News h₀ L h news) (hm : (a, o) ∈ news) : h.objs.size ≠ a := Nat.ne_of_gt (Heap.lt_size (N _ hm).1)
end Mine
namespace Mine
open PySem PySem.Calls PySem.Builtin PyProof.Rows PySem.W
noncomputable abbrev pairObj (k v : Str) (t1 t2 : Tok) : Obj := { cls := .type "tuple", data := .seq #[.str k t1, .str v t2] }
inductive PairsIn (news : List (Addr × Obj)) : List Value → List (Str × Str) → Prop
  | nil : PairsIn news [] []
  | cons {a : Addr} {k v : Str} {t1 t2 : Tok} {vs : List Value} {ps : List (Str × Str)} : (a, pairObj k v t1 t2) ∈ news → PairsIn news vs ps → PairsIn news (.ref a :: vs) ((k, v) :: ps)
theorem PairsIn.length {news : List (Addr × Obj)} {vs : List Value} {ps : List (Str × Str)} (h : PairsIn news vs ps) : vs.length = ps.length := by
  induction h with
  | nil => rfl
  | cons _ _ ih => simp [ih]
theorem PairsIn.get {news : List (Addr × Obj)} {vs : List Value} {ps : List (Str × Str)} (h : PairsIn news vs ps) {i : Nat} {v : Value} (hv : vs[i]? = some v) :
    ∃ a k x t1 t2, v = .ref a ∧ (a, pairObj k x t1 t2) ∈ news ∧ ps[i]? = some (k, x) := by
  induction h generalizing i with
  | nil => simp at hv
  | cons hm _ ih =>
    cases i with
    | zero => simp at hv; exact ⟨_, _, _, _, _, hv.symm, hm, rfl⟩
    | succ i => exact ih (by simpa using hv)
theorem PairsIn.mono {news news' : List (Addr × Obj)} (hs : ∀ p ∈ news, p ∈ news') {vs : List Value} {ps : List (Str × Str)} (h : PairsIn news vs ps) : PairsIn news' vs ps := by
  induction h with
  | nil => exact .nil
  | cons hm _ ih => exact .cons (hs _ hm) ih
theorem PairsIn.snoc {news : List (Addr × Obj)} {a : Addr} {k v : Str} {t1 t2 : Tok} {vs : List Value} {ps : List (Str × Str)} (h : PairsIn news vs ps) (hm : (a, pairObj k v t1 t2) ∈ news) :
    PairsIn news (vs ++ [.ref a]) (ps ++ [(k, v)]) := by
  induction h with
  | nil => exact .cons hm .nil
  | cons hm' _ ih => exact .cons hm' ih
end Mine
end
section
namespace Mine
open PySem PySem.Calls PySem.Builtin PySem.Builtin.Str PyProof.Rows PySem.W
noncomputable def lowC (c : Nat) : Nat := if 65 ≤ c ∧ c ≤ 90 then c + 32 else c
noncomputable def upC (c : Nat) : Nat := if 97 ≤ c ∧ c ≤ 122 then c - 32 else c
noncomputable def swC (c : Nat) : Nat := if 65 ≤ c ∧ c ≤ 90 then c + 32 else if 97 ≤ c ∧ c ≤ 122 then c - 32 else c
noncomputable def lowS (x : Str) : Str := ⟨x.cps.map lowC⟩
noncomputable def upS (x : Str) : Str := ⟨x.cps.map upC⟩
noncomputable def swS (x : Str) : Str := ⟨x.cps.map swC⟩

theorem placed_map {x : Str} {f : Nat → Nat → List Nat} {g : Nat → Nat} (h : ∀ i (hi : i < x.cps.size), f i x.cps[i] = [g x.cps[i]]) : placed x f = x.cps.map g := by
  unfold placed
  have e : x.cps.mapIdx (fun i c => (f i c).toArray) = x.cps.map (fun c => #[g c]) := by
    apply Array.ext
    · simp
    · intro i h1 h2
      simp only [Array.size_mapIdx] at h1
      simp [h i h1]
  rw [e]
  apply Array.toList_inj.mp
  rw [Array.toList_flatten, Array.toList_map, List.map_map]
  generalize x.cps = a
  rw [Array.toList_map]
  induction a.toList with
  | nil => rfl
  | cons c r ih => simp only [List.map_cons, List.flatten_cons, ih]; rfl

theorem cases_okc (P : Nat → Prop) (h1 : ∀ c : Fin 123, (65 ≤ c.val ∧ c.val ≤ 90) ∨ 97 ≤ c.val → P c.val) (c : Nat) (h : okc c = true) : P c := by
  simp only [okc, Bool.or_eq_true, Bool.and_eq_true, decide_eq_true_eq] at h
  exact h1 ⟨c, by omega⟩ (by show (65 ≤ c ∧ c ≤ 90) ∨ 97 ≤ c; omega)
theorem lowerOf_okc (c : Nat) (h : okc c = true) : Unicode.lowerOf c = [lowC c] := cases_okc (fun c => Unicode.lowerOf c = [lowC c]) (by decide +kernel) c h
theorem upperOf_okc (c : Nat) (h : okc c = true) : Unicode.upperOf c = [upC c] := cases_okc (fun c => Unicode.upperOf c = [upC c]) (by decide +kernel) c h
theorem isUpper_okc (c : Nat) (h : okc c = true) : Unicode.isUpper c = decide (c ≤ 90) := cases_okc (fun c => Unicode.isUpper c = decide (c ≤ 90)) (by decide +kernel) c h
theorem isLower_okc (c : Nat) (h : okc c = true) : Unicode.isLower c = decide (97 ≤ c) := cases_okc (fun c => Unicode.isLower c = decide (97 ≤ c)) (by decide +kernel) c h
theorem okc_bounds {c : Nat} (h : okc c = true) : (65 ≤ c ∧ c ≤ 90) ∨ (97 ≤ c ∧ c ≤ 122) := by
  simpa only [okc, Bool.or_eq_true, Bool.and_eq_true, decide_eq_true_eq] using h
theorem okc_of {c : Nat} (h : (65 ≤ c ∧ c ≤ 90) ∨ (97 ≤ c ∧ c ≤ 122)) : okc c = true := by
  simpa only [okc, Bool.or_eq_true, Bool.and_eq_true, decide_eq_true_eq] using h
theorem lowerAt_okc {t : Array Nat} {i : Nat} (hi : i < t.size) (h : okc t[i] = true) : Unicode.lowerAt t i = [lowC t[i]] := by
  unfold Unicode.lowerAt
  rw [Array.getElem?_eq_getElem hi]
  have hb := okc_bounds h
  have e : (t[i] == 0x3A3) = false := beq_false_of_ne (by omega)
  simp only [e, Bool.false_and, Bool.false_eq_true, if_false]
  exact lowerOf_okc _ h
theorem okS_get {x : Str} (h : okS x) {i : Nat} (hi : i < x.cps.size) : okc x.cps[i] = true := by
  have := h.2 i hi
  rwa [← Array.getElem_eq_getD (h := hi) 0] at this

theorem txt_lower {x : Str} (h : okS x) : Txt.lower x = lowS x := by
  show Str.mk (placed x _) = Str.mk _
  rw [placed_map (g := lowC) fun i hi => lowerAt_okc hi (okS_get h hi)]
theorem txt_upper {x : Str} (h : okS x) : Txt.upper x = upS x := by
  show Str.mk (placed x _) = Str.mk _
  rw [placed_map (g := upC) fun i hi => upperOf_okc _ (okS_get h hi)]
theorem txt_swapcase {x : Str} (h : okS x) : Txt.swapcase x = swS x := by
  show Str.mk (placed x _) = Str.mk _
  rw [placed_map (g := swC) fun i hi => ?_]
  have hk := okS_get h hi
  have hb := okc_bounds hk
  rw [isUpper_okc _ hk, isLower_okc _ hk, lowerAt_okc hi hk, upperOf_okc _ hk]
  unfold lowC upC swC
  by_cases h1 : x.cps[i] ≤ 90
  · have h2 : 65 ≤ x.cps[i] := by omega
    simp [h1, h2]
  · have h2 : 97 ≤ x.cps[i] ∧ x.cps[i] ≤ 122 := by omega
    have h3 : ¬ (65 ≤ x.cps[i] ∧ x.cps[i] ≤ 90) := by omega
    simp [h1, h2, h3]
theorem okS_map {x : Str} {g : Nat → Nat} (hg : ∀ c, okc c = true → okc (g c) = true) (h : okS x) : okS ⟨x.cps.map g⟩ := by
  refine ⟨by simpa using h.1, fun i hi => ?_⟩
  have hi' : i < x.cps.size := by simpa using hi
  rw [← Array.getElem_eq_getD (h := by simpa using hi') 0]
  simp only [Array.getElem_map]
  exact hg _ (okS_get h hi')
theorem okS_low {x : Str} (h : okS x) : okS (lowS x) := okS_map (fun c hc => by have := okc_bounds hc; apply okc_of; unfold lowC; split <;> omega) h
theorem okS_up {x : Str} (h : okS x) : okS (upS x) := okS_map (fun c hc => by have := okc_bounds hc; apply okc_of; unfold upC; split <;> omega) h
theorem okS_sw {x : Str} (h : okS x) : okS (swS x) := okS_map (fun c hc => by have := okc_bounds hc; apply okc_of; unfold swC; split <;> (try split) <;> omega) h

section
variable {prog : Program} {w : World} {A : Around} {E : Value → Shared → Prop} {s : Shared} {x : Str} {t : Tok} {Q : Value → Shared → Prop}
theorem notLong {x : Str} (h : okS x) : tooLong x.length = false := by
  have := h.1
  unfold tooLong
  rw [sizeLine_eq]
  exact decide_eq_false (by show ¬ 16777216 < x.cps.size; omega)
theorem call_lower (h : okS x) (hq : Q (.str (lowS x) s.toks) { s with toks := s.toks + 1 }) : wpAny (model prog w) A (call (.builtin "str.lower") [.str x t]) Q E s := by
  have e := txt_lower h
  exact SC.lower (by rw [e]; exact notLong (okS_low h)) (by rw [e]; exact hq)
theorem call_upper (h : okS x) (hq : Q (.str (upS x) s.toks) { s with toks := s.toks + 1 }) : wpAny (model prog w) A (call (.builtin "str.upper") [.str x t]) Q E s := by
  have e := txt_upper h
  exact SC.upper (by rw [e]; exact notLong (okS_up h)) (by rw [e]; exact hq)
theorem call_swapcase (h : okS x) (hq : Q (.str (swS x) s.toks) { s with toks := s.toks + 1 }) : wpAny (model prog w) A (call (.builtin "str.swapcase") [.str x t]) Q E s := by
  have e := txt_swapcase h
  exact SC.swapcase (by rw [e]; exact notLong (okS_sw h)) (by rw [e]; exact hq)
end
end Mine
namespace Mine
open PySem PySem.W PyProof.Rows
theorem news_more {h₀ h : Heap} {L : Addr} {x : Addr × Obj} {r : List (Addr × Obj)} (N : News h₀ L h r) (hx : x ∈ r) : News h₀ L h (x :: r) := fun p hp => by
  rcases List.mem_cons.mp hp with rfl | hp
  · exact N _ hx
  · exact N _ hp
theorem allLt_mem {d : Nat} {l : List (Addr × Obj)} (h : AllLt d l) : ∀ p ∈ l, @LT.lt Nat _ p.1 d := by
  induction l with
  | nil => intro p hp; cases hp
  | cons x r ih =>
    intro p hp
    rcases List.mem_cons.mp hp with rfl | hp
    · exact h.1
    · exact ih h.2 p hp
theorem allLt_ne {d c : Addr} {l : List (Addr × Obj)} (h : AllLt d l) (hc : @LE.le Nat _ d c) : ∀ p ∈ l, p.1 ≠ c := fun p hp => Nat.ne_of_lt (Nat.lt_of_lt_of_le (allLt_mem h p hp) hc)
end Mine
namespace Mine
open PySem
noncomputable def subS (x y : Str) : Int := if (x == y) = true then 0 else if (lowS x == lowS y) = true then 1 else 2
end Mine
end
section
namespace Mine
open PySem PySem.Calls PySem.Builtin PyProof.Rows PySem.W LCg LCt
section
variable {prog : Program} {w : World} {A : Around} {s : Shared} {h₀ : Heap} {L : Addr} {m : Str → Option Value} {env : Env}
theorem compEnd_mono {s₁ s₂ : Shared} {I C D : Addr} {oI oC oD : Obj} {S : List (Addr × Obj) → Prop} {r r' : Value → List (Addr × Obj) → Prop} {y : Value} (h : CompEnd h₀ L m s₁ I oI C oC D oD S r y s₂) (hr : ∀ n, r y n → r' y n) :
    CompEnd h₀ L m s₁ I oI C oC D oD S r' y s₂ := by
  obtain ⟨h', tk, n, e, F, N, o, hs, hr'⟩ := h
  exact ⟨h', tk, n, e, F, N, o, hs, hr _ hr'⟩
theorem restT_of {ct elt : Expr} {x : Str} {scope : Scope} {cl : List (Str × Addr)} {S : List (Addr × Obj) → Prop} {P : Nat → Value → Prop} {Fin : List Value → List (Addr × Obj) → Prop} {n : Nat} {news : List (Addr × Obj)}
    (J : Nat → List Value → Prop) (hfin : ∀ ys, J n ys → Fin ys news)
    (turn : ∀ i v ys I oI C oC D m₂ h tk (E' : Value → Shared → Prop), i < n → P i v → J i ys → NsObj oC m₂ → m₂ x = some v → Fr h₀ L h m → News h₀ L h ((I, oI) :: (C, oC) :: (D, lst ys) :: news) → Off3 I C D news → ((@Ne Nat I C) ∧ (@Ne Nat I D) ∧ (@Ne Nat C D)) →
      wpAny (model prog w) A (isTrue ct (compEnvC scope cl C env) (eval ct (compEnvC scope cl C env))) (fun ok s' => if ok = true then
        wpAny (model prog w) A (eval elt (compEnvC scope cl C env)) (CompEnd h₀ L m { s with heap := h, toks := tk } I oI C oC D (lst ys) S (fun y news' => news' = news ∧ J (i + 1) (ys ++ [y]))) E' s'
        else CompEnd h₀ L m { s with heap := h, toks := tk } I oI C oC D (lst ys) S (fun _ news' => news' = news ∧ J (i + 1) ys) Value.none s') E' { s with heap := h, toks := tk }) :
    ∀ k i ys, i + k = n → J i ys → CompRestT prog w A h₀ L m env ct elt x scope cl s S P Fin k i ys news := by
  intro k
  induction k with
  | zero => intro i ys e hj; exact .zero (hfin _ (by rw [Nat.add_zero] at e; exact e ▸ hj))
  | succ k ih =>
    intro i ys e hj
    refine .succ fun v I oI C oC D m₂ h tk E' hP hN hx F N O ne => ?_
    refine wpAny_mono (turn i v ys I oI C oC D m₂ h tk E' (by omega) hP hj hN hx F N O ne) (fun ok s' h1 => ?_) fun _ _ e => e
    split at h1
    · rename_i ht
      rw [if_pos ht]
      refine wpAny_mono h1 (fun y s'' h2 => compEnd_mono h2 fun nw hr => ?_) fun _ _ e => e
      obtain ⟨rfl, hj'⟩ := hr
      exact ih _ _ (by omega) hj'
    · rename_i ht
      rw [if_neg ht]
      refine compEnd_mono h1 fun nw hr => ?_
      obtain ⟨rfl, hj'⟩ := hr
      exact ih _ _ (by omega) hj'
end
end Mine
namespace Mine
open PySem PySem.Calls PySem.Builtin PyProof.Rows PySem.W
theorem StrsAre.snoc' {y : Str} {t : Tok} : ∀ {vs : List Value} {ys : List Str}, StrsAre vs ys → StrsAre (vs ++ [.str y t]) (ys ++ [y])
  | _, _, .nil => .cons y t .nil
  | _, _, .cons y' t' r => .cons y' t' (StrsAre.snoc' r)
theorem strs_take_pos {ys : List Value} {ps : List (Str × Str)} {q : Str × Str → Bool} {i : Nat} {k x : Str} {t : Tok} (hJ : StrsAre ys (((ps.take i).filter q).map (·.2))) (hp : ps[i]? = some (k, x)) (hq : q (k, x) = true) :
    StrsAre (ys ++ [.str x t]) (((ps.take (i + 1)).filter q).map (·.2)) := by
  rw [List.take_add_one, hp]
  simp only [Option.toList_some, List.filter_append, List.map_append, List.filter_cons, hq, if_true, List.filter_nil, List.map_cons, List.map_nil]
  exact StrsAre.snoc' hJ
theorem strs_take_neg {ys : List Value} {ps : List (Str × Str)} {q : Str × Str → Bool} {i : Nat} {k x : Str} (hJ : StrsAre ys (((ps.take i).filter q).map (·.2))) (hp : ps[i]? = some (k, x)) (hq : q (k, x) = false) :
    StrsAre ys (((ps.take (i + 1)).filter q).map (·.2)) := by
  rw [List.take_add_one, hp]
  simpa only [Option.toList_some, List.filter_append, List.map_append, List.filter_cons, hq, Bool.false_eq_true, if_false, List.filter_nil, List.map_nil, List.append_nil] using hJ
end Mine
namespace Mine
open PySem PySem.Calls PySem.Builtin PyProof.Rows PySem.W
theorem pairs_take_pos {news : List (Addr × Obj)} {ys : List Value} {ps : List (Str × Str)} {q : Str × Str → Bool} {i : Nat} {k x : Str} {a : Addr} {t1 t2 : Tok} (hJ : PairsIn news ys ((ps.take i).filter q)) (hp : ps[i]? = some (k, x)) (hm : (a, pairObj k x t1 t2) ∈ news) (hq : q (k, x) = true) :
    PairsIn news (ys ++ [.ref a]) ((ps.take (i + 1)).filter q) := by
  rw [List.take_add_one, hp]
  simp only [Option.toList_some, List.filter_append, List.filter_cons, hq, if_true, List.filter_nil]
  exact hJ.snoc hm
theorem pairs_take_neg {news : List (Addr × Obj)} {ys : List Value} {ps : List (Str × Str)} {q : Str × Str → Bool} {i : Nat} {k x : Str} (hJ : PairsIn news ys ((ps.take i).filter q)) (hp : ps[i]? = some (k, x)) (hq : q (k, x) = false) :
    PairsIn news ys ((ps.take (i + 1)).filter q) := by
  rw [List.take_add_one, hp]
  simpa only [Option.toList_some, List.filter_append, List.filter_cons, hq, Bool.false_eq_true, if_false, List.filter_nil, List.append_nil] using hJ
end Mine
namespace Mine
open PySem PySem.W
theorem pairs_len9 {news news' : List (Addr × Obj)} {vs vs' : List Value} {ps : List (Str × Str)} {q : Str × Str → Bool} (h' : PairsIn news' vs' (ps.filter q)) (h : PairsIn news vs ps) (hl : vs.length ≤ 1000) : vs'.length ≤ 1000 := by
  rw [h'.length]
  exact Nat.le_trans (List.length_filter_le _ _) (by rw [← h.length]; exact hl)
end Mine
end
section
namespace Mine
open PySem PySem.Calls PySem.Builtin PyProof.Rows PySem.W
theorem fr_known {h₀ h : Heap} {L : Addr} {m : Str → Option Value} (ps : List (Str × Value)) (hp : ∀ p ∈ ps, m p.1 = some p.2) (F : Fr h₀ L h m) : Fr h₀ L h (kstB m ps) := by
  have e : kstB m ps = m := funext fun z => kstB_eq hp fun _ => rfl
  rw [e]; exact F
section
variable {prog : Program} {w : World} {A : Around} {E : Value → Shared → Prop} {s : Shared} {h₀ : Heap} {env : Env} {target : Expr} {body : List Stmt} {Q : Flow → Shared → Prop}
theorem itemsRest_inv {ws : List (Addr × String)} {keep : List (Addr × Obj)} {xs : List Itm} (J : Nat → (Str → Option Value) → List (Addr × Obj) → Prop)
    (turn : ∀ i a v h tk m news, xs[i]? = some a → a.Is v h → J i m news → Fr h₀ env.locals h m → AllObj ws (fun its => News h₀ env.locals h (its ++ news) →
      wpAny (model prog w) A (assign target env v) (fun _ s₂ => wpAny (model prog w) A (execs body env) (UnrPostW h₀ env.locals { s with heap := h, toks := tk } its (fun m' n' => SubL keep n' ∧ J (i + 1) m' n') Q) E s₂) E { s with heap := h, toks := tk }))
    (done : ∀ h tk m news, J xs.length m news → Fr h₀ env.locals h m → News h₀ env.locals h news → Q .next { s with heap := h, toks := tk })
    {m : Str → Option Value} {news : List (Addr × Obj)} (h0 : J 0 m news) : ItemsRest prog w A E h₀ env target body Q s ws keep xs m news := by
  have all : ∀ (r : List Itm) (i : Nat) (m : Str → Option Value) (news : List (Addr × Obj)), (∀ j, r[j]? = xs[i + j]?) → i + r.length = xs.length → J i m news → ItemsRest prog w A E h₀ env target body Q s ws keep r m news := by
    intro r
    induction r with
    | nil => intro i m news hr hl hj; exact ItemsRest.zero fun h tk F N => done h tk m news (by simp at hl; exact hl ▸ hj) F N
    | cons a r ih =>
      intro i m news hr hl hj
      show ∀ v h tk, a.Is v h → _
      intro v h tk ha F
      have hx : xs[i]? = some a := by have := hr 0; simpa using this.symm
      have t := turn i a v h tk m news hx ha hj F
      have mono : ∀ (k k' : List (Addr × Obj) → Prop) (ws : List (Addr × String)), (∀ its, k its → k' its) → AllObj ws k → AllObj ws k' := by
        intro k k' ws
        induction ws generalizing k k' with
        | nil => intro hk h1; exact hk _ h1
        | cons w1 r1 ih1 => intro hk h1; exact fun o ho => ih1 _ _ (fun its h2 => hk _ h2) (h1 o ho)
      refine mono _ _ ws (fun its ht N => ?_) t
      refine wpAny_mono (ht N) (fun _ s₂ h2 => wpAny_mono h2 (fun f s₃ h3 => ?_) fun _ _ e => e) fun _ _ e => e
      have up : UnrEndW h₀ env.locals { s with heap := h, toks := tk } its (fun m' n' => SubL keep n' ∧ J (i + 1) m' n') s₃ → UnrEndW h₀ env.locals { s with heap := h, toks := tk } its (fun m' n' => SubL keep n' ∧ ItemsRest prog w A E h₀ env target body Q s ws keep r m' n') s₃ := by
        rintro ⟨h', tk', m', n', e, F', N', o, hs, hj'⟩
        exact ⟨h', tk', m', n', e, F', N', o, hs, ih (i + 1) m' n' (fun j => by have := hr (j + 1); simp at this; rw [this]; congr 1; omega) (by simp at hl; omega) hj'⟩
      cases f with
      | ret v => exact h3
      | brk => exact h3
      | next => exact up h3
      | cont => exact up h3
  exact all xs 0 m news (fun j => by simp) (by simp) h0
end
end Mine
namespace Mine
open PySem PySem.Calls PySem.Builtin PyProof.Rows PySem.W
section
variable {prog : Program} {w : World} {A : Around} {E : Value → Shared → Prop} {s : Shared} {h₀ : Heap} {env : Env} {target : Expr} {body : List Stmt} {Q : Flow → Shared → Prop}
theorem itemsRest_pure {ws : List (Addr × String)} {keep : List (Addr × Obj)} {xs : List Itm} {m : Str → Option Value} {news : List (Addr × Obj)} (vars : List Str) (K : Nat → Prop)
    (turn : ∀ i a v h tk (u : Str → Option Value), xs[i]? = some a → a.Is v h → K i → Fr h₀ env.locals h (fun z => if vars.contains z then u z else m z) → AllObj ws (fun its => News h₀ env.locals h (its ++ news) →
      wpAny (model prog w) A (assign target env v) (fun _ s₂ => wpAny (model prog w) A (execs body env) (UnrPostW h₀ env.locals { s with heap := h, toks := tk } its (fun m' n' => SubL keep n' ∧ (n' = news ∧ (∀ z, vars.contains z = false → m' z = m z) ∧ K (i + 1))) Q) E s₂) E { s with heap := h, toks := tk }))
    (done : ∀ h tk (u : Str → Option Value), K xs.length → Fr h₀ env.locals h (fun z => if vars.contains z then u z else m z) → News h₀ env.locals h news → Q .next { s with heap := h, toks := tk })
    (h0 : K 0) : ItemsRest prog w A E h₀ env target body Q s ws keep xs m news := by
  have ef : ∀ m' : Str → Option Value, (∀ z, vars.contains z = false → m' z = m z) → (fun z => if vars.contains z then m' z else m z) = m' := fun m' hm => funext fun z => by
    cases hz : vars.contains z with
    | true => rfl
    | false => exact (hm z hz).symm
  refine itemsRest_inv (fun i m' n' => n' = news ∧ (∀ z, vars.contains z = false → m' z = m z) ∧ K i) ?_ ?_ ⟨rfl, fun _ _ => rfl, h0⟩
  · rintro i a v h tk m' n' hx ha ⟨rfl, hm, hk⟩ F
    exact turn i a v h tk m' hx ha hk (by rw [ef m' hm]; exact F)
  · rintro h tk m' n' ⟨rfl, hm, hk⟩ F N
    exact done h tk m' hk (by rw [ef m' hm]; exact F) N
theorem unrEnd1 {L : Addr} {I : Addr} {o : Obj} {rest : (Str → Option Value) → List (Addr × Obj) → Prop} {s₁ : Shared} {h' : Heap} {tk : Nat} {m' : Str → Option Value} {all news : List (Addr × Obj)} (F : Fr h₀ L h' m') (N : News h₀ L h' all)
    (hs : ∀ p ∈ (I, o) :: news, p ∈ all) (hI : ∀ p ∈ news, @LT.lt Nat _ p.1 I) (r : rest m' news) : UnrEndW h₀ L s₁ [(I, o)] rest { s₁ with heap := h', toks := tk } :=
  ⟨h', tk, m', news, rfl, F, fun p hp => N p (hs p hp), fun p hp q hq => by rw [List.mem_singleton.mp hq]; exact Nat.ne_of_lt (hI p hp), r⟩
end
end Mine
namespace Mine
open PySem
theorem find_at {α : Type} {q : α → Bool} {ps : List α} {i : Nat} {p : α} (hp : ps[i]? = some p) (hK : ∀ p ∈ ps.take i, q p = false) (hq : q p = true) : ps.find? q = some p := by
  induction ps generalizing i with
  | nil => simp at hp
  | cons a r ih =>
    cases i with
    | zero => simp at hp; subst hp; simp [hq]
    | succ i =>
      have ha : q a = false := hK a (by simp)
      rw [List.find?_cons, ha]
      exact ih (by simpa using hp) fun p hp => hK p (by simp [hp])
theorem all_take_succ {α : Type} {q : α → Bool} {ps : List α} {i : Nat} {p : α} (hp : ps[i]? = some p) (hK : ∀ p ∈ ps.take i, q p = false) (hq : q p = false) : ∀ p ∈ ps.take (i + 1), q p = false := by
  intro y hy
  rw [List.take_add_one, hp] at hy
  rcases List.mem_append.mp hy with h | h
  · exact hK y h
  · simp at h; rw [h]; exact hq
theorem find_none {α : Type} {q : α → Bool} {ps : List α} {n : Nat} (hn : ps.length ≤ n) (hK : ∀ p ∈ ps.take n, q p = false) : ps.find? q = none := by
  rw [List.take_of_length_le hn] at hK
  exact List.find?_eq_none.mpr fun x hx => by rw [hK x hx]; exact Bool.false_ne_true
end Mine
namespace Mine
noncomputable def Hold (P : Prop) : Prop := P
theorem Hold.on {P : Prop} (h : Hold P) : P := h
theorem Hold.off {P : Prop} (h : P) : Hold P := h
end Mine
namespace Mine
open PySem PySem.Calls PySem.Builtin PyProof.Rows PySem.W
noncomputable def NextWith (h₀ : Heap) (L : Addr) (s₁ : Shared) (R : (Str → Option Value) → List (Addr × Obj) → Prop) (f : Flow) (s' : Shared) : Prop :=
  f = .next ∧ ∃ h tk m news, s' = { s₁ with heap := h, toks := tk } ∧ Fr h₀ L h m ∧ News h₀ L h news ∧ R m news
theorem nextWith_seq {M : Model} {A : Around} {E : Value → Shared → Prop} {s : Shared} {t : Sem Flow} {Q : Flow → Shared → Prop} {h₀ h9 : Heap} {L : Addr} {m9 : Str → Option Value} (_F : Fr h₀ L h9 m9) (R : (Str → Option Value) → List (Addr × Obj) → Prop)
    (h1 : wpAny M A t (NextWith h₀ L s R) E s) (h2 : ∀ h tk m news, Fr h₀ L h m → News h₀ L h news → R m news → Q .next { s with heap := h, toks := tk }) : wpAny M A t Q E s :=
  wpAny_mono h1 (fun f s' h => by obtain ⟨rfl, h', tk, m, news, rfl, F, N, r⟩ := h; exact h2 h' tk m news F N r) fun _ _ e => e
theorem NextWith.intro {h₀ : Heap} {L : Addr} {s₁ : Shared} {R : (Str → Option Value) → List (Addr × Obj) → Prop} {h : Heap} {tk : Nat} {m : Str → Option Value} {news : List (Addr × Obj)} (F : Fr h₀ L h m) (N : News h₀ L h news) (r : R m news) :
    NextWith h₀ L s₁ R .next { s₁ with heap := h, toks := tk } := ⟨rfl, h, tk, m, news, rfl, F, N, r⟩
end Mine
namespace Mine
structure NoHold : Prop where
end Mine
end
section
open PySem PySem.W PyProof.Rows PySem.Calls
namespace Mine
local macro_rules | `(tactic| walk_at "getMethod ref") => `(tactic| (k_here; refine Hold.on ?_))
local macro_rules | `(tactic| walk_at "call builtin:re.Pattern.search") => `(tactic| (k_here; refine Hold.on ?_))

theorem conv_walk {w : World} {loose : List Str} {mean : ExcName → Option Value} {mg mb : Str → Option Value}
  {dp un : Nat} {gd : Option (List Code)} {cn : Str} {csn : List (Str × NameKind)} {csg csc : Bool} {csm : List (Str × Const)} {a : Addr} {ccd : Value} {cl : List (Str × Addr)} {outer : List Env} {A₀ : Around} {base h₀ : Heap} {L : Addr} {m : Str → Option Value} {news : List (Addr × Obj)} {s : Shared} {Q E : Value → Shared → Prop}
  {x : Str} {t1 : Tok} {sf : Value} {b : Bool}
  (B : Below A₀ base outer h₀) (F : Fr h₀ L s.heap m) (X : (hd01.heap_39 w.params).In h₀) (N : News h₀ L s.heap news) (T : Top hd01.view_39 loose mean mg mb h₀) 
  (hd : dp + 3 < recursionLimit) (hu : un + 24 < cLine) (hx : okS x)
  (ret : ∀ (t' : Tok) h' tk', Fr h₀ L h' m → News h₀ L h' news → Q (.str x t') { s with heap := h', toks := tk' }) :
  wpAny (model PySem.Challenge.rw_sw0068_01.row.prog w) (ktrTop dp un gd cn ⟨.function, csn, csg, csc, csm⟩ L a ccd cl outer) (call (.ref 83) [sf, .str x t1] [("name", .bool b)]) Q E s := by
  revert X; k_fill; intro X
  refine wpAny_call ?_
  k_dflt k_enter
  (k_steps; repeat' (refine Hold.off ?_; first | ((with_reducible show wpAny _ _ (call (Value.builtin "re.Pattern.search") _ _) _ _ _); k_dflt (refine' search_K ?k1 ?k2 ?k3 ?k4 ?k5 ?k6 ?k7 ?k8 ?_; (case k1 => k_asm); (case k2 => k_asm); (case k3 => k_is); (case k4 => exact rfl); (case k5 => exact rfl); (case k6 => k_is); (case k7 => first | exact Or.inl (by decide +kernel) | exact Or.inr (by decide +kernel)); (case k8 => assumption); k_whole); k_steps) | ((with_reducible show wpAny _ _ (getMethod (Value.ref _) (PySem.Str.ofString "search") _) _ _ _); k_dflt (refine' search_method ?k1 ?k2 ?k3 ?_; (case k1 => k_asm); (case k2 => k_asm); (case k3 => k_is); k_whole); k_steps)))
  all_goals exact ret _ _ _ (by k_asm) (by k_asm)
end Mine
end
open Mine

section
open PySem PySem.W PyProof.Rows PySem.Calls
namespace Mine
local macro_rules | `(tactic| walk_at "call ref") => `(tactic| (k_here; refine Hold.on ?_))

local macro_rules | `(tactic| walk_at "call builtin:str.join") => `(tactic| (k_here; refine Hold.on ?_))
local macro_rules | `(tactic| walk_at "no such key") => `(tactic| (k_here; refine Hold.on ?_))

local macro_rules | `(tactic| k_all) => `(tactic| assumption)
theorem add_walk {w : World} {loose : List Str} {mean : ExcName → Option Value} {mg mb : Str → Option Value}
  {dp un : Nat} {gd : Option (List Code)} {cn : Str} {csn : List (Str × NameKind)} {csg csc : Bool} {csm : List (Str × Const)} {a : Addr} {ccd : Value} {cl : List (Str × Addr)} {outer : List Env} {A₀ : Around} {base h₀ : Heap} {L : Addr} {m : Str → Option Value} {news : List (Addr × Obj)} {s : Shared} {Q E : Value → Shared → Prop}
  {hA dx l : Addr} {tk nn : Nat} {vs : List Value} {x y : Str} {t1 t2 : Tok} 
  (B : Below A₀ base outer h₀) (F : Fr h₀ L s.heap m) (X : (hd01.heap_39 w.params).In h₀)
  (N : News h₀ L s.heap ((hA, instObj 182 dx) :: (dx, dictOf [⟨PyData.keyHash w.params "_headers", .str "_headers" tk, .ref l⟩] 1) :: (l, listOf vs.toArray nn) :: news)) (T : Top hd01.view_39 loose mean mg mb h₀) 
  (hd : dp + 6 < recursionLimit) (hu : un + 48 < cLine) (hx : okS x) (hy : okS y) (ne1 : hA ≠ l) (ne2 : dx ≠ l) (hoff : ∀ p ∈ news, p.1 ≠ l) (hlen : vs.length ≤ 1000)
  (ret : ∀ (T : Addr) (t1 t2 : Tok) (h' : Heap) (tk' : Nat), Fr h₀ L h' m → News h₀ L h' ((T, ({ cls := .type "tuple", data := .seq #[.str x t1, .str y t2] } : Obj)) :: (hA, instObj 182 dx) :: (dx, dictOf [⟨PyData.keyHash w.params "_headers", .str "_headers" tk, .ref l⟩] 1) :: (l, listOf (vs.toArray.push (Value.ref T)) (nn + 1)) :: news) → Q .none { s with heap := h', toks := tk' }) :
  wpAny (model PySem.Challenge.rw_sw0068_01.row.prog w) (ktrTop dp un gd cn ⟨.function, csn, csg, csc, csm⟩ L a ccd cl outer) (call (.ref 179) [.ref hA, .str x t1, .str y t2]) Q E s := by
  revert X; k_fill; intro X
  refine wpAny_call ?_
  k_dflt k_enter
  (k_steps; repeat' (refine Hold.off ?_; first | ((with_reducible show wpAny _ _ (call (Value.builtin "str.join") _ _) _ _ _); k_dflt (refine' join_single ?k1 ?k2 ?k3 ?_; (case k1 => is_list); (case k2 => exact okS_len (by assumption)); (case k3 => decide +kernel)); (intro t9 k9; try dsimp only); k_steps) | ((with_reducible show wpAny _ _ (call (Value.ref 83) _ _) _ _ _); k_dflt (refine' conv_walk ?k1 ?k2 ?k3 ?k4 ?k5 ?kd ?ku ?kx ?_; (case k1 => k_asm); (case k2 => k_asm); (case k3 => k_asm); (case k4 => k_asm); (case k5 => k_asm); (case kd => ktr_room); (case ku => ktr_units); (case kx => assumption)); intro t9' h' tk' F' N'; (try dsimp only); (try k_fold); k_steps)))
  (with_reducible rename News _ _ _ _ => NN)
  have N2 := news_drop2 NN
  clear NN
  k_dflt (refine' append_K ?k1 N2 ?k3 ?_ ?z)
  case k1 => k_asm
  case k3 => k_upd
  case z => (simp only [List.size_toArray, sizeLine_eq]; omega)
  clear N2
  intro h' F' N'
  (k_steps; repeat' (refine Hold.off ?_; first | ((with_reducible show wpAny _ _ (call (Value.builtin "str.join") _ _) _ _ _); k_dflt (refine' join_single ?k1 ?k2 ?k3 ?_; (case k1 => is_list); (case k2 => exact okS_len (by assumption)); (case k3 => decide +kernel)); (intro t9 k9; try dsimp only); k_steps) | ((with_reducible show wpAny _ _ (call (Value.ref 83) _ _) _ _ _); k_dflt (refine' conv_walk ?k1 ?k2 ?k3 ?k4 ?k5 ?kd ?ku ?kx ?_; (case k1 => k_asm); (case k2 => k_asm); (case k3 => k_asm); (case k4 => k_asm); (case k5 => k_asm); (case kd => ktr_room); (case ku => ktr_units); (case kx => assumption)); intro t9' h' tk' F' N'; (try dsimp only); (try k_fold); k_steps)))
  all_goals exact ret _ _ _ _ _ (by k_asm) (cb_drop (by assumption) (by kcf_all))
end Mine
end
section
open PySem PySem.W PyProof.Rows PySem.Calls
namespace Mine
local macro_rules | `(tactic| walk_at "call ref") => `(tactic| (k_here; refine Hold.on ?_))
local macro_rules | `(tactic| walk_at "call builtin:str.lower") => `(tactic| (k_here; refine Hold.on ?_))
local macro_rules | `(tactic| k_all) => `(tactic| exact allLt_ne (by assumption) (by omega))
local macro_rules | `(tactic| walk_at "exec For Tuple Attribute cons nil") => `(tactic| (k_here; refine Hold.on ?_))
local macro_rules | `(tactic| walk_at "no such key") => `(tactic| (k_here; refine Hold.on ?_))

theorem get2_walk {w : World} {loose : List Str} {mean : ExcName → Option Value} {mg mb : Str → Option Value}
  {dp un : Nat} {gd : Option (List Code)} {cn : Str} {csn : List (Str × NameKind)} {csg csc : Bool} {csm : List (Str × Const)} {a : Addr} {ccd : Value} {cl : List (Str × Addr)} {outer : List Env} {A₀ : Around} {base h₀ : Heap} {L : Addr} {m : Str → Option Value} {news : List (Addr × Obj)} {s : Shared} {Q E : Value → Shared → Prop}
  {hA dx l : Addr} {tk nn : Nat} {vs : List Value} {ps : List (Str × Str)} {x d : Str} {t1 td : Tok}
  (B : Below A₀ base outer h₀) (F : Fr h₀ L s.heap m) (X : (hd01.heap_39 w.params).In h₀)
  (N : News h₀ L s.heap ((hA, instObj 182 dx) :: (dx, dictOf [⟨PyData.keyHash w.params "_headers", .str "_headers" tk, .ref l⟩] 1) :: (l, listOf vs.toArray nn) :: news)) (T : Top hd01.view_39 loose mean mg mb h₀)
  (hd : dp + 6 < recursionLimit) (hu : un + 48 < cLine) (hx : okS x) (hlen : vs.length ≤ 1000) (hps : PairsIn news vs ps) (hok : ∀ p ∈ ps, okS p.1)
  (ret : ∀ (v : Value) (h' : Heap) (tk' : Nat), Fr h₀ L h' m → News h₀ L h' ((hA, instObj 182 dx) :: (dx, dictOf [⟨PyData.keyHash w.params "_headers", .str "_headers" tk, .ref l⟩] 1) :: (l, listOf vs.toArray nn) :: news) →
     (match ps.find? (fun p => lowS p.1 == lowS x) with | some p => ∃ t, v = .str p.2 t | none => v = .str d td) → Q v { s with heap := h', toks := tk' }) :
  wpAny (model PySem.Challenge.rw_sw0068_01.row.prog w) (ktrTop dp un gd cn ⟨.function, csn, csg, csc, csm⟩ L a ccd cl outer) (call (.ref 129) [.ref hA, .str x t1, .str d td]) Q E s := by
  revert X; k_fill; intro X
  refine wpAny_call ?_
  k_dflt k_enter
  (k_steps; repeat' (refine Hold.off ?_; first | ((with_reducible show wpAny _ _ (exec (PySem.Stmt.For ..) _) _ _ _); (rename Fr _ _ _ _ => lF'); (with_unfolding_all refine' For_turns lF' ?_; k_whole); k_steps) | ((with_reducible show wpAny _ _ (call (Value.builtin "str.lower") [Value.str _ _]) _ _ _); refine call_lower (by assumption) ?_; (try dsimp only); k_steps) | ((with_reducible show wpAny _ _ (call (Value.ref 83) _ _) _ _ _); k_dflt (refine' conv_walk ?k1 ?k2 ?k3 ?k4 ?k5 ?kd ?ku ?kx ?_; (case k1 => k_asm); (case k2 => k_asm); (case k3 => k_asm); (case k4 => k_asm); (case k5 => k_asm); (case kd => ktr_room); (case ku => ktr_units); (case kx => first | assumption | exact okS_low (by assumption))); intro t9' h' tk' F' N'; (try dsimp only); (try k_fold); k_steps)))
  refine iter_listTurns (by rfl) (by k_asm) (by k_asm) (by k_mem) rfl rfl ?_
  intro I hI
  refine itemsRest_pure [Str.ofString "k", Str.ofString "v"] (fun i => ∀ p ∈ ps.take i, (lowS p.1 == lowS x) = false) ?turn ?done (by simp)
  case turn =>
    intro i v0 v h tk u hv0 hv hK F'
    obtain ⟨v1, hv1, rfl⟩ : ∃ v1, vs[i]? = some v1 ∧ v0 = .val v1 := by
      rw [List.getElem?_map] at hv0
      cases hq : vs[i]? with
      | none => rw [hq] at hv0; cases hv0
      | some v1 => rw [hq] at hv0; exact ⟨v1, rfl, (Option.some.inj hv0).symm⟩
    have hv' : v = v1 := hv
    subst hv'
    obtain ⟨aP, kP, xP, tA, tB, rfl, hm, hp⟩ := hps.get hv1
    have hkP : okS kP := hok _ (List.mem_of_getElem? hp)
    refine AllObj.cons fun oI hcI => AllObj.nil fun N' => ?_
    have N2 := news_more (x := (aP, pairObj kP xP tA tB)) N' (by simp [hm])
    clear N'
    (k_steps; repeat' (refine Hold.off ?_; first | ((with_reducible show wpAny _ _ (exec (PySem.Stmt.For ..) _) _ _ _); (rename Fr _ _ _ _ => lF'); (with_unfolding_all refine' For_turns lF' ?_; k_whole); k_steps) | ((with_reducible show wpAny _ _ (call (Value.builtin "str.lower") [Value.str _ _]) _ _ _); refine call_lower (by assumption) ?_; (try dsimp only); k_steps) | ((with_reducible show wpAny _ _ (call (Value.ref 83) _ _) _ _ _); k_dflt (refine' conv_walk ?k1 ?k2 ?k3 ?k4 ?k5 ?kd ?ku ?kx ?_; (case k1 => k_asm); (case k2 => k_asm); (case k3 => k_asm); (case k4 => k_asm); (case k5 => k_asm); (case kd => ktr_room); (case ku => ktr_units); (case kx => first | assumption | exact okS_low (by assumption))); intro t9' h' tk' F' N'; (try dsimp only); (try k_fold); k_steps)))
    · exact ret _ _ _ (by k_asm) (cb_drop (by assumption) (by kcf_all)) (by rw [find_at hp hK (by assumption)]; exact ⟨_, rfl⟩)
    · refine unrEnd1 (by k_asm) (by assumption) (by kcf_all) hI ⟨⟨by simp, trivial⟩, rfl, ?_, all_take_succ hp hK (by assumption)⟩
      intro z hz
      have hz' : z ≠ Str.ofString "k" ∧ z ≠ Str.ofString "v" := by simpa using hz
      simp [hz'.1, hz'.2]
  case done =>
    intro h tk u hK F' N'
    (k_steps; repeat' (refine Hold.off ?_; first | ((with_reducible show wpAny _ _ (exec (PySem.Stmt.For ..) _) _ _ _); (rename Fr _ _ _ _ => lF'); (with_unfolding_all refine' For_turns lF' ?_; k_whole); k_steps) | ((with_reducible show wpAny _ _ (call (Value.builtin "str.lower") [Value.str _ _]) _ _ _); refine call_lower (by assumption) ?_; (try dsimp only); k_steps) | ((with_reducible show wpAny _ _ (call (Value.ref 83) _ _) _ _ _); k_dflt (refine' conv_walk ?k1 ?k2 ?k3 ?k4 ?k5 ?kd ?ku ?kx ?_; (case k1 => k_asm); (case k2 => k_asm); (case k3 => k_asm); (case k4 => k_asm); (case k5 => k_asm); (case kd => ktr_room); (case ku => ktr_units); (case kx => first | assumption | exact okS_low (by assumption))); intro t9' h' tk' F' N'; (try dsimp only); (try k_fold); k_steps)))
    exact ret _ _ _ (by k_asm) (cb_drop (by assumption) (by kcf_all)) (by rw [find_none (by simp [hps.length]) hK])
end Mine
end
section
open PySem PySem.W PyProof.Rows PySem.Calls
namespace Mine
local macro_rules | `(tactic| k_all) => `(tactic| exact allLt_ne (by assumption) (by omega))

local macro_rules | `(tactic| walk_at "exec For Tuple Name cons nil") => `(tactic| (k_here; refine Hold.on ?_))
theorem init_walk {w : World} {loose : List Str} {mean : ExcName → Option Value} {mg mb : Str → Option Value}
  {dp un : Nat} {gd : Option (List Code)} {cn : Str} {csn : List (Str × NameKind)} {csg csc : Bool} {csm : List (Str × Const)} {a : Addr} {ccd : Value} {cl : List (Str × Addr)} {outer : List Env} {A₀ : Around} {base h₀ : Heap} {L : Addr} {m : Str → Option Value} {news : List (Addr × Obj)} {s : Shared} {Q E : Value → Shared → Prop}
  {l : Addr}
  (B : Below A₀ base outer h₀) (F : Fr h₀ L s.heap m) (X : (hd01.heap_39 w.params).In h₀)
  (N : News h₀ L s.heap ((l, listOf #[] 0) :: news)) (T : Top hd01.view_39 loose mean mg mb h₀)
  (hd : dp + 6 < recursionLimit) (hu : un + 48 < cLine)
  (ret : ∀ (hA dx : Addr) (tk : Tok) (h' : Heap) (tk' : Nat), Fr h₀ L h' m → News h₀ L h' ((hA, instObj 182 dx) :: (dx, dictOf [⟨PyData.keyHash w.params "_headers", .str "_headers" tk, .ref l⟩] 1) :: (l, listOf #[] 0) :: news) → Q (.ref hA) { s with heap := h', toks := tk' }) :
  wpAny (model PySem.Challenge.rw_sw0068_01.row.prog w) (ktrTop dp un gd cn ⟨.function, csn, csg, csc, csm⟩ L a ccd cl outer) (call (.ref 182) [.ref l]) Q E s := by
  revert X; k_fill; intro X
  (k_steps; repeat' (refine Hold.off ?_; first | ((with_reducible show wpAny _ _ (exec (PySem.Stmt.For ..) _) _ _ _); (rename Fr _ _ _ _ => lF'); (with_unfolding_all refine' For_turns lF' ?_; k_whole); k_steps)))
  refine iter_listTurns (vs := []) (by rfl) (by k_asm) (by k_asm) (by k_mem) rfl rfl ?_
  intro I hI
  refine ItemsRest.zero ?_
  intro h9 tk9 F' N'
  (k_steps; repeat' (refine Hold.off ?_; first | ((with_reducible show wpAny _ _ (exec (PySem.Stmt.For ..) _) _ _ _); (rename Fr _ _ _ _ => lF'); (with_unfolding_all refine' For_turns lF' ?_; k_whole); k_steps)))
  all_goals exact ret _ _ _ _ _ (by k_asm) (cb_drop (by assumption) (by kcf_all))
end Mine
end
section
namespace Mine
open PySem
noncomputable def apL : Nat → Nat → List UInt8
  | 0, _ => []
  | f + 1, n => if n = 0 then [] else apL f (n / 16) ++ [(65 + n % 16).toUInt8]
noncomputable def apA (n : Nat) : Array UInt8 := (apL 20 n).toArray
inductive ApInv (n : Nat) : Nat → Array UInt8 → Prop
  | mk (f k : Nat) (v : List UInt8) : k < 16 ^ f → f + v.length ≤ 20 → apL 20 n = apL f k ++ v → ApInv n k v.toArray
theorem ApInv.start {n k : Nat} (h : k = n ∧ n < 2 ^ 62) : ApInv n k #[] := by
  obtain ⟨rfl, h⟩ := h
  exact .mk 20 _ [] (Nat.lt_of_lt_of_le h (by decide)) (by simp) (by simp)
theorem ApInv.fin {n : Nat} {v : Array UInt8} (h : ApInv n 0 v) : apA n = v := by
  cases h with
  | mk f k v h1 h2 h3 =>
    unfold apA
    rw [h3]
    cases f <;> simp [apL]
theorem ApInv.next {n k : Nat} {v : Array UInt8} (h : ApInv n k v) (hk : k ≠ 0) : ApInv n (k / 16) (#[(65 + k % 16).toUInt8] ++ v) ∧ v.size ≤ 20 := by
  cases h with
  | mk f k v h1 h2 h3 =>
    cases f with
    | zero => exact absurd (by simpa using h1) hk
    | succ f =>
      refine ⟨?_, by simp; omega⟩
      have e : (#[(65 + k % 16).toUInt8] ++ v.toArray : Array UInt8) = ((65 + k % 16).toUInt8 :: v).toArray := by simp
      rw [e]
      refine .mk f _ _ ?_ (by simp; omega) ?_
      · rw [Nat.pow_succ] at h1; exact Nat.div_lt_of_lt_mul (by rw [Nat.mul_comm]; exact h1)
      · rw [h3]; simp [apL, hk]
end Mine
namespace Mine
open PySem PySem.Calls PyProof.Rows PySem.W
noncomputable abbrev APb : Array UInt8 := #[65, 66, 67, 68, 69, 70, 71, 72, 73, 74, 75, 76, 77, 78, 79, 80]
theorem picked_AP (k : Int) (h : 0 ≤ k) : KBy.picked APb (some (k.fmod 16)) (some (k.fmod 16 + 1)) = #[(65 + k.toNat % 16).toUInt8] := by
  have all : ∀ j : Fin 16, KBy.picked APb (some ((j.val : Nat) : Int)) (some (((j.val : Nat) : Int) + 1)) = #[(65 + j.val).toUInt8] := by decide +kernel
  have e : k.fmod 16 = ((k.toNat % 16 : Nat) : Int) := by
    rw [Int.fmod_eq_emod_of_nonneg _ (by decide)]; omega
  rw [e]
  exact all ⟨k.toNat % 16, Nat.mod_lt _ (by decide)⟩
section
variable {prog : Program} {w : World} {A : Around} {E : Value → Shared → Prop} {h₀ : Heap} {L : Addr} {m : PySem.Str → Option Value} {news : List (Addr × Obj)} {value slice : PySem.Expr} {Q : Value → Shared → Prop}
theorem slice_AP {hp : Heap} {g : Array GenState} {d : Drawn} {tk : Nat} {os : OsState} {k : Int} {t u1 u2 : Tok} (hF : Fr h₀ L hp m) (hN : News h₀ L hp news) (h0 : 0 ≤ k)
    (h : ∀ h' t' tk', Fr h₀ L h' m → News h₀ L h' news → Q (.bytes #[(65 + k.toNat % 16).toUInt8] t') ⟨h', g, d, tk', os⟩)
    (hs : subscripted slice false (.bytes APb t) (.ref hp.objs.size) = operate [.ref hp.objs.size, .bytes APb t] (getItem (.bytes APb t) (.ref hp.objs.size)) := by with_unfolding_all rfl)
    (ht : ∀ r, letTemporaryGo value (.bytes APb t) r = pure () := by intro _; with_unfolding_all rfl) :
    wpAny (model prog w) A (subscriptTail value slice (.bytes APb t) (.ref hp.objs.size)) Q E ⟨hp.push { cls := .type "slice", data := .fields #[.int (k.fmod 16) u1, .int (k.fmod 16 + 1) u2, .none] }, g, d, tk, os⟩ :=
  KBc.slice_K (s := ⟨hp, g, d, tk, os⟩) hF hN (ks := KBw.bInts APb) rfl (.int _ _) (.int _ _) (by decide) (fun h' t' tk' F' N' _ => by rw [picked_AP k h0]; exact h h' t' tk' F' N') hs ht
end
end Mine
namespace Mine
theorem ApInv.size {n k : Nat} {v : Array UInt8} (h : ApInv n k v) : v.size ≤ 20 := by
  cases h with
  | mk f k v h1 h2 h3 => simp; omega
end Mine
namespace Mine
open PySem
theorem ap_turn {n : Nat} {k : Int} {v : Array UInt8} (h1 : 0 ≤ k) (h2 : k < 2 ^ 62) (h3 : ApInv n k.toNat v) (hk : k ≠ 0) :
    (0 ≤ k.fdiv 16 ∧ k.fdiv 16 < 2 ^ 62 ∧ ApInv n (k.fdiv 16).toNat (#[(65 + k.toNat % 16).toUInt8] ++ v)) ∧ (k.fdiv 16).toNat < k.toNat := by
  have e : k.fdiv 16 = k / 16 := Int.fdiv_eq_ediv_of_nonneg _ (by decide)
  have e2 : (k.fdiv 16).toNat = k.toNat / 16 := by rw [e]; omega
  refine ⟨⟨by rw [e]; omega, by rw [e]; omega, ?_⟩, by rw [e2]; omega⟩
  rw [e2]
  exact (h3.next (by omega)).1
end Mine
end
section
open PySem PySem.W PyProof.Rows PySem.Calls
namespace Mine
local macro_rules | `(tactic| k_all) => `(tactic| first | exact allLt_ne (by assumption) (by omega) | assumption)
local macro_rules | `(tactic| walk_at "exec While Name cons nil") => `(tactic| (k_here; refine Hold.on ?_))

local macro_rules | `(tactic| walk_at "subscriptTail") => `(tactic| (k_here; refine Hold.on ?_))
local macro_rules | `(tactic| walk_at "binaryOp Add bytes bytes") => `(tactic| (k_here; refine Hold.on ?_))
theorem ap_walk {w : World} {loose : List Str} {mean : ExcName → Option Value} {mg mb : Str → Option Value}
  {dp un : Nat} {gd : Option (List Code)} {cn : Str} {csn : List (Str × NameKind)} {csg csc : Bool} {csm : List (Str × Const)} {a : Addr} {ccd : Value} {cl : List (Str × Addr)} {outer : List Env} {A₀ : Around} {base h₀ : Heap} {L : Addr} {m : Str → Option Value} {news : List (Addr × Obj)} {s : Shared} {Q E : Value → Shared → Prop}
  {n : Int} {t1 : Tok}
  (B : Below A₀ base outer h₀) (F : Fr h₀ L s.heap m) (X : (hd01.heap_39 w.params).In h₀)
  (N : News h₀ L s.heap news) (T : Top hd01.view_39 loose mean mg mb h₀)
  (hd : dp + 6 < recursionLimit) (hu : un + 48 < cLine) (hn : n.natAbs < 2 ^ 62)
  (ret : ∀ (t : Tok) (h' : Heap) (tk' : Nat), Fr h₀ L h' m → News h₀ L h' news → Q (.bytes (apA n.natAbs) t) { s with heap := h', toks := tk' }) :
  wpAny (model PySem.Challenge.rw_sw0068_01.row.prog w) (ktrTop dp un gd cn ⟨.function, csn, csg, csc, csm⟩ L a ccd cl outer) (call (.ref 193) [.int n t1]) Q E s := by
  revert X; k_fill; intro X
  refine wpAny_call ?_
  k_dflt k_enter
  (k_steps; repeat' (refine Hold.off ?_; first | ((with_reducible show wpAny _ _ (binaryOp Operator.Add (Value.bytes _ _) (Value.bytes _ _)) _ _ _); refine KBy.add_bytes (by (simp only [List.size_toArray, List.length_cons, List.length_nil]; omega)) ?_; intro t9' k9'; (try dsimp only); k_steps) | ((with_reducible show wpAny _ _ (subscriptTail _ (Expr.Slice _ _ none _) (Value.bytes _ _) (Value.ref _)) _ _ _); k_dflt (refine' slice_AP ?k1 ?k2 ?k3 ?_ ?k4 ?k5; (case k1 => k_asm); (case k2 => k_asm); (case k3 => assumption); (case k4 => with_unfolding_all rfl); (case k5 => (intro _; with_unfolding_all rfl))); intro h' t9' k9' F' N'; (try dsimp only); k_steps)))
  refine Hold.off ?_
  (with_reducible rename Fr _ _ _ _ => F9)
  refine' ksw_while (σ := Int × Array UInt8 × Tok × Tok) (fun _ => news) (fun c => [(Str.ofString "num", .int c.1 c.2.2.1), (Str.ofString "val", .bytes c.2.1 c.2.2.2)]) (fun _ => True) [Str.ofString "mod"]
    (fun c => 0 ≤ c.1 ∧ c.1 < 2 ^ 62 ∧ ApInv n.natAbs c.1.toNat c.2.1) (fun c => c.1.toNat) (if n < 0 then -n else n, #[], _, _) F9 ?hN trivial ?hk ?hp ?turn ?hE
  case hN => k_asm
  case hk => exact List.forall_mem_cons.mpr ⟨by with_unfolding_all rfl, List.forall_mem_cons.mpr ⟨by with_unfolding_all rfl, List.forall_mem_nil _⟩⟩
  case hp => exact ⟨by dsimp only; split <;> omega, by dsimp only; split <;> omega, ApInv.start ⟨by dsimp only; split <;> omega, by omega⟩⟩
  case hE => passes_own
  case turn =>
    rintro ⟨k, v, ta, tb⟩ u h tk9 - ⟨h1, h2, h3⟩ F' N'
    dsimp only [kstB] at F'
    dsimp only at h1 h2 h3
    have hvs := h3.size
    (k_steps; repeat' (refine Hold.off ?_; first | ((with_reducible show wpAny _ _ (binaryOp Operator.Add (Value.bytes _ _) (Value.bytes _ _)) _ _ _); refine KBy.add_bytes (by (simp only [List.size_toArray, List.length_cons, List.length_nil]; omega)) ?_; intro t9' k9'; (try dsimp only); k_steps) | ((with_reducible show wpAny _ _ (subscriptTail _ (Expr.Slice _ _ none _) (Value.bytes _ _) (Value.ref _)) _ _ _); k_dflt (refine' slice_AP ?k1 ?k2 ?k3 ?_ ?k4 ?k5; (case k1 => k_asm); (case k2 => k_asm); (case k3 => assumption); (case k4 => with_unfolding_all rfl); (case k5 => (intro _; with_unfolding_all rfl))); intro h' t9' k9' F' N'; (try dsimp only); k_steps)))
    · rename_i hk0
      have ht := ap_turn h1 h2 h3 (by assumption)
      refine' ksw_end (k.fdiv 16, #[(65 + k.toNat % 16).toUInt8] ++ v, _, _) ?F ?N ?n trivial ?k ?r ht.1 ht.2
      case F => k_asm
      case N => assumption
      case n => kcf_all
      case k => exact List.forall_mem_cons.mpr ⟨by with_unfolding_all rfl, List.forall_mem_cons.mpr ⟨by with_unfolding_all rfl, List.forall_mem_nil _⟩⟩
      case r => ksw_same
    · have e0 : k = 0 := by assumption
      have e1 : apA n.natAbs = v := ApInv.fin (by rw [e0] at h3; exact h3)
      rw [← e1]
      exact ret _ _ _ (by k_asm) (by k_asm)
end Mine
end
section
open PySem PySem.W PyProof.Rows PySem.Calls
namespace Mine
local macro_rules | `(tactic| walk_at "call builtin:str.lower") => `(tactic| (k_here; refine Hold.on ?_))

theorem sub_walk {w : World} {loose : List Str} {mean : ExcName → Option Value} {mg mb : Str → Option Value}
  {dp un : Nat} {gd : Option (List Code)} {cn : Str} {csn : List (Str × NameKind)} {csg csc : Bool} {csm : List (Str × Const)} {a : Addr} {ccd : Value} {cl : List (Str × Addr)} {outer : List Env} {A₀ : Around} {base h₀ : Heap} {L : Addr} {m : Str → Option Value} {news : List (Addr × Obj)} {s : Shared} {Q E : Value → Shared → Prop}
  {x y : Str} {t1 t2 : Tok}
  (B : Below A₀ base outer h₀) (F : Fr h₀ L s.heap m) (X : (hd01.heap_39 w.params).In h₀)
  (N : News h₀ L s.heap news) (T : Top hd01.view_39 loose mean mg mb h₀)
  (hd : dp + 6 < recursionLimit) (hx : okS x) (hy : okS y)
  (ret : ∀ (t : Tok) (h' : Heap) (tk' : Nat), Fr h₀ L h' m → News h₀ L h' news → Q (.int (subS x y) t) { s with heap := h', toks := tk' }) :
  wpAny (model PySem.Challenge.rw_sw0068_01.row.prog w) (ktrTop dp un gd cn ⟨.function, csn, csg, csc, csm⟩ L a ccd cl outer) (call (.ref 200) [.str x t1, .str y t2]) Q E s := by
  revert X; k_fill; intro X
  refine wpAny_call ?_
  k_dflt k_enter
  (k_steps; repeat' (refine Hold.off ?_; first | ((with_reducible show wpAny _ _ (call (Value.builtin "str.lower") (Prod.snd _)) _ _ _); dsimp only; k_steps) | ((with_reducible show wpAny _ _ (call (Value.builtin "str.lower") [Value.str _ _]) _ _ _); refine call_lower (by assumption) ?_; (try dsimp only); k_steps)))
  · have e : subS x y = 0 := by unfold subS; rw [if_pos (by assumption)]
    rw [e] at ret
    exact ret _ _ _ (by k_asm) (by k_asm)
  · have e : subS x y = 1 := by unfold subS; rw [if_neg (by simp [*]), if_pos (by assumption)]
    rw [e] at ret
    exact ret _ _ _ (by k_asm) (by k_asm)
  · have e : subS x y = 2 := by unfold subS; rw [if_neg (by simp [*]), if_neg (by simp [*])]
    rw [e] at ret
    exact ret _ _ _ (by k_asm) (by k_asm)
end Mine
end
section
namespace Mine
noncomputable def stripPre : List Nat → List Nat → List Nat × List Nat
  | c :: a, d :: b => if c = d then stripPre a b else (c :: a, d :: b)
  | a, b => (a, b)
theorem stripPre_drop {a b : List Nat} {k : Nat} (ha : k < a.length) (hb : k < b.length) (h : a.getD k 0 = b.getD k 0) : stripPre (a.drop k) (b.drop k) = stripPre (a.drop (k + 1)) (b.drop (k + 1)) := by
  rw [List.drop_eq_getElem_cons ha, List.drop_eq_getElem_cons hb]
  have e : a[k] = b[k] := by simpa [List.getD_eq_getElem?_getD, ha, hb] using h
  simp [stripPre, e]
theorem stripPre_stop {a b : List Nat} {k : Nat} (h : a.drop k = [] ∨ b.drop k = [] ∨ a.getD k 0 ≠ b.getD k 0) : stripPre (a.drop k) (b.drop k) = (a.drop k, b.drop k) := by
  by_cases ha : k < a.length
  · by_cases hb : k < b.length
    · have h' : a.getD k 0 ≠ b.getD k 0 := by
        rcases h with h | h | h
        · simp at h; omega
        · simp at h; omega
        · exact h
      rw [List.drop_eq_getElem_cons ha, List.drop_eq_getElem_cons hb]
      have e : a[k] ≠ b[k] := by simpa [List.getD_eq_getElem?_getD, ha, hb] using h'
      simp [stripPre, e]
    · rw [List.drop_of_length_le (by omega : b.length ≤ k)]
      cases a.drop k <;> rfl
  · rw [List.drop_of_length_le (by omega : a.length ≤ k)]
    rfl
noncomputable def stripSuf (a b : List Nat) : List Nat × List Nat := let p := stripPre a.reverse b.reverse; (p.1.reverse, p.2.reverse)
theorem rev_drop (a : List Nat) (j : Nat) : (a.reverse.drop j).reverse = a.take (a.length - j) := by
  rw [List.drop_reverse, List.reverse_reverse]
theorem rev_getD (a : List Nat) (j : Nat) (h : j < a.length) : a.reverse.getD j 0 = a.getD (a.length - 1 - j) 0 := by
  have h2 : a.length - 1 - j < a.length := by omega
  simp only [List.getD_eq_getElem?_getD]
  rw [List.getElem?_reverse h]
/-- the suffix: what is left after j signs are off the ends -/
noncomputable def sufAt (a b : List Nat) (j : Nat) : Prop := stripPre a.reverse b.reverse = stripPre (a.reverse.drop j) (b.reverse.drop j)
theorem sufAt_zero (a b : List Nat) : sufAt a b 0 := rfl
theorem sufAt_next {a b : List Nat} {j : Nat} (h : sufAt a b j) (ha : j < a.length) (hb : j < b.length) (e : a.getD (a.length - 1 - j) 0 = b.getD (b.length - 1 - j) 0) : sufAt a b (j + 1) := by
  unfold sufAt at h ⊢
  rw [h]
  exact stripPre_drop (by simpa using ha) (by simpa using hb) (by rw [rev_getD a j ha, rev_getD b j hb]; exact e)
theorem sufAt_stop {a b : List Nat} {j : Nat} (h : sufAt a b j) (hs : a.take (a.length - j) = [] ∨ b.take (b.length - j) = [] ∨ (j < a.length ∧ j < b.length ∧ a.getD (a.length - 1 - j) 0 ≠ b.getD (b.length - 1 - j) 0)) :
    stripSuf a b = (a.take (a.length - j), b.take (b.length - j)) := by
  unfold stripSuf
  unfold sufAt at h
  rw [h]
  have hs' : a.reverse.drop j = [] ∨ b.reverse.drop j = [] ∨ a.reverse.getD j 0 ≠ b.reverse.getD j 0 := by
    rcases hs with hs | hs | ⟨h1, h2, hs⟩
    · left; rw [← rev_drop] at hs; simpa using hs
    · right; left; rw [← rev_drop] at hs; simpa using hs
    · right; right; rw [rev_getD a j h1, rev_getD b j h2]; exact hs
  rw [stripPre_stop hs']
  simp only [rev_drop]
noncomputable def lowN (c : Nat) : Nat := if 65 ≤ c ∧ c ≤ 90 then c + 32 else c
noncomputable def cost (c d : Nat) : Int := if c = d then 0 else if lowN c = lowN d then 1 else 2
noncomputable def innF (c : Nat) : List Nat → List Int → Int → Int → Int → List Int × Int × Int
  | ai :: as, ro :: rs, d, r, m =>
    let r' := min (min r ro + 2) (d + cost c ai)
    let m' := if r' < m then r' else m
    let p := innF c as rs ro r' m'
    (r' :: p.1, p.2.1, p.2.2)
  | _, _, _, r, m => ([], r, m)
noncomputable def big : Int := 9223372036854775807
noncomputable def outF (a : List Nat) (mx : Int) : List Nat → Nat → List Int → Int → Int
  | [], _, _, r => r
  | c :: bs, i, row, _ =>
    let p := innF c a row (2 * i) (2 * i) big
    if mx < p.2.2 then mx + 1 else outF a mx bs (i + 1) p.1 p.2.1
noncomputable def row0 (n : Nat) : List Int := (List.range n).map fun (i : Nat) => 2 + 2 * (i : Int)
noncomputable def core (a b : List Nat) (mx : Int) : Int :=
  if a = [] ∨ b = [] then 2 * ((a.length : Int) + b.length)
  else
    let p := if b.length < a.length then (b, a) else (a, b)
    if mx < ((p.2.length : Int) - p.1.length) * 2 then mx + 1 else outF p.1 mx p.2 0 (row0 p.1.length) 0
noncomputable def lev (x y : List Nat) (mx : Int) : Int :=
  if x = y then 0 else
    let p := stripPre x y
    let q := stripSuf p.1 p.2
    core q.1 q.2 mx
end Mine
end
section
namespace Mine
open PySem PySem.Calls PySem.Builtin PySem.Builtin.Str PyProof.Rows PySem.W PyProof
@[irreducible] noncomputable def sL (l : List Nat) : Str := ⟨l.toArray⟩
theorem sL_eq (l : List Nat) : sL l = ⟨l.toArray⟩ := by unfold sL; rfl
theorem sL_len (l : List Nat) : (sL l).length = l.length := by rw [sL_eq]; simp [Str.length]
theorem sL_inj {l r : List Nat} (h : sL l = sL r) : l = r := by
  rw [sL_eq, sL_eq] at h
  have := congrArg (fun s : Str => s.cps.toList) h
  simpa using this
theorem sL_of (x : Str) : sL x.cps.toList = x := by rw [sL_eq]
theorem sL_beq (l r : List Nat) : (sL l == sL r) = (l == r) := by
  by_cases h : l = r
  · subst h; simp
  · have h2 : sL l ≠ sL r := fun e => h (sL_inj e)
    rw [beq_false_of_ne h, beq_false_of_ne h2]
theorem okS_sL {l : List Nat} (hl : l.length ≤ 1000) (h : ∀ c ∈ l, okc c = true) : okS (sL l) := by
  rw [sL_eq]
  refine ⟨by simp; omega, fun i hi => ?_⟩
  have hi' : i < l.length := by simpa using hi
  have e : (l.toArray.getD i 0) = l[i] := by simp [Array.getD, hi']
  show okc (l.toArray.getD i 0) = true
  rw [e]
  exact h _ (List.getElem_mem hi')
theorem slice_nat (l : List Nat) {a b : Nat} (hab : a ≤ b) (hb : b ≤ l.length) : Txt.slice (sL l) (some (a : Int)) (some (b : Int)) = sL ((l.drop a).take (b - a)) := by
  have := StrLaws.sliceText_nat (sL l) hab (by rw [sL_len]; exact hb)
  refine Eq.trans this ?_
  rw [sL_eq, sL_eq]
theorem slice_from (l : List Nat) (k : Nat) : Txt.slice (sL l) (some (k : Int)) none = sL (l.drop k) := by
  have e : Txt.slice (sL l) (some (k : Int)) none = Txt.slice (sL l) (some ((min k l.length : Nat) : Int)) (some (l.length : Int)) := by
    have e1 : strSliceIndices (some (k : Int)) none 1 (sL l).length = strSliceIndices (some ((min k l.length : Nat) : Int)) (some (l.length : Int)) 1 (sL l).length := by
      rw [sL_len]
      unfold strSliceIndices
      have h1 : ¬ ((k : Int) < 0) := by omega
      have h2 : ¬ (((min k l.length : Nat) : Int) < 0) := by omega
      have h3 : ¬ ((l.length : Int) < 0) := by omega
      simp only [h1, h2, h3, if_false, show (1 : Int) > 0 by decide, if_true]
      congr 1 <;> omega
    unfold Txt.slice
    rw [e1]
  rw [e, slice_nat l (by omega) (Nat.le_refl _)]
  by_cases hk : k ≤ l.length
  · rw [Nat.min_eq_left hk, List.take_of_length_le (by simp)]
  · rw [Nat.min_eq_right (by omega), List.drop_of_length_le (Nat.le_refl _), List.drop_of_length_le (by omega)]; simp
theorem slice_full (l : List Nat) : Txt.slice (sL l) none none = sL l := by
  have e : Txt.slice (sL l) none none = Txt.slice (sL l) (some ((0 : Nat) : Int)) none := by
    unfold Txt.slice
    rw [StrLaws.sliceIdx_none_lo]; rfl
  rw [e, slice_from]; simp
theorem slice_upto (l : List Nat) {j : Nat} (h1 : 1 ≤ j) (h2 : j ≤ l.length) : Txt.slice (sL l) none (some (-(j : Int))) = sL (l.take (l.length - j)) := by
  have e : Txt.slice (sL l) none (some (-(j : Int))) = Txt.slice (sL l) (some ((0 : Nat) : Int)) (some ((l.length - j : Nat) : Int)) := by
    have e1 : strSliceIndices none (some (-(j : Int))) 1 (sL l).length = strSliceIndices (some ((0 : Nat) : Int)) (some ((l.length - j : Nat) : Int)) 1 (sL l).length := by
      rw [sL_len]
      unfold strSliceIndices
      have h3 : (-(j : Int)) < 0 := by omega
      have h4 : ¬ (((l.length - j : Nat) : Int) < 0) := by omega
      simp only [h3, h4, if_false, show (1 : Int) > 0 by decide, if_true]
      congr 1 <;> omega
    unfold Txt.slice
    rw [e1]
  rw [e, slice_nat l (by omega) (by omega)]; simp
end Mine
namespace Mine
open PySem PySem.Calls PySem.Builtin PySem.Builtin.Str PyProof.Rows PySem.W PyProof
section
variable {prog : Program} {w : World} {A : Around} {E : Value → Shared → Prop} {s : Shared} {h₀ : Heap} {L : Addr} {m : PySem.Str → Option Value} {news : List (Addr × Obj)} {value slice : PySem.Expr} {Q : Value → Shared → Prop} {l : List Nat}
theorem sl_from {hp : Heap} {g : Array GenState} {d : Drawn} {tk : Nat} {os : OsState} {i : Int} {t u : Tok} (hF : Fr h₀ L hp m) (hN : News h₀ L hp news) (hl : l.length ≤ 1000) (h0 : 0 ≤ i)
    (h : ∀ h' t' tk', Fr h₀ L h' m → News h₀ L h' news → Q (.str (sL (l.drop i.toNat)) t') ⟨h', g, d, tk', os⟩)
    (hs : subscripted slice false (.str (sL l) t) (.ref hp.objs.size) = operate [.ref hp.objs.size, .str (sL l) t] (getItem (.str (sL l) t) (.ref hp.objs.size)) := by with_unfolding_all rfl)
    (ht : ∀ r, letTemporaryGo value (.str (sL l) t) r = pure () := by intro _; with_unfolding_all rfl) :
    wpAny (model prog w) A (subscriptTail value slice (.str (sL l) t) (.ref hp.objs.size)) Q E ⟨hp.push { cls := .type "slice", data := .fields #[.int i u, .none, .none] }, g, d, tk, os⟩ :=
  slice_strN_sn (s := ⟨hp, g, d, tk, os⟩) hF hN (fun h' t' tk' F' N' => by
    have e : ((i.toNat : Nat) : Int) = i := by omega
    have e2 := slice_from l i.toNat
    rw [e] at e2
    rw [e2]; exact h h' t' tk' F' N') hs ht (by rw [sL_len, sizeLine_eq]; omega)
theorem sl_full {hp : Heap} {g : Array GenState} {d : Drawn} {tk : Nat} {os : OsState} {t : Tok} (hF : Fr h₀ L hp m) (hN : News h₀ L hp news) (hl : l.length ≤ 1000)
    (h : ∀ h' t' tk', Fr h₀ L h' m → News h₀ L h' news → Q (.str (sL l) t') ⟨h', g, d, tk', os⟩)
    (hs : subscripted slice false (.str (sL l) t) (.ref hp.objs.size) = operate [.ref hp.objs.size, .str (sL l) t] (getItem (.str (sL l) t) (.ref hp.objs.size)) := by with_unfolding_all rfl)
    (ht : ∀ r, letTemporaryGo value (.str (sL l) t) r = pure () := by intro _; with_unfolding_all rfl) :
    wpAny (model prog w) A (subscriptTail value slice (.str (sL l) t) (.ref hp.objs.size)) Q E ⟨hp.push { cls := .type "slice", data := .fields #[.none, .none, .none] }, g, d, tk, os⟩ :=
  slice_strN_nn (s := ⟨hp, g, d, tk, os⟩) hF hN (fun h' t' tk' F' N' => by rw [slice_full]; exact h h' t' tk' F' N') hs ht (by rw [sL_len, sizeLine_eq]; omega)
theorem sl_upto {hp : Heap} {g : Array GenState} {d : Drawn} {tk : Nat} {os : OsState} {i : Int} {t u : Tok} (hF : Fr h₀ L hp m) (hN : News h₀ L hp news) (hl : l.length ≤ 1000) (h0 : i < 0 ∧ -i ≤ l.length)
    (h : ∀ h' t' tk', Fr h₀ L h' m → News h₀ L h' news → Q (.str (sL (l.take (l.length - (-i).toNat))) t') ⟨h', g, d, tk', os⟩)
    (hs : subscripted slice false (.str (sL l) t) (.ref hp.objs.size) = operate [.ref hp.objs.size, .str (sL l) t] (getItem (.str (sL l) t) (.ref hp.objs.size)) := by with_unfolding_all rfl)
    (ht : ∀ r, letTemporaryGo value (.str (sL l) t) r = pure () := by intro _; with_unfolding_all rfl) :
    wpAny (model prog w) A (subscriptTail value slice (.str (sL l) t) (.ref hp.objs.size)) Q E ⟨hp.push { cls := .type "slice", data := .fields #[.none, .int i u, .none] }, g, d, tk, os⟩ :=
  slice_strN_ns (s := ⟨hp, g, d, tk, os⟩) hF hN (fun h' t' tk' F' N' => by
    have e : -(((-i).toNat : Nat) : Int) = i := by omega
    have e2 := slice_upto l (j := (-i).toNat) (by omega) (by omega)
    rw [e] at e2
    rw [e2]; exact h h' t' tk' F' N') hs ht (by rw [sL_len, sizeLine_eq]; omega)
theorem sl_item {i : Int} {j : Nat} {t u : Tok} (hl : l.length ≤ 1000) (hj : j < l.length) (hi : i = (j : Int) ∨ i = (j : Int) - l.length)
    (h : ∀ t', Q (.str (sL [l.getD j 0]) t') { s with toks := s.toks + 1 })
    (hs : subscripted slice false (.str (sL l) t) (.int i u) = operate [.str (sL l) t, .int i u] (getItem (.str (sL l) t) (.int i u)) := by with_unfolding_all rfl)
    (ht : ∀ r, letTemporaryGo value (.str (sL l) t) r = pure () := by intro _; with_unfolding_all rfl) :
    wpAny (model prog w) A (subscriptTail value slice (.str (sL l) t) (.int i u)) Q E s := by
  have hc : (seqIndex? i (sL l).length).bind ((sL l).cps[·]?) = some (l.getD j 0) := by
    have e : seqIndex? i (sL l).length = some j := by
      rw [sL_len]
      unfold seqIndex?
      rcases hi with rfl | rfl
      · have h1 : ¬ ((j : Int) < 0) := by omega
        have h2 : (0 : Int) ≤ j ∧ (j : Int) < l.length := by omega
        simp [h1, hj]
      · have h1 : ((j : Int) - l.length < 0) := by omega
        simp [h1, hj]
    rw [e, sL_eq]
    simp [hj]
  have g : wpAny (model prog w) A (getItem (.str (sL l) t) (.int i u)) Q E s := P.getItem_str (by
    rw [Bool.or_eq_false_iff]; exact ⟨decide_eq_false (by omega), decide_eq_false (by omega)⟩) hc (by have := h s.toks; rw [sL_eq] at this; exact this)
  exact tail_of_ItemOn ⟨"str", _, F.slot_str_getitem.lookup, typeIs_str _ _ _, g⟩ hs ht
theorem sl_truthy {t : Tok} {n : Nat} {Q : Bool → Shared → Prop} (hn : l.length = n) (hl : n ≤ 1000) (h : Q (decide (0 < n)) { s with toks := s.toks + 1 + 1 }) : wpAny (model prog w) A (truthy (.str (sL l) t)) Q E s := by
  subst hn
  refine P.truthy_str (by rw [sL_len]; omega) ?_
  rw [sL_len]
  have e : ((l.length : Int) != 0) = decide (0 < l.length) := by
    by_cases h0 : 0 < l.length
    · rw [decide_eq_true h0, bne_iff_ne]; omega
    · have : l.length = 0 := by omega
      rw [this]; rfl
  rw [e]; exact h
theorem sl_len {t : Tok} {n : Nat} (hn : l.length = n) (hl : n ≤ 1000) (h : Q (.int (n : Int) (s.toks + 1)) { s with toks := s.toks + 1 + 1 }) : wpAny (model prog w) A (call (.builtin "len") [.str (sL l) t]) Q E s := by
  subst hn
  refine P.len_str (by rw [sL_len]; omega) ?_
  rw [sL_len]; exact h
end
end Mine

namespace Mine
open PySem PySem.Calls PySem.Builtin PySem.Builtin.Str PyProof.Rows PySem.W PyProof
section
variable {prog : Program} {w : World} {A : Around} {E : Value → Shared → Prop} {s : Shared} {value slice : PySem.Expr} {Q : Value → Shared → Prop} {l : List Nat}
theorem sl_itemP {i : Int} {t u : Tok} (hl : l.length ≤ 1000) (hi : 0 ≤ i ∧ i < l.length)
    (h : ∀ t', Q (.str (sL [l.getD i.toNat 0]) t') { s with toks := s.toks + 1 })
    (hs : subscripted slice false (.str (sL l) t) (.int i u) = operate [.str (sL l) t, .int i u] (getItem (.str (sL l) t) (.int i u)) := by with_unfolding_all rfl)
    (ht : ∀ r, letTemporaryGo value (.str (sL l) t) r = pure () := by intro _; with_unfolding_all rfl) :
    wpAny (model prog w) A (subscriptTail value slice (.str (sL l) t) (.int i u)) Q E s := sl_item hl (j := i.toNat) (by omega) (by omega) h hs ht
theorem sl_itemN {i : Int} {t u : Tok} (hl : l.length ≤ 1000) (hi : i < 0 ∧ -i ≤ l.length)
    (h : ∀ t', Q (.str (sL [l.getD (l.length - (-i).toNat) 0]) t') { s with toks := s.toks + 1 })
    (hs : subscripted slice false (.str (sL l) t) (.int i u) = operate [.str (sL l) t, .int i u] (getItem (.str (sL l) t) (.int i u)) := by with_unfolding_all rfl)
    (ht : ∀ r, letTemporaryGo value (.str (sL l) t) r = pure () := by intro _; with_unfolding_all rfl) :
    wpAny (model prog w) A (subscriptTail value slice (.str (sL l) t) (.int i u)) Q E s := sl_item hl (j := l.length - (-i).toNat) (by omega) (by omega) h hs ht
end
end Mine
namespace Mine
open PySem
theorem sL_one {c d : Nat} : (sL [c] == sL [d]) = true ↔ c = d := by rw [sL_beq]; simp
theorem sL_one_ne {c d : Nat} : (sL [c] == sL [d]) = false ↔ c ≠ d := by rw [sL_beq]; simp
end Mine
namespace Mine
open PySem PyProof.Rows
theorem truthy_int_yes {prog : Program} {w : World} {A : Around} {E : Value → Shared → Prop} {s : Shared} {p : Int} {t : Tok} {Q : Bool → Shared → Prop} (hp : p ≠ 0) (h : Q true s) : wpAny (model prog w) A (truthy (.int p t)) Q E s :=
  P.truthy_int (by
    have e : (p != 0) = true := by simpa using hp
    rw [e]; exact h)
end Mine
end
section
namespace Mine
open PySem PySem.Calls PySem.Builtin PyProof.Rows PySem.W
theorem ki_setL_ok : ∀ {l : List Value} {k : Nat} {v : Value}, k < l.length → PySem.W.ki_setL l k v = some (l.set k v)
  | [], _, _, h => by simp at h
  | x :: r, 0, v, _ => rfl
  | x :: r, k + 1, v, h => by
    have := ki_setL_ok (l := r) (k := k) (v := v) (by simpa using h)
    simp [PySem.W.ki_setL, this]
theorem intsAre_set : ∀ {vs : List Value} {ns : List Int} {k : Nat} {x : Int} {t : Tok}, IntsAre vs ns → IntsAre (vs.set k (.int x t)) (ns.set k x)
  | _, _, _, _, _, .nil => .nil
  | _, _, 0, x, t, .cons n u h => .cons x t h
  | _, _, k + 1, x, t, .cons n u h => .cons n u (intsAre_set h)
theorem upd_mid {D : Addr} {o o' : Obj} {r : List (Addr × Obj)} (hr : ∀ p ∈ r, p.1 ≠ D) : ∀ pre : List (Addr × Obj), (∀ p ∈ pre, p.1 ≠ D) → Upd D o o' (pre ++ (D, o) :: r) (pre ++ (D, o') :: r)
  | [], _ => .head hr
  | p :: q, h => .tail (h p (by simp)) (upd_mid hr q fun x hx => h x (by simp [hx]))
section
variable {prog : Program} {w : World} {A : Around} {E : Value → Shared → Prop} {s : Shared} {h₀ : Heap} {L : Addr} {m : Str → Option Value} {news : List (Addr × Obj)}
theorem row_new {Q : Value → Shared → Prop} {r : Addr} {a b c : Int} {t u v : Tok} {n : Nat} (hh : A.handled = none) (F : Fr h₀ L s.heap m) (N : News h₀ L s.heap news)
    (hr : IsRange s.heap r a b c t u v) (hsmall : Builtin.Range.small a b c = true) (hn : Builtin.Range.rangeSize a b c = (n : Int)) (hlen : n ≤ 2 ^ 24)
    (hQ : ∀ h' tk D k (ys : List Value), Fr h₀ L h' m → News h₀ L h' ((D, listOf ys.toArray k) :: news) → (∀ p ∈ news, @LT.lt Nat _ p.1 D) → IntsAre ys (rangeInts a c n) → Q (.ref D) { s with heap := h', toks := tk }) :
    wpAny (model prog w) A (call (.type "list") [.ref r]) Q E s := by
  refine list_rangeD hh F N hr hsmall hn hlen fun h' tk ys F' N' hk hnew hl hp hc => ?_
  have hL := hp.ne_locals F'
  obtain ⟨⟨k, e⟩, hoff⟩ := hp
  refine hQ h' tk _ k ys F' (fun p hp => ?_) (fun p hp => Heap.lt_size (N p hp).1) (IntsAre.ofCarried hc)
  rcases List.mem_cons.mp hp with rfl | hp
  · exact ⟨e, hL, hnew⟩
  · exact N' p hp
theorem row_get {Q : Value → Shared → Prop} {value slice : Expr} {D : Addr} {ys : List Value} {ns : List Int} {kk : Nat} {k : Int} {u : Tok} {all : List (Addr × Obj)} (N : News h₀ L s.heap all) (hm : (D, listOf ys.toArray kk) ∈ all) (hi : IntsAre ys ns)
    (h0 : 0 ≤ k) (h1 : k < ns.length) (hfit : ns.length ≤ 2 ^ 24) (h : ∀ t, Q (.int (ns.getD k.toNat 0) t) s)
    (hs : subscripted slice false (.ref D) (.int k u) = operate [.ref D, .int k u] (getItem (.ref D) (.int k u))) (hg : ∀ r, letTemporaryGo value (.ref D) r = pure ()) :
    wpAny (model prog w) A (subscriptTail value slice (.ref D) (.int k u)) Q E s :=
  item_list_ints ⟨_, (N _ hm).1, rfl, kk, rfl⟩ hi h0 h1 (by omega) h hs hg
theorem row_set {Q : Unit → Shared → Prop} {D : Addr} {ys : List Value} {ns : List Int} {kk : Nat} {k x : Int} {u t : Tok} (pre : List (Addr × Obj)) (F : Fr h₀ L s.heap m) (N : News h₀ L s.heap (pre ++ (D, listOf ys.toArray kk) :: news)) (hpre : ∀ p ∈ pre, p.2.cls ≠ .type "list") (hlt : ∀ p ∈ news, @LT.lt Nat _ p.1 D) (hi : IntsAre ys ns)
    (h0 : 0 ≤ k) (h1 : k < ns.length) (hfit : ns.length ≤ 2 ^ 24)
    (h : ∀ h' (ys' : List Value), Fr h₀ L h' m → News h₀ L h' (pre ++ (D, listOf ys'.toArray kk) :: news) → IntsAre ys' (ns.set k.toNat x) → Q () { s with heap := h' }) :
    wpAny (model prog w) A (setItem (.ref D) (.int k u) (.int x t)) Q E s := by
  have hl := hi.length
  have hD := (N (D, listOf ys.toArray kk) (by simp)).1
  have hne : ∀ p ∈ pre, p.1 ≠ D := fun p hp e => by
    have h2 := (N p (List.mem_append_left _ hp)).1
    rw [e, hD] at h2
    exact hpre p hp (by rw [← Option.some.inj h2])
  have U := upd_mid (o := listOf ys.toArray kk) (o' := listOf (ys.set k.toNat (.int x t)).toArray kk) (r := news) (fun p hp => Nat.ne_of_lt (hlt p hp)) pre hne
  exact ki_set F N h0 (by omega) (by simpa using ki_setL_ok (by omega)) U fun h' F' N' => h h' _ F' N' (intsAre_set hi)
variable {env : Env} {x : Str} {body : List Stmt} {Q : Flow → Shared → Prop}
theorem rangeRest_inv {I : Addr} {a : Int} {n : Nat} (J : Nat → (Str → Option Value) → List (Addr × Obj) → Prop)
    (turn : ∀ i t h tk m news, i < n → J i m news → Fr h₀ env.locals h (fun y => if y = x then some (.int (a + (i : Int)) t) else m y) →
      News h₀ env.locals h ((I, itR (a + ((i + 1 : Nat) : Int)) ((n : Int) - ((i + 1 : Nat) : Int))) :: news) →
      wpAny (model prog w) A (execs body env) (UnrPost h₀ env.locals { s with heap := h, toks := tk } I (itR (a + ((i + 1 : Nat) : Int)) ((n : Int) - ((i + 1 : Nat) : Int))) (J (i + 1)) Q) E { s with heap := h, toks := tk })
    (done : ∀ h tk m news, J n m news → Fr h₀ env.locals h m → News h₀ env.locals h news → Q .next { s with heap := h, toks := tk })
    {m : Str → Option Value} {news : List (Addr × Obj)} (h0 : J 0 m news) : RangeRest prog w A E h₀ env x body Q s I a n n 0 m news := by
  have all : ∀ (k i : Nat) (m : Str → Option Value) (news : List (Addr × Obj)), i + k = n → J i m news → RangeRest prog w A E h₀ env x body Q s I a n k i m news := by
    intro k
    induction k with
    | zero => intro i m news hl hj; exact RangeRest.zero fun h tk F N => done h tk m news (by rw [← hl]; exact hj) F N
    | succ k ih =>
      intro i m news hl hj
      refine RangeRest.succ fun t h tk F N => ?_
      refine wpAny_mono (turn i t h tk m news (by omega) hj F N) (fun f s₃ h3 => ?_) fun _ _ e => e
      have up : UnrEnd h₀ env.locals { s with heap := h, toks := tk } I (itR (a + ((i + 1 : Nat) : Int)) ((n : Int) - ((i + 1 : Nat) : Int))) (J (i + 1)) s₃ → UnrEnd h₀ env.locals { s with heap := h, toks := tk } I (itR (a + ((i + 1 : Nat) : Int)) ((n : Int) - ((i + 1 : Nat) : Int))) (RangeRest prog w A E h₀ env x body Q s I a n k (i + 1)) s₃ := by
        rintro ⟨h', tk', m', n', e, F', N', o, hj'⟩
        exact ⟨h', tk', m', n', e, F', N', o, ih (i + 1) m' n' (by omega) hj'⟩
      cases f with
      | ret v => exact h3
      | brk => exact h3
      | next => exact up h3
      | cont => exact up h3
  exact all n 0 m news (by omega) h0
end
theorem row0_range (n : Nat) : rangeInts 2 2 n = row0 n := by
  unfold rangeInts row0
  apply List.map_congr_left
  intro i _
  omega
theorem row0_size (n : Nat) : Builtin.Range.rangeSize 2 (2 * ((n : Int) + 1)) 2 = (n : Int) := by
  unfold Builtin.Range.rangeSize
  have h : (2 : Int) * ((n : Int) + 1) - 2 - 1 = 2 * n - 1 := by omega
  by_cases hn : n = 0
  · subst hn; rfl
  · rw [if_pos (by decide), if_pos (by omega), h]; omega
theorem row0_small {n : Nat} (hn : n ≤ 1000) : Builtin.Range.small 2 (2 * ((n : Int) + 1)) 2 = true := by
  unfold Builtin.Range.small
  rw [row0_size]
  simp [Builtin.Range.rangeFitsLong]
  omega
theorem up_size (n : Nat) : Builtin.Range.rangeSize 0 (n : Int) 1 = (n : Int) := by
  unfold Builtin.Range.rangeSize
  rw [if_pos (by decide)]
  by_cases hn : n = 0
  · subst hn; rfl
  · rw [if_pos (by omega)]; omega
theorem up_small {n : Nat} (hn : n ≤ 1000) : Builtin.Range.small 0 (n : Int) 1 = true := small_one (by omega) (by omega) (by omega) (by omega)
end Mine
end
section
namespace Mine
open PySem PySem.Calls PySem.Builtin PyProof.Rows PySem.W
theorem fr_eq {m : Str → Option Value} (ps : List (Str × Value)) (hp : ∀ p ∈ ps, m p.1 = some p.2) : kstB m ps = m := funext fun z => kstB_eq hp fun _ => rfl
theorem lowS_one (c : Nat) : lowS (sL [c]) = sL [lowN c] := by rw [sL_eq, sL_eq]; unfold lowS; simp [lowC, lowN]
theorem subS_one (c d : Nat) : subS (sL [c]) (sL [d]) = cost c d := by
  unfold subS cost
  rw [lowS_one, lowS_one, sL_beq, sL_beq]
  simp
theorem okS_one {c : Nat} (h : okc c = true) : okS (sL [c]) := okS_sL (by simp) (by simpa using h)
theorem okc_getD {l : List Nat} {k : Nat} (h : ∀ c ∈ l, okc c = true) (hk : k < l.length) : okc (l.getD k 0) = true := by
  rw [List.getD_eq_getElem?_getD, List.getElem?_eq_getElem hk]
  exact h _ (List.getElem_mem hk)
noncomputable def innAt (c : Nat) (a : List Nat) (row : List Int) (d0 r0 m0 : Int) (j : Nat) (row2 : List Int) (d r m : Int) : Prop :=
  innF c a row d0 r0 m0 = (row2.take j ++ (innF c (a.drop j) (row2.drop j) d r m).1, (innF c (a.drop j) (row2.drop j) d r m).2)
theorem innAt_zero (c : Nat) (a : List Nat) (row : List Int) (d0 r0 m0 : Int) : innAt c a row d0 r0 m0 0 row d0 r0 m0 := by
  unfold innAt; simp
theorem innAt_next {c : Nat} {a : List Nat} {row : List Int} {d0 r0 m0 : Int} {j : Nat} {row2 : List Int} {d r m : Int} (h : innAt c a row d0 r0 m0 j row2 d r m) (hj : j < a.length) (hl : row2.length = a.length)
    {r' m' : Int} (hr : r' = min (min r (row2.getD j 0) + 2) (d + cost c (a.getD j 0))) (hm : m' = if r' < m then r' else m) :
    innAt c a row d0 r0 m0 (j + 1) (row2.set j r') (row2.getD j 0) r' m' := by
  unfold innAt at h ⊢
  rw [h]
  have hj2 : j < row2.length := by omega
  rw [List.drop_eq_getElem_cons hj, List.drop_eq_getElem_cons hj2]
  have e1 : row2.getD j 0 = row2[j] := by simp [List.getD_eq_getElem?_getD, hj2]
  have e2 : a.getD j 0 = a[j] := by simp [List.getD_eq_getElem?_getD, hj]
  rw [e1, e2] at hr
  rw [e1]
  have e3 : (row2.set j r').drop (j + 1) = row2.drop (j + 1) := List.drop_set_of_lt (by omega)
  have e4 : (row2.set j r').take (j + 1) = row2.take j ++ [r'] := by
    rw [List.take_set]
    rw [List.take_add_one, List.getElem?_eq_getElem hj2]
    rw [List.set_append_right _ _ (by simp; omega)]
    have : j - (List.take j row2).length = 0 := by simp; omega
    rw [this]; rfl
  rw [e3, e4]
  simp only [innF]
  rw [← hr, ← hm]
  simp
theorem innAt_end {c : Nat} {a : List Nat} {row : List Int} {d0 r0 m0 : Int} {row2 : List Int} {d r m : Int} (h : innAt c a row d0 r0 m0 a.length row2 d r m) (hl : row2.length = a.length) : innF c a row d0 r0 m0 = (row2, r, m) := by
  unfold innAt at h
  rw [h, List.drop_length]
  rw [List.take_of_length_le (by omega)]
  simp [innF]
theorem outF_next {a : List Nat} {mx : Int} {b : List Nat} {i : Nat} {row row2 : List Int} {r r2 m2 : Int} (hi : i < b.length) (h : innF (b.getD i 0) a row (2 * i) (2 * i) big = (row2, r2, m2)) :
    outF a mx (b.drop i) i row r = if mx < m2 then mx + 1 else outF a mx (b.drop (i + 1)) (i + 1) row2 r2 := by
  rw [List.drop_eq_getElem_cons hi]
  have e : b.getD i 0 = b[i] := by simp [List.getD_eq_getElem?_getD, hi]
  rw [e] at h
  simp only [outF]
  rw [h]
theorem outF_done {a : List Nat} {mx : Int} {b : List Nat} {i : Nat} {row : List Int} {r : Int} : outF a mx (b.drop b.length) i row r = r := by
  rw [List.drop_length]; rfl
theorem off1 {I D : Addr} {news : List (Addr × Obj)} (hD : @LT.lt Nat _ D I) (hn : ∀ p ∈ news, @LT.lt Nat _ p.1 I) (o : Obj) : ∀ p ∈ (D, o) :: news, p.1 ≠ I := fun p hp => by
  rcases List.mem_cons.mp hp with rfl | hp
  · exact Nat.ne_of_lt hD
  · exact Nat.ne_of_lt (hn p hp)
theorem off2 {I C D : Addr} {news : List (Addr × Obj)} (hC : @LT.lt Nat _ C I) (hD : @LT.lt Nat _ D I) (hn : ∀ p ∈ news, @LT.lt Nat _ p.1 I) (o o' : Obj) : ∀ p ∈ (C, o') :: (D, o) :: news, p.1 ≠ I := fun p hp => by
  rcases List.mem_cons.mp hp with rfl | hp
  · exact Nat.ne_of_lt hC
  · exact off1 hD hn o p hp
theorem row0_len (n : Nat) : (row0 n).length = n := by simp [row0]
end Mine
namespace Mine
theorem neg_nat (j : Nat) : (-(-(j : Int))).toNat = j := by rw [Int.neg_neg]; rfl
theorem suf_pos {n j : Nat} {p : Int} (h0 : p = -(j : Int)) (h : 0 < min (n - (-p).toNat) n) : j < n := by
  subst h0
  rw [neg_nat] at h
  exact Nat.lt_of_sub_pos (Nat.lt_of_lt_of_le h (Nat.min_le_left _ _))
theorem suf_neg (j : Nat) : -(j : Int) - 1 = -((j + 1 : Nat) : Int) := by rw [Int.natCast_add, Int.neg_add]; rfl
theorem suf_idx {n j : Nat} {p : Int} (h0 : p = -(j : Int)) (_hj : j < n) : n - (-(p - 1)).toNat = n - 1 - j := by
  subst h0
  rw [suf_neg, neg_nat, Nat.sub_sub, Nat.add_comm]
theorem suf_idx0 {n j : Nat} (hj : j = 0) : n - (-((0 : Int) - 1)).toNat = n - 1 - j := by subst hj; rfl
theorem suf_nil {l : List Nat} {j : Nat} {p : Int} (h0 : p = -(j : Int)) (h : ¬ 0 < min (l.length - (-p).toNat) l.length) : l.take (l.length - j) = [] := by
  subst h0
  rw [neg_nat] at h
  refine List.eq_nil_of_length_eq_zero ?_
  rw [List.length_take]
  exact Nat.eq_zero_of_not_pos h
theorem suf_dec {n j : Nat} (h : j < n) : n - (j + 1) < n - j := Nat.sub_lt_sub_left h (Nat.lt_succ_self j)
end Mine
end
section
open PySem PySem.W PyProof.Rows PySem.Calls
namespace Mine
local macro_rules | `(tactic| walk_at "exec While BoolOp cons nil") => `(tactic| (k_here; refine Hold.on ?_))
local macro_rules | `(tactic| walk_at "subscriptTail Name Slice str ref") => `(tactic| (k_here; (with_reducible show wpAny _ _ (subscriptTail _ (Expr.Slice (some _) none none _) (Value.str _ _) (Value.ref _)) _ _ _); k_dflt (refine' sl_from ?k1 ?k2 ?k3 ?k6 ?_ ?k4 ?k5; (case k1 => k_asm); (case k2 => k_asm); (case k3 => ((try simp only [List.length_drop, List.length_take]); omega)); (case k6 => omega); (case k4 => with_unfolding_all rfl); (case k5 => (intro _; with_unfolding_all rfl))); intro h' t9' k9' F' N'; (try dsimp only)))
local macro_rules | `(tactic| walk_at "subscriptTail Name Name str int") => `(tactic| (k_here; (with_reducible show wpAny _ _ (subscriptTail _ _ (Value.str _ _) (Value.int _ _)) _ _ _); k_dflt (refine' sl_itemP ?k3 ?k6 ?_ ?k4 ?k5; (case k3 => ((try simp only [List.length_drop, List.length_take]); omega)); (case k6 => ((try simp only [List.length_drop, List.length_take]); omega)); (case k4 => with_unfolding_all rfl); (case k5 => (intro _; with_unfolding_all rfl))); intro t9'; (try dsimp only)))
local macro_rules | `(tactic| walk_at "subscriptTail Name BinOp str int") => `(tactic| (k_here; (with_reducible show wpAny _ _ (subscriptTail _ _ (Value.str _ _) (Value.int _ _)) _ _ _); k_dflt (refine' sl_itemN ?k3 ?k6 ?_ ?k4 ?k5; (case k3 => ((try simp only [List.length_drop, List.length_take]); omega)); (case k6 => ((try simp only [List.length_drop, List.length_take]); omega)); (case k4 => with_unfolding_all rfl); (case k5 => (intro _; with_unfolding_all rfl))); intro t9'; (try dsimp only)))
local macro_rules | `(tactic| walk_at "truthy str") => `(tactic| (k_here; (with_reducible show wpAny _ _ (truthy (Value.str (sL _) _)) _ _ _); (refine' sl_truthy ?kn ?k3 ?_; (case kn => ((try simp only [List.length_drop, List.length_take]); rfl)); (case k3 => omega)); (try dsimp only)))
local macro_rules | `(tactic| walk_at "subscriptTail Name Slice str ref") => `(tactic| (k_here; (with_reducible show wpAny _ _ (subscriptTail _ (Expr.Slice none (some _) none _) (Value.str _ _) (Value.ref _)) _ _ _); k_dflt (refine' sl_upto ?k1 ?k2 ?k3 ?k6 ?_ ?k4 ?k5; (case k1 => k_asm); (case k2 => k_asm); (case k3 => ((try simp only [List.length_drop, List.length_take]); omega)); (case k6 => ((try simp only [List.length_drop, List.length_take]); omega)); (case k4 => with_unfolding_all rfl); (case k5 => (intro _; with_unfolding_all rfl))); intro h' t9' k9' F' N'; (try dsimp only)))
local macro_rules | `(tactic| walk_at "subscriptTail Name Slice str ref") => `(tactic| (k_here; (with_reducible show wpAny _ _ (subscriptTail _ (Expr.Slice none (some _) none _) (Value.str _ _) (Value.ref _)) _ _ _); k_dflt (refine' sl_full ?k1 ?k2 ?k3 ?_ ?k4 ?k5; (case k1 => k_asm); (case k2 => k_asm); (case k3 => ((try simp only [List.length_drop, List.length_take]); omega)); (case k4 => with_unfolding_all rfl); (case k5 => (intro _; with_unfolding_all rfl))); intro h' t9' k9' F' N'; (try dsimp only)))
local macro_rules | `(tactic| walk_at "truthy int") => `(tactic| (k_here; (with_reducible show wpAny _ _ (truthy (Value.int _ _)) _ _ _); refine truthy_int_yes ?hp9 ?_; (case hp9 => omega)))
local macro_rules | `(tactic| walk_at "exec Assign") => `(tactic| (k_here; (with_reducible show wpAny _ _ (exec (Stmt.Assign [Expr.Name _ _] (Expr.Subscript _ (Expr.Slice none (some (Expr.BoolOp _ _ _)) none _) _) _) _) _ _ _); (fail_if_success (with_reducible rename NoHold => nhX)); refine Hold.on ?_))
local macro_rules | `(tactic| walk_at "exec If") => `(tactic| (k_here; (with_reducible show wpAny _ _ (exec (Stmt.If _ [Stmt.Assign [Expr.Tuple _ _ _] _ _] [] _) _) _ _ _); (fail_if_success (with_reducible rename NoHold => nhX)); refine Hold.on ?_))
local macro_rules | `(tactic| walk_at "exec For Name Call cons nil") => `(tactic| (k_here; refine Hold.on ?_))
local macro_rules | `(tactic| walk_at "call builtin:len") => `(tactic| (k_here; (with_reducible show wpAny _ _ (call (Value.builtin "len") [Value.str (sL _) _]) _ _ _); (refine' sl_len ?kn ?k3 ?_; (case kn => ((try simp only [List.length_drop, List.length_take]); rfl)); (case k3 => omega)); (try dsimp only)))
local macro_rules | `(tactic| walk_at "call type:list") => `(tactic| (k_here; refine Hold.on ?_))
local macro_rules | `(tactic| walk_at "pyIter ref") => `(tactic| ((with_reducible show wpAny _ _ (pyIter (Value.ref _)) (fun it s₂ => LoopAtV _ _ _ _ _ _ _ _ _ it s₂) _ _); refine Hold.on ?_))
local macro_rules | `(tactic| walk_at "UnrEnd") => `(tactic| (refine Hold.on ?_))
local macro_rules | `(tactic| walk_at "subscriptTail Name Name ref int") => `(tactic| (k_here; refine Hold.on ?_))
local macro_rules | `(tactic| walk_at "call ref") => `(tactic| (k_here; refine Hold.on ?_))

theorem lev_walk {w : World} {loose : List Str} {mean : ExcName → Option Value} {mg mb : Str → Option Value}
  {dp un : Nat} {gd : Option (List Code)} {cn : Str} {csn : List (Str × NameKind)} {csg csc : Bool} {csm : List (Str × Const)} {a : Addr} {ccd : Value} {cl : List (Str × Addr)} {outer : List Env} {A₀ : Around} {base h₀ : Heap} {L : Addr} {m : Str → Option Value} {news : List (Addr × Obj)} {s : Shared} {Q E : Value → Shared → Prop}
  {x y : List Nat} {mx : Int} {t1 t2 t3 : Tok}
  (B : Below A₀ base outer h₀) (F : Fr h₀ L s.heap m) (X : (hd01.heap_39 w.params).In h₀)
  (N : News h₀ L s.heap news) (T : Top hd01.view_39 loose mean mg mb h₀)
  (hd : dp + 12 < recursionLimit) (hu : un + 96 < cLine) (hx : ∀ c ∈ x, okc c = true) (hy : ∀ c ∈ y, okc c = true) (hxl : x.length ≤ 40) (hyl : y.length ≤ 40) (hmx : 0 ≤ mx ∧ mx ≤ 1000)
  (ret : ∀ (t : Tok) (h' : Heap) (tk' : Nat), Fr h₀ L h' m → News h₀ L h' news → Q (.int (lev x y mx) t) { s with heap := h', toks := tk' }) :
  wpAny (model PySem.Challenge.rw_sw0068_01.row.prog w) (ktrTop dp un gd cn ⟨.function, csn, csg, csc, csm⟩ L a ccd cl outer) (call (.ref 207) [.str (sL x) t1, .str (sL y) t2, .int mx t3]) Q E s := by
  revert X; k_fill; intro X
  refine wpAny_call ?_
  k_dflt k_enter
  (k_steps; repeat' (refine Hold.off ?_; first | ((with_reducible show wpAny _ _ (call (Value.ref 200) [Value.str _ _, Value.str _ _]) _ _ _); k_dflt (refine' sub_walk ?k1 ?k2 ?k3 ?k4 ?k5 ?k6 ?k7 ?k8 ?_; (case k1 => k_asm); (case k2 => k_asm); (case k3 => k_asm); (case k4 => k_asm); (case k5 => k_asm); (case k6 => k_room); (case k7 => exact okS_one (okc_getD (by with_reducible assumption) (by omega))); (case k8 => exact okS_one (okc_getD (by with_reducible assumption) (by omega)))); intro t9' h' tk9' F' N'; rw [subS_one]; k_steps) | ((with_reducible show wpAny _ _ (subscriptTail _ _ (Value.ref _) (Value.int _ _)) _ _ _); k_dflt (refine' row_get ?k1 ?k2 (by with_reducible assumption) ?k3 ?k4 ?k5 ?_ ?k6 ?k7; (case k1 => k_asm); (case k2 => k_mem); (case k3 => omega); (case k4 => omega); (case k5 => omega); (case k6 => with_unfolding_all rfl); (case k7 => (intro _; with_unfolding_all rfl))); intro t9'; (try dsimp only); k_steps)))
  · have e : lev x y mx = 0 := by
      have e2 : x = y := by
        have h9 : (sL x == sL y) = true := by assumption
        rw [sL_beq] at h9; simpa using h9
      unfold lev; rw [if_pos e2]
    rw [e] at ret
    exact ret _ _ _ (by k_asm) (by k_asm)
  have hne : x ≠ y := by
    have h9 : (sL x == sL y) = false := by assumption
    rw [sL_beq] at h9; simpa using h9
  refine Hold.off ?_
  (with_reducible rename Fr _ _ _ _ => F9)
  refine nextWith_seq F9 (fun m' n' => news = n' ∧ ∃ (k : Nat) (t : Tok), m' (Str.ofString "a") = some (.str (sL x) t1) ∧ m' (Str.ofString "b") = some (.str (sL y) t2) ∧ m' (Str.ofString "max_cost") = some (.int mx t3) ∧ m' (Str.ofString "pre") = some (.int (k : Int) t) ∧ k ≤ x.length ∧ k ≤ y.length ∧ stripPre x y = (x.drop k, y.drop k)) ?while1 ?rest1
  case while1 =>
    refine' ksw_while (σ := Nat × Tok) (fun _ => news) (fun c => [(Str.ofString "pre", .int (c.1 : Int) c.2)]) (fun _ => True) []
      (fun c => c.1 ≤ x.length ∧ c.1 ≤ y.length ∧ stripPre x y = stripPre (x.drop c.1) (y.drop c.1)) (fun c => x.length - c.1) (0, _) F9 ?hN trivial ?hk ?hp ?turn ?hE
    case hN => k_asm
    case hk => exact List.forall_mem_cons.mpr ⟨by with_unfolding_all rfl, List.forall_mem_nil _⟩
    case hp => exact ⟨Nat.zero_le _, Nat.zero_le _, rfl⟩
    case hE => passes_own
    case turn =>
      rintro ⟨k, ta⟩ u h tk9 - ⟨h1, h2, h3⟩ F' N'
      dsimp only [kstB] at F'
      dsimp only at h1 h2 h3
      (k_steps; repeat' (refine Hold.off ?_; first | ((with_reducible show wpAny _ _ (call (Value.ref 200) [Value.str _ _, Value.str _ _]) _ _ _); k_dflt (refine' sub_walk ?k1 ?k2 ?k3 ?k4 ?k5 ?k6 ?k7 ?k8 ?_; (case k1 => k_asm); (case k2 => k_asm); (case k3 => k_asm); (case k4 => k_asm); (case k5 => k_asm); (case k6 => k_room); (case k7 => exact okS_one (okc_getD (by with_reducible assumption) (by omega))); (case k8 => exact okS_one (okc_getD (by with_reducible assumption) (by omega)))); intro t9' h' tk9' F' N'; rw [subS_one]; k_steps) | ((with_reducible show wpAny _ _ (subscriptTail _ _ (Value.ref _) (Value.int _ _)) _ _ _); k_dflt (refine' row_get ?k1 ?k2 (by with_reducible assumption) ?k3 ?k4 ?k5 ?_ ?k6 ?k7; (case k1 => k_asm); (case k2 => k_mem); (case k3 => omega); (case k4 => omega); (case k5 => omega); (case k6 => with_unfolding_all rfl); (case k7 => (intro _; with_unfolding_all rfl))); intro t9'; (try dsimp only); k_steps)))
      · have h9 := sL_one.mp (by assumption)
        rw [Int.toNat_natCast] at h9
        refine' ksw_end (k + 1, _) ?zF ?zN ?zn trivial ?zk ?zr ⟨by dsimp only; omega, by dsimp only; omega, ?zs⟩ ?zm
        case zF => k_asm
        case zN => assumption
        case zn => kcf_all
        case zk => exact List.forall_mem_cons.mpr ⟨by with_unfolding_all rfl, List.forall_mem_nil _⟩
        case zr => ksw_same
        case zs => dsimp only; rw [h3]; exact stripPre_drop (by omega) (by omega) h9
        case zm => dsimp only; omega
      · have h9 := sL_one_ne.mp (by assumption)
        rw [Int.toNat_natCast] at h9
        exact NextWith.intro (by k_asm) (by k_asm) ⟨rfl, k, _, by with_unfolding_all rfl, by with_unfolding_all rfl, by with_unfolding_all rfl, by with_unfolding_all rfl, h1, h2, by rw [h3]; exact stripPre_stop (.inr (.inr h9))⟩
      · exact NextWith.intro (by k_asm) (by k_asm) ⟨rfl, k, _, by with_unfolding_all rfl, by with_unfolding_all rfl, by with_unfolding_all rfl, by with_unfolding_all rfl, h1, h2, by rw [h3]; exact stripPre_stop (.inr (.inl (by simp only [List.drop_eq_nil_iff]; omega)))⟩
      · exact NextWith.intro (by k_asm) (by k_asm) ⟨rfl, k, _, by with_unfolding_all rfl, by with_unfolding_all rfl, by with_unfolding_all rfl, by with_unfolding_all rfl, h1, h2, by rw [h3]; exact stripPre_stop (.inl (by simp only [List.drop_eq_nil_iff]; omega))⟩
  case rest1 =>
    rintro h tk m' n' F' N' ⟨rfl, k, t, ha, hb, hmc, hpre, hk1, hk2, hstrip⟩
    replace F' := fr_known [(_, _), (_, _), (_, _), (_, _)] (List.forall_mem_cons.mpr ⟨ha, List.forall_mem_cons.mpr ⟨hb, List.forall_mem_cons.mpr ⟨hmc, List.forall_mem_cons.mpr ⟨hpre, List.forall_mem_nil _⟩⟩⟩⟩) F'
    dsimp only [kstB] at F'
    clear ha hb hmc hpre
    (k_steps; repeat' (refine Hold.off ?_; first | ((with_reducible show wpAny _ _ (call (Value.ref 200) [Value.str _ _, Value.str _ _]) _ _ _); k_dflt (refine' sub_walk ?k1 ?k2 ?k3 ?k4 ?k5 ?k6 ?k7 ?k8 ?_; (case k1 => k_asm); (case k2 => k_asm); (case k3 => k_asm); (case k4 => k_asm); (case k5 => k_asm); (case k6 => k_room); (case k7 => exact okS_one (okc_getD (by with_reducible assumption) (by omega))); (case k8 => exact okS_one (okc_getD (by with_reducible assumption) (by omega)))); intro t9' h' tk9' F' N'; rw [subS_one]; k_steps) | ((with_reducible show wpAny _ _ (subscriptTail _ _ (Value.ref _) (Value.int _ _)) _ _ _); k_dflt (refine' row_get ?k1 ?k2 (by with_reducible assumption) ?k3 ?k4 ?k5 ?_ ?k6 ?k7; (case k1 => k_asm); (case k2 => k_mem); (case k3 => omega); (case k4 => omega); (case k5 => omega); (case k6 => with_unfolding_all rfl); (case k7 => (intro _; with_unfolding_all rfl))); intro t9'; (try dsimp only); k_steps)))
    refine Hold.off ?_
    (with_reducible rename Fr _ _ _ _ => F8)
    have hlev : lev x y mx = core (stripSuf (x.drop k) (y.drop k)).1 (stripSuf (x.drop k) (y.drop k)).2 mx := by
      unfold lev; rw [if_neg hne, hstrip]
    rw [hlev] at ret
    have hax : ∀ c ∈ x.drop k, okc c = true := fun c hc => hx c (List.mem_of_mem_drop hc)
    have hay : ∀ c ∈ y.drop k, okc c = true := fun c hc => hy c (List.mem_of_mem_drop hc)
    have hlx : (x.drop k).length ≤ 40 := by rw [List.length_drop]; omega
    have hly : (y.drop k).length ≤ 40 := by rw [List.length_drop]; omega
    simp only [Int.toNat_natCast] at F8 ⊢
    clear hstrip hlev hne hx hy hxl hyl hk1 hk2
    generalize x.drop k = xa at *
    generalize y.drop k = ya at *
    refine nextWith_seq F8 (fun m' n' => news = n' ∧ ∃ (j : Nat) (p : Int) (t t8 t9 : Tok), m' (Str.ofString "a") = some (.str (sL xa) t8) ∧ m' (Str.ofString "b") = some (.str (sL ya) t9) ∧ m' (Str.ofString "max_cost") = some (.int mx t3) ∧ m' (Str.ofString "post") = some (.int p t) ∧ p = -(j : Int) ∧ j ≤ xa.length ∧ j ≤ ya.length ∧ stripSuf xa ya = (xa.take (xa.length - j), ya.take (ya.length - j))) ?while2 ?rest2
    case while2 =>
      refine' ksw_while (σ := Nat × Int × Tok) (fun _ => news) (fun c => [(Str.ofString "post", .int c.2.1 c.2.2)]) (fun _ => True) []
        (fun c => c.2.1 = -(c.1 : Int) ∧ c.1 ≤ xa.length ∧ c.1 ≤ ya.length ∧ sufAt xa ya c.1) (fun c => xa.length - c.1) (0, 0, _) F8 ?wN trivial ?wk ?wp ?wturn ?wE
      case wN => k_asm
      case wk => exact List.forall_mem_cons.mpr ⟨by with_unfolding_all rfl, List.forall_mem_nil _⟩
      case wp => exact ⟨rfl, Nat.zero_le _, Nat.zero_le _, rfl⟩
      case wE => passes_own
      case wturn =>
        rintro ⟨j, p, ta⟩ u h tk9 - ⟨h0, h1, h2, h3⟩ F' N'
        dsimp only [kstB] at F'
        dsimp only at h0 h1 h2 h3
        rcases Nat.eq_zero_or_pos j with hj | hj
        · have hp0 : p = 0 := by omega
          subst hp0
          (k_steps; repeat' (refine Hold.off ?_; first | ((with_reducible show wpAny _ _ (call (Value.ref 200) [Value.str _ _, Value.str _ _]) _ _ _); k_dflt (refine' sub_walk ?k1 ?k2 ?k3 ?k4 ?k5 ?k6 ?k7 ?k8 ?_; (case k1 => k_asm); (case k2 => k_asm); (case k3 => k_asm); (case k4 => k_asm); (case k5 => k_asm); (case k6 => k_room); (case k7 => exact okS_one (okc_getD (by with_reducible assumption) (by omega))); (case k8 => exact okS_one (okc_getD (by with_reducible assumption) (by omega)))); intro t9' h' tk9' F' N'; rw [subS_one]; k_steps) | ((with_reducible show wpAny _ _ (subscriptTail _ _ (Value.ref _) (Value.int _ _)) _ _ _); k_dflt (refine' row_get ?k1 ?k2 (by with_reducible assumption) ?k3 ?k4 ?k5 ?_ ?k6 ?k7; (case k1 => k_asm); (case k2 => k_mem); (case k3 => omega); (case k4 => omega); (case k5 => omega); (case k6 => with_unfolding_all rfl); (case k7 => (intro _; with_unfolding_all rfl))); intro t9'; (try dsimp only); k_steps)))
          · have hc := sL_one.mp (by assumption)
            have e1 : xa.length - (-(0 - 1)).toNat = xa.length - 1 - j := suf_idx0 hj
            have e2 : ya.length - (-(0 - 1)).toNat = ya.length - 1 - j := suf_idx0 hj
            rw [e1, e2] at hc
            refine' ksw_end (j + 1, 0 - 1, _) ?zF ?zN ?zn trivial ?zk ?zr ⟨by dsimp only; omega, by dsimp only; omega, by dsimp only; omega, sufAt_next h3 (by omega) (by omega) hc⟩ (by dsimp only; omega)
            case zF => k_asm
            case zN => assumption
            case zn => kcf_all
            case zk => exact List.forall_mem_cons.mpr ⟨by with_unfolding_all rfl, List.forall_mem_nil _⟩
            case zr => ksw_same
          · have hc := sL_one_ne.mp (by assumption)
            have e1 : xa.length - (-(0 - 1)).toNat = xa.length - 1 - j := suf_idx0 hj
            have e2 : ya.length - (-(0 - 1)).toNat = ya.length - 1 - j := suf_idx0 hj
            rw [e1, e2] at hc
            exact NextWith.intro (by k_asm) (by k_asm) ⟨rfl, j, _, _, _, _, by with_unfolding_all rfl, by with_unfolding_all rfl, by with_unfolding_all rfl, by with_unfolding_all rfl, h0, h1, h2, sufAt_stop h3 (.inr (.inr ⟨by omega, by omega, hc⟩))⟩
          · exact NextWith.intro (by k_asm) (by k_asm) ⟨rfl, j, _, _, _, _, by with_unfolding_all rfl, by with_unfolding_all rfl, by with_unfolding_all rfl, by with_unfolding_all rfl, h0, h1, h2, sufAt_stop h3 (.inr (.inl (List.eq_nil_of_length_eq_zero (by rw [List.length_take]; omega))))⟩
          · exact NextWith.intro (by k_asm) (by k_asm) ⟨rfl, j, _, _, _, _, by with_unfolding_all rfl, by with_unfolding_all rfl, by with_unfolding_all rfl, by with_unfolding_all rfl, h0, h1, h2, sufAt_stop h3 (.inl (List.eq_nil_of_length_eq_zero (by rw [List.length_take]; omega)))⟩
        · have hp0 : p < 0 := by omega
          (k_steps; repeat' (refine Hold.off ?_; first | ((with_reducible show wpAny _ _ (call (Value.ref 200) [Value.str _ _, Value.str _ _]) _ _ _); k_dflt (refine' sub_walk ?k1 ?k2 ?k3 ?k4 ?k5 ?k6 ?k7 ?k8 ?_; (case k1 => k_asm); (case k2 => k_asm); (case k3 => k_asm); (case k4 => k_asm); (case k5 => k_asm); (case k6 => k_room); (case k7 => exact okS_one (okc_getD (by with_reducible assumption) (by omega))); (case k8 => exact okS_one (okc_getD (by with_reducible assumption) (by omega)))); intro t9' h' tk9' F' N'; rw [subS_one]; k_steps) | ((with_reducible show wpAny _ _ (subscriptTail _ _ (Value.ref _) (Value.int _ _)) _ _ _); k_dflt (refine' row_get ?k1 ?k2 (by with_reducible assumption) ?k3 ?k4 ?k5 ?_ ?k6 ?k7; (case k1 => k_asm); (case k2 => k_mem); (case k3 => omega); (case k4 => omega); (case k5 => omega); (case k6 => with_unfolding_all rfl); (case k7 => (intro _; with_unfolding_all rfl))); intro t9'; (try dsimp only); k_steps)))
          · have hc := sL_one.mp (by assumption)
            have hxj : j < xa.length := suf_pos h0 (by assumption)
            have hyj : j < ya.length := suf_pos h0 (by assumption)
            have e1 : xa.length - (-(p - 1)).toNat = xa.length - 1 - j := suf_idx h0 hxj
            have e2 : ya.length - (-(p - 1)).toNat = ya.length - 1 - j := suf_idx h0 hyj
            rw [e1, e2] at hc
            refine' ksw_end (j + 1, p - 1, _) ?zF ?zN ?zn trivial ?zk ?zr ⟨by dsimp only; clear hxj hyj e1 e2; rw [h0]; exact suf_neg j, hxj, hyj, sufAt_next h3 hxj hyj hc⟩ (suf_dec hxj)
            case zF => k_asm
            case zN => assumption
            case zn => kcf_all
            case zk => exact List.forall_mem_cons.mpr ⟨by with_unfolding_all rfl, List.forall_mem_nil _⟩
            case zr => ksw_same
          · have hc := sL_one_ne.mp (by assumption)
            have hxj : j < xa.length := suf_pos h0 (by assumption)
            have hyj : j < ya.length := suf_pos h0 (by assumption)
            have e1 : xa.length - (-(p - 1)).toNat = xa.length - 1 - j := suf_idx h0 hxj
            have e2 : ya.length - (-(p - 1)).toNat = ya.length - 1 - j := suf_idx h0 hyj
            rw [e1, e2] at hc
            exact NextWith.intro (by k_asm) (by k_asm) ⟨rfl, j, _, _, _, _, by with_unfolding_all rfl, by with_unfolding_all rfl, by with_unfolding_all rfl, by with_unfolding_all rfl, h0, h1, h2, sufAt_stop h3 (.inr (.inr ⟨hxj, hyj, hc⟩))⟩
          · exact NextWith.intro (by k_asm) (by k_asm) ⟨rfl, j, _, _, _, _, by with_unfolding_all rfl, by with_unfolding_all rfl, by with_unfolding_all rfl, by with_unfolding_all rfl, h0, h1, h2, sufAt_stop h3 (.inr (.inl (suf_nil h0 (by assumption))))⟩
          · exact NextWith.intro (by k_asm) (by k_asm) ⟨rfl, j, _, _, _, _, by with_unfolding_all rfl, by with_unfolding_all rfl, by with_unfolding_all rfl, by with_unfolding_all rfl, h0, h1, h2, sufAt_stop h3 (.inl (suf_nil h0 (by assumption)))⟩
    case rest2 =>
      rintro h tk m' n' F' N' ⟨rfl, j, p, t, t8, t9, ha, hb, hmc, hpost, hp, hj1, hj2, hsuf⟩
      rw [hsuf] at ret
      replace F' := fr_known [(_, _), (_, _), (_, _), (_, _)] (List.forall_mem_cons.mpr ⟨ha, List.forall_mem_cons.mpr ⟨hb, List.forall_mem_cons.mpr ⟨hmc, List.forall_mem_cons.mpr ⟨hpost, List.forall_mem_nil _⟩⟩⟩⟩) F'
      dsimp only [kstB] at F'
      clear ha hb hmc hpost hsuf
      (k_steps; repeat' (refine Hold.off ?_; first | ((with_reducible show wpAny _ _ (call (Value.ref 200) [Value.str _ _, Value.str _ _]) _ _ _); k_dflt (refine' sub_walk ?k1 ?k2 ?k3 ?k4 ?k5 ?k6 ?k7 ?k8 ?_; (case k1 => k_asm); (case k2 => k_asm); (case k3 => k_asm); (case k4 => k_asm); (case k5 => k_asm); (case k6 => k_room); (case k7 => exact okS_one (okc_getD (by with_reducible assumption) (by omega))); (case k8 => exact okS_one (okc_getD (by with_reducible assumption) (by omega)))); intro t9' h' tk9' F' N'; rw [subS_one]; k_steps) | ((with_reducible show wpAny _ _ (subscriptTail _ _ (Value.ref _) (Value.int _ _)) _ _ _); k_dflt (refine' row_get ?k1 ?k2 (by with_reducible assumption) ?k3 ?k4 ?k5 ?_ ?k6 ?k7; (case k1 => k_asm); (case k2 => k_mem); (case k3 => omega); (case k4 => omega); (case k5 => omega); (case k6 => with_unfolding_all rfl); (case k7 => (intro _; with_unfolding_all rfl))); intro t9'; (try dsimp only); k_steps)))
      refine Hold.off ?_
      (with_reducible rename Fr _ _ _ _ => F7)
      refine nextWith_seq F7 (fun m' n' => news = n' ∧ ∃ (t t8 t9 : Tok), m' (Str.ofString "a") = some (.str (sL (xa.take (xa.length - j))) t8) ∧ m' (Str.ofString "b") = some (.str (sL ya) t9) ∧ m' (Str.ofString "max_cost") = some (.int mx t3) ∧ m' (Str.ofString "post") = some (.int p t)) ?as1 ?rest3
      case as1 =>
        have nh : NoHold := ⟨⟩
        rcases Nat.eq_zero_or_pos j with hj | hj
        · have hp0 : p = 0 := by omega
          subst hp0
          have e : xa.take (xa.length - j) = xa := by rw [hj]; simp
          rw [e]
          (k_steps; repeat' (refine Hold.off ?_; first | ((with_reducible show wpAny _ _ (call (Value.ref 200) [Value.str _ _, Value.str _ _]) _ _ _); k_dflt (refine' sub_walk ?k1 ?k2 ?k3 ?k4 ?k5 ?k6 ?k7 ?k8 ?_; (case k1 => k_asm); (case k2 => k_asm); (case k3 => k_asm); (case k4 => k_asm); (case k5 => k_asm); (case k6 => k_room); (case k7 => exact okS_one (okc_getD (by with_reducible assumption) (by omega))); (case k8 => exact okS_one (okc_getD (by with_reducible assumption) (by omega)))); intro t9' h' tk9' F' N'; rw [subS_one]; k_steps) | ((with_reducible show wpAny _ _ (subscriptTail _ _ (Value.ref _) (Value.int _ _)) _ _ _); k_dflt (refine' row_get ?k1 ?k2 (by with_reducible assumption) ?k3 ?k4 ?k5 ?_ ?k6 ?k7; (case k1 => k_asm); (case k2 => k_mem); (case k3 => omega); (case k4 => omega); (case k5 => omega); (case k6 => with_unfolding_all rfl); (case k7 => (intro _; with_unfolding_all rfl))); intro t9'; (try dsimp only); k_steps)))
          exact NextWith.intro (by k_asm) (by k_asm) ⟨rfl, _, _, _, by with_unfolding_all rfl, by with_unfolding_all rfl, by with_unfolding_all rfl, by with_unfolding_all rfl⟩
        · have hp0 : p < 0 := by omega
          have e : j = (-p).toNat := by omega
          rw [e]
          (k_steps; repeat' (refine Hold.off ?_; first | ((with_reducible show wpAny _ _ (call (Value.ref 200) [Value.str _ _, Value.str _ _]) _ _ _); k_dflt (refine' sub_walk ?k1 ?k2 ?k3 ?k4 ?k5 ?k6 ?k7 ?k8 ?_; (case k1 => k_asm); (case k2 => k_asm); (case k3 => k_asm); (case k4 => k_asm); (case k5 => k_asm); (case k6 => k_room); (case k7 => exact okS_one (okc_getD (by with_reducible assumption) (by omega))); (case k8 => exact okS_one (okc_getD (by with_reducible assumption) (by omega)))); intro t9' h' tk9' F' N'; rw [subS_one]; k_steps) | ((with_reducible show wpAny _ _ (subscriptTail _ _ (Value.ref _) (Value.int _ _)) _ _ _); k_dflt (refine' row_get ?k1 ?k2 (by with_reducible assumption) ?k3 ?k4 ?k5 ?_ ?k6 ?k7; (case k1 => k_asm); (case k2 => k_mem); (case k3 => omega); (case k4 => omega); (case k5 => omega); (case k6 => with_unfolding_all rfl); (case k7 => (intro _; with_unfolding_all rfl))); intro t9'; (try dsimp only); k_steps)))
          exact NextWith.intro (by k_asm) (by k_asm) ⟨rfl, _, _, _, by with_unfolding_all rfl, by with_unfolding_all rfl, by with_unfolding_all rfl, by with_unfolding_all rfl⟩
      case rest3 =>
        rintro h tk m' n' F' N' ⟨rfl, t, t8, t9, ha, hb, hmc, hpost⟩
        replace F' := fr_known [(_, _), (_, _), (_, _), (_, _)] (List.forall_mem_cons.mpr ⟨ha, List.forall_mem_cons.mpr ⟨hb, List.forall_mem_cons.mpr ⟨hmc, List.forall_mem_cons.mpr ⟨hpost, List.forall_mem_nil _⟩⟩⟩⟩) F'
        dsimp only [kstB] at F'
        clear ha hb hmc hpost
        (k_steps; repeat' (refine Hold.off ?_; first | ((with_reducible show wpAny _ _ (call (Value.ref 200) [Value.str _ _, Value.str _ _]) _ _ _); k_dflt (refine' sub_walk ?k1 ?k2 ?k3 ?k4 ?k5 ?k6 ?k7 ?k8 ?_; (case k1 => k_asm); (case k2 => k_asm); (case k3 => k_asm); (case k4 => k_asm); (case k5 => k_asm); (case k6 => k_room); (case k7 => exact okS_one (okc_getD (by with_reducible assumption) (by omega))); (case k8 => exact okS_one (okc_getD (by with_reducible assumption) (by omega)))); intro t9' h' tk9' F' N'; rw [subS_one]; k_steps) | ((with_reducible show wpAny _ _ (subscriptTail _ _ (Value.ref _) (Value.int _ _)) _ _ _); k_dflt (refine' row_get ?k1 ?k2 (by with_reducible assumption) ?k3 ?k4 ?k5 ?_ ?k6 ?k7; (case k1 => k_asm); (case k2 => k_mem); (case k3 => omega); (case k4 => omega); (case k5 => omega); (case k6 => with_unfolding_all rfl); (case k7 => (intro _; with_unfolding_all rfl))); intro t9'; (try dsimp only); k_steps)))
        refine Hold.off ?_
        (with_reducible rename Fr _ _ _ _ => F6)
        refine nextWith_seq F6 (fun m' n' => news = n' ∧ ∃ (t8 t9 : Tok), m' (Str.ofString "a") = some (.str (sL (xa.take (xa.length - j))) t8) ∧ m' (Str.ofString "b") = some (.str (sL (ya.take (ya.length - j))) t9) ∧ m' (Str.ofString "max_cost") = some (.int mx t3)) ?as2 ?rest4
        case as2 =>
          have nh : NoHold := ⟨⟩
          rcases Nat.eq_zero_or_pos j with hj | hj
          · have hp0 : p = 0 := by omega
            subst hp0
            have e : ya.take (ya.length - j) = ya := by rw [hj]; simp
            rw [e]
            (k_steps; repeat' (refine Hold.off ?_; first | ((with_reducible show wpAny _ _ (call (Value.ref 200) [Value.str _ _, Value.str _ _]) _ _ _); k_dflt (refine' sub_walk ?k1 ?k2 ?k3 ?k4 ?k5 ?k6 ?k7 ?k8 ?_; (case k1 => k_asm); (case k2 => k_asm); (case k3 => k_asm); (case k4 => k_asm); (case k5 => k_asm); (case k6 => k_room); (case k7 => exact okS_one (okc_getD (by with_reducible assumption) (by omega))); (case k8 => exact okS_one (okc_getD (by with_reducible assumption) (by omega)))); intro t9' h' tk9' F' N'; rw [subS_one]; k_steps) | ((with_reducible show wpAny _ _ (subscriptTail _ _ (Value.ref _) (Value.int _ _)) _ _ _); k_dflt (refine' row_get ?k1 ?k2 (by with_reducible assumption) ?k3 ?k4 ?k5 ?_ ?k6 ?k7; (case k1 => k_asm); (case k2 => k_mem); (case k3 => omega); (case k4 => omega); (case k5 => omega); (case k6 => with_unfolding_all rfl); (case k7 => (intro _; with_unfolding_all rfl))); intro t9'; (try dsimp only); k_steps)))
            exact NextWith.intro (by k_asm) (by k_asm) ⟨rfl, _, _, by with_unfolding_all rfl, by with_unfolding_all rfl, by with_unfolding_all rfl⟩
          · have hp0 : p < 0 := by omega
            have e : ya.take (ya.length - j) = ya.take (ya.length - (-p).toNat) := by rw [show (-p).toNat = j by omega]
            rw [e]
            (k_steps; repeat' (refine Hold.off ?_; first | ((with_reducible show wpAny _ _ (call (Value.ref 200) [Value.str _ _, Value.str _ _]) _ _ _); k_dflt (refine' sub_walk ?k1 ?k2 ?k3 ?k4 ?k5 ?k6 ?k7 ?k8 ?_; (case k1 => k_asm); (case k2 => k_asm); (case k3 => k_asm); (case k4 => k_asm); (case k5 => k_asm); (case k6 => k_room); (case k7 => exact okS_one (okc_getD (by with_reducible assumption) (by omega))); (case k8 => exact okS_one (okc_getD (by with_reducible assumption) (by omega)))); intro t9' h' tk9' F' N'; rw [subS_one]; k_steps) | ((with_reducible show wpAny _ _ (subscriptTail _ _ (Value.ref _) (Value.int _ _)) _ _ _); k_dflt (refine' row_get ?k1 ?k2 (by with_reducible assumption) ?k3 ?k4 ?k5 ?_ ?k6 ?k7; (case k1 => k_asm); (case k2 => k_mem); (case k3 => omega); (case k4 => omega); (case k5 => omega); (case k6 => with_unfolding_all rfl); (case k7 => (intro _; with_unfolding_all rfl))); intro t9'; (try dsimp only); k_steps)))
            exact NextWith.intro (by k_asm) (by k_asm) ⟨rfl, _, _, by with_unfolding_all rfl, by with_unfolding_all rfl, by with_unfolding_all rfl⟩
        case rest4 =>
          rintro h tk m' n' F' N' ⟨rfl, t8, t9, ha, hb, hmc⟩
          replace F' := fr_known [(_, _), (_, _), (_, _)] (List.forall_mem_cons.mpr ⟨ha, List.forall_mem_cons.mpr ⟨hb, List.forall_mem_cons.mpr ⟨hmc, List.forall_mem_nil _⟩⟩⟩) F'
          dsimp only [kstB] at F'
          clear ha hb hmc
          replace hax : ∀ c ∈ xa.take (xa.length - j), okc c = true := fun c hc => hax c (List.mem_of_mem_take hc)
          replace hay : ∀ c ∈ ya.take (ya.length - j), okc c = true := fun c hc => hay c (List.mem_of_mem_take hc)
          replace hlx : (xa.take (xa.length - j)).length ≤ 40 := by rw [List.length_take]; omega
          replace hly : (ya.take (ya.length - j)).length ≤ 40 := by rw [List.length_take]; omega
          dsimp only at ret
          clear hj1 hj2 hp
          generalize xa.take (xa.length - j) = a' at *
          generalize ya.take (ya.length - j) = b' at *
          (k_steps; repeat' (refine Hold.off ?_; first | ((with_reducible show wpAny _ _ (call (Value.ref 200) [Value.str _ _, Value.str _ _]) _ _ _); k_dflt (refine' sub_walk ?k1 ?k2 ?k3 ?k4 ?k5 ?k6 ?k7 ?k8 ?_; (case k1 => k_asm); (case k2 => k_asm); (case k3 => k_asm); (case k4 => k_asm); (case k5 => k_asm); (case k6 => k_room); (case k7 => exact okS_one (okc_getD (by with_reducible assumption) (by omega))); (case k8 => exact okS_one (okc_getD (by with_reducible assumption) (by omega)))); intro t9' h' tk9' F' N'; rw [subS_one]; k_steps) | ((with_reducible show wpAny _ _ (subscriptTail _ _ (Value.ref _) (Value.int _ _)) _ _ _); k_dflt (refine' row_get ?k1 ?k2 (by with_reducible assumption) ?k3 ?k4 ?k5 ?_ ?k6 ?k7; (case k1 => k_asm); (case k2 => k_mem); (case k3 => omega); (case k4 => omega); (case k5 => omega); (case k6 => with_unfolding_all rfl); (case k7 => (intro _; with_unfolding_all rfl))); intro t9'; (try dsimp only); k_steps)))
          rotate_left
          · have e : core a' b' mx = 2 * ((a'.length : Int) + b'.length) := by
              unfold core; rw [if_pos (.inr (List.eq_nil_of_length_eq_zero (by omega)))]
            rw [e] at ret
            exact ret _ _ _ (by k_asm) (by k_asm)
          · have e : core a' b' mx = 2 * ((a'.length : Int) + b'.length) := by
              unfold core; rw [if_pos (.inl (List.eq_nil_of_length_eq_zero (by omega)))]
            rw [e] at ret
            exact ret _ _ _ (by k_asm) (by k_asm)
          refine Hold.off ?_
          have hcore : core a' b' mx = (let p := if b'.length < a'.length then (b', a') else (a', b'); if mx < ((p.2.length : Int) - p.1.length) * 2 then mx + 1 else outF p.1 mx p.2 0 (row0 p.1.length) 0) := by
            unfold core; rw [if_neg (fun h9 => by rcases h9 with h9 | h9 <;> (have h10 := congrArg List.length h9; rw [List.length_nil] at h10; omega))]
          rw [hcore] at ret
          clear hcore
          (with_reducible rename Fr _ _ _ _ => F5)
          refine nextWith_seq F5 (fun m' n' => news = n' ∧ ∃ (a2 b2 : List Nat) (t8 t9 : Tok), (a2, b2) = (if b'.length < a'.length then (b', a') else (a', b')) ∧ m' (Str.ofString "a") = some (.str (sL a2) t8) ∧ m' (Str.ofString "b") = some (.str (sL b2) t9) ∧ m' (Str.ofString "max_cost") = some (.int mx t3)) ?swap ?rest5
          case swap =>
            have nh : NoHold := ⟨⟩
            (k_steps; repeat' (refine Hold.off ?_; first | ((with_reducible show wpAny _ _ (call (Value.ref 200) [Value.str _ _, Value.str _ _]) _ _ _); k_dflt (refine' sub_walk ?k1 ?k2 ?k3 ?k4 ?k5 ?k6 ?k7 ?k8 ?_; (case k1 => k_asm); (case k2 => k_asm); (case k3 => k_asm); (case k4 => k_asm); (case k5 => k_asm); (case k6 => k_room); (case k7 => exact okS_one (okc_getD (by with_reducible assumption) (by omega))); (case k8 => exact okS_one (okc_getD (by with_reducible assumption) (by omega)))); intro t9' h' tk9' F' N'; rw [subS_one]; k_steps) | ((with_reducible show wpAny _ _ (subscriptTail _ _ (Value.ref _) (Value.int _ _)) _ _ _); k_dflt (refine' row_get ?k1 ?k2 (by with_reducible assumption) ?k3 ?k4 ?k5 ?_ ?k6 ?k7; (case k1 => k_asm); (case k2 => k_mem); (case k3 => omega); (case k4 => omega); (case k5 => omega); (case k6 => with_unfolding_all rfl); (case k7 => (intro _; with_unfolding_all rfl))); intro t9'; (try dsimp only); k_steps)))
            · exact NextWith.intro (news := news) (by k_asm) (cb_drop (by assumption) (by kcf_all)) ⟨rfl, _, _, _, _, by rw [if_pos (by omega)], by with_unfolding_all rfl, by with_unfolding_all rfl, by with_unfolding_all rfl⟩
            · exact NextWith.intro (by k_asm) (by k_asm) ⟨rfl, _, _, _, _, by rw [if_neg (by omega)], by with_unfolding_all rfl, by with_unfolding_all rfl, by with_unfolding_all rfl⟩
          case rest5 =>
            rintro h tk m' n' F' N' ⟨rfl, a2, b2, t8, t9, hab, ha, hb, hmc⟩
            replace F' := fr_known [(_, _), (_, _), (_, _)] (List.forall_mem_cons.mpr ⟨ha, List.forall_mem_cons.mpr ⟨hb, List.forall_mem_cons.mpr ⟨hmc, List.forall_mem_nil _⟩⟩⟩) F'
            dsimp only [kstB] at F'
            clear ha hb hmc
            rw [← hab] at ret
            dsimp only at ret
            have hfacts : 0 < a2.length ∧ a2.length ≤ b2.length ∧ b2.length ≤ 40 ∧ (∀ c ∈ a2, okc c = true) ∧ (∀ c ∈ b2, okc c = true) := by
              split at hab <;> (cases hab; refine ⟨by omega, by omega, by omega, by assumption, by assumption⟩)
            obtain ⟨hp1, hp2, hp3, hp4, hp5⟩ := hfacts
            clear hab hax hay hlx hly
            (k_steps; repeat' (refine Hold.off ?_; first | ((with_reducible show wpAny _ _ (call (Value.ref 200) [Value.str _ _, Value.str _ _]) _ _ _); k_dflt (refine' sub_walk ?k1 ?k2 ?k3 ?k4 ?k5 ?k6 ?k7 ?k8 ?_; (case k1 => k_asm); (case k2 => k_asm); (case k3 => k_asm); (case k4 => k_asm); (case k5 => k_asm); (case k6 => k_room); (case k7 => exact okS_one (okc_getD (by with_reducible assumption) (by omega))); (case k8 => exact okS_one (okc_getD (by with_reducible assumption) (by omega)))); intro t9' h' tk9' F' N'; rw [subS_one]; k_steps) | ((with_reducible show wpAny _ _ (subscriptTail _ _ (Value.ref _) (Value.int _ _)) _ _ _); k_dflt (refine' row_get ?k1 ?k2 (by with_reducible assumption) ?k3 ?k4 ?k5 ?_ ?k6 ?k7; (case k1 => k_asm); (case k2 => k_mem); (case k3 => omega); (case k4 => omega); (case k5 => omega); (case k6 => with_unfolding_all rfl); (case k7 => (intro _; with_unfolding_all rfl))); intro t9'; (try dsimp only); k_steps)))
            · rw [if_pos (by omega)] at ret
              exact ret _ _ _ (by k_asm) (by k_asm)
            refine Hold.off ?_
            (with_reducible rename IsRange _ _ _ _ _ _ _ _ => hR9)
            k_dflt (refine' row_new ?k1 ?k2 ?k3 hR9 (row0_small ?k4) (row0_size _) ?k5 ?_; (case k1 => rfl); (case k2 => k_asm); (case k3 => k_asm); (case k4 => omega); (case k5 => omega); k_whole)
            intro h' tk9' D9 k9 ys9 F' N' hnD hI0
            rw [row0_range] at hI0
            (k_steps; repeat' (refine Hold.off ?_; first | ((with_reducible show wpAny _ _ (call (Value.ref 200) [Value.str _ _, Value.str _ _]) _ _ _); k_dflt (refine' sub_walk ?k1 ?k2 ?k3 ?k4 ?k5 ?k6 ?k7 ?k8 ?_; (case k1 => k_asm); (case k2 => k_asm); (case k3 => k_asm); (case k4 => k_asm); (case k5 => k_asm); (case k6 => k_room); (case k7 => exact okS_one (okc_getD (by with_reducible assumption) (by omega))); (case k8 => exact okS_one (okc_getD (by with_reducible assumption) (by omega)))); intro t9' h' tk9' F' N'; rw [subS_one]; k_steps) | ((with_reducible show wpAny _ _ (subscriptTail _ _ (Value.ref _) (Value.int _ _)) _ _ _); k_dflt (refine' row_get ?k1 ?k2 (by with_reducible assumption) ?k3 ?k4 ?k5 ?_ ?k6 ?k7; (case k1 => k_asm); (case k2 => k_mem); (case k3 => omega); (case k4 => omega); (case k5 => omega); (case k6 => with_unfolding_all rfl); (case k7 => (intro _; with_unfolding_all rfl))); intro t9'; (try dsimp only); k_steps)))
            refine Hold.off ?_
            (with_reducible rename Fr _ _ _ _ => F4)
            (with_unfolding_all refine' For_invVF F4 ?k1 ?k2 ?_; (case k1 => exact rfl); (case k2 => exact rfl); k_whole)
            (k_steps; repeat' (refine Hold.off ?_; first | ((with_reducible show wpAny _ _ (call (Value.ref 200) [Value.str _ _, Value.str _ _]) _ _ _); k_dflt (refine' sub_walk ?k1 ?k2 ?k3 ?k4 ?k5 ?k6 ?k7 ?k8 ?_; (case k1 => k_asm); (case k2 => k_asm); (case k3 => k_asm); (case k4 => k_asm); (case k5 => k_asm); (case k6 => k_room); (case k7 => exact okS_one (okc_getD (by with_reducible assumption) (by omega))); (case k8 => exact okS_one (okc_getD (by with_reducible assumption) (by omega)))); intro t9' h' tk9' F' N'; rw [subS_one]; k_steps) | ((with_reducible show wpAny _ _ (subscriptTail _ _ (Value.ref _) (Value.int _ _)) _ _ _); k_dflt (refine' row_get ?k1 ?k2 (by with_reducible assumption) ?k3 ?k4 ?k5 ?_ ?k6 ?k7; (case k1 => k_asm); (case k2 => k_mem); (case k3 => omega); (case k4 => omega); (case k5 => omega); (case k6 => with_unfolding_all rfl); (case k7 => (intro _; with_unfolding_all rfl))); intro t9'; (try dsimp only); k_steps)))
            refine Hold.off ?_
            (with_reducible rename IsRange _ _ _ _ _ _ _ _ => hR)
            (with_reducible rename Fr _ _ _ _ => F3)
            (with_reducible rename News _ _ _ _ => N3)
            (with_unfolding_all refine iter_rangeUnr (n := b2.length) (by rfl) hR (up_small (by omega)) (up_size _) F3 N3 ?_)
            intro i9 l9
            have hDi : @LT.lt Nat _ D9 i9 := l9 _ (List.mem_cons_self ..)
            have hni : ∀ p ∈ news, @LT.lt Nat _ p.1 i9 := fun p hp => l9 p (List.mem_cons_of_mem _ hp)
            clear l9
            refine rangeRest_inv (fun i m' n' => ∃ (ys : List Value) (k : Nat) (row : List Int) (r : Int) (tr : Tok), n' = (D9, W.listOf ys.toArray k) :: news ∧ IntsAre ys row ∧ row.length = a2.length ∧ m' (Str.ofString "a") = some (.str (sL a2) t8) ∧ m' (Str.ofString "b") = some (.str (sL b2) t9) ∧ m' (Str.ofString "max_cost") = some (.int mx t3) ∧ m' (Str.ofString "row") = some (.ref D9) ∧ m' (Str.ofString "result") = some (.int r tr) ∧ outF a2 mx b2 0 (row0 a2.length) 0 = outF a2 mx (b2.drop i) i row r) ?oturn ?odone ?o0
            case o0 => exact ⟨_, _, _, _, _, rfl, hI0, row0_len _, by with_unfolding_all rfl, by with_unfolding_all rfl, by with_unfolding_all rfl, by with_unfolding_all rfl, by with_unfolding_all rfl, rfl⟩
            case odone =>
              rintro h tk m' n' ⟨ys, k, row, r, tr, rfl, hI, hlen, ha, hb, hmc, hrow, hres, hout⟩ F' N'
              rw [← fr_eq [(_, _), (_, _), (_, _)] (List.forall_mem_cons.mpr ⟨ha, List.forall_mem_cons.mpr ⟨hb, List.forall_mem_cons.mpr ⟨hres, List.forall_mem_nil _⟩⟩⟩)] at F'
              dsimp only [kstB] at F'
              (k_steps; repeat' (refine Hold.off ?_; first | ((with_reducible show wpAny _ _ (call (Value.ref 200) [Value.str _ _, Value.str _ _]) _ _ _); k_dflt (refine' sub_walk ?k1 ?k2 ?k3 ?k4 ?k5 ?k6 ?k7 ?k8 ?_; (case k1 => k_asm); (case k2 => k_asm); (case k3 => k_asm); (case k4 => k_asm); (case k5 => k_asm); (case k6 => k_room); (case k7 => exact okS_one (okc_getD (by with_reducible assumption) (by omega))); (case k8 => exact okS_one (okc_getD (by with_reducible assumption) (by omega)))); intro t9' h' tk9' F' N'; rw [subS_one]; k_steps) | ((with_reducible show wpAny _ _ (subscriptTail _ _ (Value.ref _) (Value.int _ _)) _ _ _); k_dflt (refine' row_get ?k1 ?k2 (by with_reducible assumption) ?k3 ?k4 ?k5 ?_ ?k6 ?k7; (case k1 => k_asm); (case k2 => k_mem); (case k3 => omega); (case k4 => omega); (case k5 => omega); (case k6 => with_unfolding_all rfl); (case k7 => (intro _; with_unfolding_all rfl))); intro t9'; (try dsimp only); k_steps)))
              rw [if_neg (by omega), hout, outF_done] at ret
              exact ret _ _ _ (by k_asm) (cb_drop (by assumption) (by kcf_all))
            case oturn =>
              rintro i t h tk m' n' hi ⟨ys, k, row, r, tr, rfl, hI, hlen, ha, hb, hmc, hrow, hres, hout⟩ F' N'
              rw [← fr_eq [(_, _), (_, _), (_, _), (_, _)] (List.forall_mem_cons.mpr ⟨ha, List.forall_mem_cons.mpr ⟨hb, List.forall_mem_cons.mpr ⟨hmc, List.forall_mem_cons.mpr ⟨hrow, List.forall_mem_nil _⟩⟩⟩⟩)] at F'
              dsimp only [kstB] at F'
              clear ha hb hmc hrow hres
              simp only [Int.zero_add] at F'
              (k_steps; repeat' (refine Hold.off ?_; first | ((with_reducible show wpAny _ _ (call (Value.ref 200) [Value.str _ _, Value.str _ _]) _ _ _); k_dflt (refine' sub_walk ?k1 ?k2 ?k3 ?k4 ?k5 ?k6 ?k7 ?k8 ?_; (case k1 => k_asm); (case k2 => k_asm); (case k3 => k_asm); (case k4 => k_asm); (case k5 => k_asm); (case k6 => k_room); (case k7 => exact okS_one (okc_getD (by with_reducible assumption) (by omega))); (case k8 => exact okS_one (okc_getD (by with_reducible assumption) (by omega)))); intro t9' h' tk9' F' N'; rw [subS_one]; k_steps) | ((with_reducible show wpAny _ _ (subscriptTail _ _ (Value.ref _) (Value.int _ _)) _ _ _); k_dflt (refine' row_get ?k1 ?k2 (by with_reducible assumption) ?k3 ?k4 ?k5 ?_ ?k6 ?k7; (case k1 => k_asm); (case k2 => k_mem); (case k3 => omega); (case k4 => omega); (case k5 => omega); (case k6 => with_unfolding_all rfl); (case k7 => (intro _; with_unfolding_all rfl))); intro t9'; (try dsimp only); k_steps)))
              refine Hold.off ?_
              (with_reducible rename Fr _ _ _ _ => F2)
              (with_unfolding_all refine' For_invVF F2 ?k1 ?k2 ?_; (case k1 => exact rfl); (case k2 => exact rfl); k_whole)
              (k_steps; repeat' (refine Hold.off ?_; first | ((with_reducible show wpAny _ _ (call (Value.ref 200) [Value.str _ _, Value.str _ _]) _ _ _); k_dflt (refine' sub_walk ?k1 ?k2 ?k3 ?k4 ?k5 ?k6 ?k7 ?k8 ?_; (case k1 => k_asm); (case k2 => k_asm); (case k3 => k_asm); (case k4 => k_asm); (case k5 => k_asm); (case k6 => k_room); (case k7 => exact okS_one (okc_getD (by with_reducible assumption) (by omega))); (case k8 => exact okS_one (okc_getD (by with_reducible assumption) (by omega)))); intro t9' h' tk9' F' N'; rw [subS_one]; k_steps) | ((with_reducible show wpAny _ _ (subscriptTail _ _ (Value.ref _) (Value.int _ _)) _ _ _); k_dflt (refine' row_get ?k1 ?k2 (by with_reducible assumption) ?k3 ?k4 ?k5 ?_ ?k6 ?k7; (case k1 => k_asm); (case k2 => k_mem); (case k3 => omega); (case k4 => omega); (case k5 => omega); (case k6 => with_unfolding_all rfl); (case k7 => (intro _; with_unfolding_all rfl))); intro t9'; (try dsimp only); k_steps)))
              refine Hold.off ?_
              (with_reducible rename IsRange _ _ _ _ _ _ _ _ => hR2)
              (with_reducible rename Fr _ _ _ _ => F1)
              (with_reducible rename News _ _ _ _ => N1)
              (with_unfolding_all refine iter_rangeUnr (n := a2.length) (by rfl) hR2 (up_small (by omega)) (up_size _) F1 N1 ?_)
              have hDj : ∀ J9 : Addr, (∀ p ∈ (i9, itR (0 + ((i + 1 : Nat) : Int)) ((b2.length : Int) - ((i + 1 : Nat) : Int))) :: (D9, W.listOf ys.toArray k) :: news, @LT.lt Nat _ p.1 J9) → @LT.lt Nat _ i9 J9 ∧ @LT.lt Nat _ D9 J9 ∧ ∀ p ∈ news, @LT.lt Nat _ p.1 J9 := fun J9 h9 => ⟨h9 _ (List.mem_cons_self ..), h9 _ (List.mem_cons_of_mem _ (List.mem_cons_self ..)), fun p hp => h9 p (List.mem_cons_of_mem _ (List.mem_cons_of_mem _ hp))⟩
              intro j9 l9
              obtain ⟨hij, hDj, hnj⟩ := hDj j9 l9
              clear l9
              simp only [Int.toNat_natCast] at F1
              refine rangeRest_inv (fun j m' n' => ∃ (ys' : List Value) (k' : Nat) (row2 : List Int) (d r m9 : Int) (td tr tm tb ti : Tok), n' = (i9, itR (0 + ((i + 1 : Nat) : Int)) ((b2.length : Int) - ((i + 1 : Nat) : Int))) :: (D9, W.listOf ys'.toArray k') :: news ∧ IntsAre ys' row2 ∧ row2.length = a2.length ∧ m' (Str.ofString "a") = some (.str (sL a2) t8) ∧ m' (Str.ofString "b") = some (.str (sL b2) t9) ∧ m' (Str.ofString "max_cost") = some (.int mx t3) ∧ m' (Str.ofString "row") = some (.ref D9) ∧ m' (Str.ofString "result") = some (.int r tr) ∧ m' (Str.ofString "distance") = some (.int d td) ∧ m' (Str.ofString "minimum") = some (.int m9 tm) ∧ m' (Str.ofString "bchar") = some (.str (sL [b2.getD i 0]) tb) ∧ m' (Str.ofString "bindex") = some (.int i ti) ∧ innAt (b2.getD i 0) a2 row (2 * i) (2 * i) big j row2 d r m9) ?iturn ?idone ?i0
              case i0 => exact ⟨_, _, _, _, _, _, _, _, _, _, _, rfl, hI, hlen, by with_unfolding_all rfl, by with_unfolding_all rfl, by with_unfolding_all rfl, by with_unfolding_all rfl, by with_unfolding_all rfl, by with_unfolding_all rfl, by with_unfolding_all rfl, by with_unfolding_all rfl, by with_unfolding_all rfl, by rw [Int.mul_comm (i : Int) 2]; exact innAt_zero _ _ _ _ _ _⟩
              case idone =>
                rintro h tk m' n' ⟨ys', k', row2, d, r2, m9, td, tr2, tm, tb, ti, rfl, hI', hlen', ha, hb, hmc, hrow, hres, hdis, hmin, hbc, hbi, hinn⟩ F' N'
                rw [← fr_eq [(_, _), (_, _), (_, _), (_, _), (_, _), (_, _)] (List.forall_mem_cons.mpr ⟨ha, List.forall_mem_cons.mpr ⟨hb, List.forall_mem_cons.mpr ⟨hmc, List.forall_mem_cons.mpr ⟨hrow, List.forall_mem_cons.mpr ⟨hres, List.forall_mem_cons.mpr ⟨hmin, List.forall_mem_nil _⟩⟩⟩⟩⟩⟩)] at F'
                dsimp only [kstB] at F'
                clear ha hb hmc hrow hres hdis hmin hbc hbi
                have hnext := outF_next (mx := mx) (b := b2) (r := r) hi (innAt_end hinn hlen')
                rw [← hout] at hnext
                (k_steps; repeat' (refine Hold.off ?_; first | ((with_reducible show wpAny _ _ (call (Value.ref 200) [Value.str _ _, Value.str _ _]) _ _ _); k_dflt (refine' sub_walk ?k1 ?k2 ?k3 ?k4 ?k5 ?k6 ?k7 ?k8 ?_; (case k1 => k_asm); (case k2 => k_asm); (case k3 => k_asm); (case k4 => k_asm); (case k5 => k_asm); (case k6 => k_room); (case k7 => exact okS_one (okc_getD (by with_reducible assumption) (by omega))); (case k8 => exact okS_one (okc_getD (by with_reducible assumption) (by omega)))); intro t9' h' tk9' F' N'; rw [subS_one]; k_steps) | ((with_reducible show wpAny _ _ (subscriptTail _ _ (Value.ref _) (Value.int _ _)) _ _ _); k_dflt (refine' row_get ?k1 ?k2 (by with_reducible assumption) ?k3 ?k4 ?k5 ?_ ?k6 ?k7; (case k1 => k_asm); (case k2 => k_mem); (case k3 => omega); (case k4 => omega); (case k5 => omega); (case k6 => with_unfolding_all rfl); (case k7 => (intro _; with_unfolding_all rfl))); intro t9'; (try dsimp only); k_steps)))
                · rw [if_neg (by omega), hnext, if_pos (by omega)] at ret
                  exact ret _ _ _ (by k_asm) (cb_drop (by assumption) (by kcf_all))
                · refine Hold.off ?_
                  exact UnrEnd.intro (by k_asm) (by k_asm) ((D9, W.listOf ys'.toArray k') :: news) (fun p hp => hp) (off1 hDi hni _) ⟨_, _, _, _, _, rfl, hI', hlen', by with_unfolding_all rfl, by with_unfolding_all rfl, by with_unfolding_all rfl, by with_unfolding_all rfl, by with_unfolding_all rfl, by rw [hnext, if_neg (by omega)]⟩
              case iturn =>
                rintro j t h tk m' n' hj ⟨ys', k', row2, d, r2, m9, td, tr2, tm, tb, ti, rfl, hI', hlen', ha, hb, hmc, hrow, hres, hdis, hmin, hbc, hbi, hinn⟩ F' N'
                rw [← fr_eq [(_, _), (_, _), (_, _), (_, _), (_, _), (_, _), (_, _), (_, _), (_, _)] (List.forall_mem_cons.mpr ⟨ha, List.forall_mem_cons.mpr ⟨hb, List.forall_mem_cons.mpr ⟨hmc, List.forall_mem_cons.mpr ⟨hrow, List.forall_mem_cons.mpr ⟨hres, List.forall_mem_cons.mpr ⟨hdis, List.forall_mem_cons.mpr ⟨hmin, List.forall_mem_cons.mpr ⟨hbc, List.forall_mem_cons.mpr ⟨hbi, List.forall_mem_nil _⟩⟩⟩⟩⟩⟩⟩⟩⟩)] at F'
                dsimp only [kstB] at F'
                clear ha hb hmc hrow hres hdis hmin hbc hbi
                simp only [Int.zero_add] at F'
                (k_steps; repeat' (refine Hold.off ?_; first | ((with_reducible show wpAny _ _ (call (Value.ref 200) [Value.str _ _, Value.str _ _]) _ _ _); k_dflt (refine' sub_walk ?k1 ?k2 ?k3 ?k4 ?k5 ?k6 ?k7 ?k8 ?_; (case k1 => k_asm); (case k2 => k_asm); (case k3 => k_asm); (case k4 => k_asm); (case k5 => k_asm); (case k6 => k_room); (case k7 => exact okS_one (okc_getD (by with_reducible assumption) (by omega))); (case k8 => exact okS_one (okc_getD (by with_reducible assumption) (by omega)))); intro t9' h' tk9' F' N'; rw [subS_one]; k_steps) | ((with_reducible show wpAny _ _ (subscriptTail _ _ (Value.ref _) (Value.int _ _)) _ _ _); k_dflt (refine' row_get ?k1 ?k2 (by with_reducible assumption) ?k3 ?k4 ?k5 ?_ ?k6 ?k7; (case k1 => k_asm); (case k2 => k_mem); (case k3 => omega); (case k4 => omega); (case k5 => omega); (case k6 => with_unfolding_all rfl); (case k7 => (intro _; with_unfolding_all rfl))); intro t9'; (try dsimp only); k_steps)))
                · refine Hold.off ?_
                  refine UnrEnd.intro (by k_asm) (by k_asm) _ (fun p hp => hp) (off2 hij hDj hnj _ _) ⟨_, _, _, _, _, _, _, _, _, _, _, rfl, by exact intsAre_set hI', by rw [List.length_set]; exact hlen', by with_unfolding_all rfl, by with_unfolding_all rfl, by with_unfolding_all rfl, by with_unfolding_all rfl, by with_unfolding_all rfl, by with_unfolding_all rfl, by with_unfolding_all rfl, by with_unfolding_all rfl, by with_unfolding_all rfl, innAt_next hinn hj hlen' ?_ ?_⟩
                  · simp only [Int.toNat_natCast]; omega
                  · exact (if_pos (by assumption)).symm
                · refine Hold.off ?_
                  refine UnrEnd.intro (by k_asm) (by k_asm) _ (fun p hp => hp) (off2 hij hDj hnj _ _) ⟨_, _, _, _, _, _, _, _, _, _, _, rfl, by exact intsAre_set hI', by rw [List.length_set]; exact hlen', by with_unfolding_all rfl, by with_unfolding_all rfl, by with_unfolding_all rfl, by with_unfolding_all rfl, by with_unfolding_all rfl, by with_unfolding_all rfl, by with_unfolding_all rfl, by with_unfolding_all rfl, by with_unfolding_all rfl, innAt_next hinn hj hlen' ?_ ?_⟩
                  · simp only [Int.toNat_natCast]; omega
                  · exact (if_neg (by assumption)).symm
end Mine
end
section
namespace Mine
open PySem PySem.Calls PySem.Builtin PyProof.Rows PySem.W
theorem intsAre_of_all : ∀ {zs : List Value}, (∀ v ∈ zs, ∃ n t, v = Value.int n t) → ∃ ms, IntsAre zs ms
  | [], _ => ⟨[], .nil⟩
  | v :: r, h => by
    obtain ⟨n, t, rfl⟩ := h v (by simp)
    obtain ⟨ms, hm⟩ := intsAre_of_all (zs := r) fun x hx => h x (by simp [hx])
    exact ⟨n :: ms, .cons n t hm⟩
theorem slice_ints_any {vs : List Value} {ns : List Int} (hi : IntsAre vs ns) (lo up st : Option Int) : ∃ ms, IntsAre (slicePick vs.toArray lo up st).toList ms := by
  refine intsAre_of_all fun v hv => ?_
  unfold slicePick at hv
  simp only [List.mem_filterMap] at hv
  obtain ⟨i, _, h⟩ := hv
  have h2 : i < vs.length := by
    have := (Array.getElem?_eq_some_iff.mp h).1
    simpa using this
  obtain ⟨t, hx⟩ := hi.get i (ns[i]'(by rw [← hi.length]; exact h2)) (by simp)
  have : vs[i]? = some v := by simpa using h
  rw [hx] at this
  exact ⟨_, t, (Option.some.inj this).symm⟩
section
variable {prog : Program} {w : World} {A : Around} {E : Value → Shared → Prop} {s : Shared} {h₀ : Heap} {L l : Addr} {m : Str → Option Value} {news : List (Addr × Obj)} {vs : List Value} {ns : List Int}
theorem slice_stride {Q : Value → Shared → Prop} {value slice : Expr} {vl vu vk : Value} {lo up st : Option Int} {ops : List Value} (F : Fr h₀ L s.heap m) (N : News h₀ L s.heap news) (hl : s.heap.IsList l vs.toArray) (hi : IntsAre vs ns) (hn : ns.length ≤ 63) (pl : IsPart vl lo) (pu : IsPart vu up) (pk : IsPart vk st) (h0 : st ≠ some 0)
    (h : ∀ D h' zs ms, Fr h₀ L h' m → News h₀ L h' ((D, listOf (List.toArray zs) 0) :: news) → (∀ p ∈ news, p.1 < D) → IntsAre zs ms → Q (.ref D) { s with heap := h' })
    (hs : subscripted slice false (.ref l) (.ref s.heap.objs.size) = operate ops (getItem (.ref l) (.ref s.heap.objs.size))) (ht : ∀ r, letTemporaryGo value (.ref l) r = pure ()) :
    wpAny (model prog w) A (subscriptTail value slice (.ref l) (.ref s.heap.objs.size)) Q E { s with heap := s.heap.push { cls := .type "slice", data := .fields #[vl, vu, vk] } } := by
  obtain ⟨ms, hm⟩ := slice_ints_any hi lo up st
  refine kmk_slice3_lit F N hl pl pu pk h0 rfl (fun D h' F' N' l1 => h D h' _ ms F' N' l1 hm) hs ht ?_
  rw [List.size_toArray, hi.length]
  exact Nat.le_trans hn (Nat.le_of_ble_eq_true rfl)
end
end Mine
end
section
namespace Mine
open PySem PySem.Calls PySem.Builtin PyProof.Rows PySem.W
noncomputable abbrev tripObj (a b c : Int) (t1 t2 t3 : Tok) : Obj := { cls := .type "tuple", data := .seq #[.int a t1, .int b t2, .int c t3] }
inductive TripsIn (news : List (Addr × Obj)) : List Value → List (Int × Int × Int) → Prop
  | nil : TripsIn news [] []
  | cons {a : Addr} {x y z : Int} {t1 t2 t3 : Tok} {vs : List Value} {ps : List (Int × Int × Int)} : (a, tripObj x y z t1 t2 t3) ∈ news → TripsIn news vs ps → TripsIn news (.ref a :: vs) ((x, y, z) :: ps)
theorem TripsIn.length {news : List (Addr × Obj)} {vs : List Value} {ps : List (Int × Int × Int)} (h : TripsIn news vs ps) : vs.length = ps.length := by
  induction h with
  | nil => rfl
  | cons _ _ ih => simp [ih]
theorem TripsIn.get {news : List (Addr × Obj)} {vs : List Value} {ps : List (Int × Int × Int)} (h : TripsIn news vs ps) {i : Nat} {v : Value} (hv : vs[i]? = some v) :
    ∃ a x y z t1 t2 t3, v = .ref a ∧ (a, tripObj x y z t1 t2 t3) ∈ news ∧ ps[i]? = some (x, y, z) := by
  induction h generalizing i with
  | nil => simp at hv
  | cons hm _ ih =>
    cases i with
    | zero => simp at hv; exact ⟨_, _, _, _, _, _, _, hv.symm, hm, rfl⟩
    | succ i => simpa using ih (by simpa using hv)
theorem TripsIn.mono {news news' : List (Addr × Obj)} (hs : ∀ p ∈ news, p ∈ news') {vs : List Value} {ps : List (Int × Int × Int)} (h : TripsIn news vs ps) : TripsIn news' vs ps := by
  induction h with
  | nil => exact .nil
  | cons hm _ ih => exact .cons (hs _ hm) ih
theorem TripsIn.snoc {news : List (Addr × Obj)} {a : Addr} {x y z : Int} {t1 t2 t3 : Tok} {vs : List Value} {ps : List (Int × Int × Int)} (h : TripsIn news vs ps) (hm : (a, tripObj x y z t1 t2 t3) ∈ news) : TripsIn news (vs ++ [.ref a]) (ps ++ [(x, y, z)]) := by
  induction h with
  | nil => exact .cons hm .nil
  | cons h1 _ ih => exact .cons h1 ih
noncomputable def okT (t : Int × Int × Int) : Prop := 1 ≤ t.1 ∧ t.1 ≤ 4 ∧ 0 ≤ t.2.1 ∧ t.2.1 ≤ 4 ∧ 0 ≤ t.2.2 ∧ t.2.2 ≤ 1
noncomputable def sqT (z : Int) : Int × Int × Int := (1 + z.fmod 4, (z.fdiv 4).fmod 5, (z.fdiv 20).fmod 2)
theorem okT_sq (z : Int) : okT (sqT z) := by
  have h1 : z.fmod 4 = z % 4 := Int.fmod_eq_emod_of_nonneg _ (by decide)
  have h2 : (z.fdiv 4).fmod 5 = (z.fdiv 4) % 5 := Int.fmod_eq_emod_of_nonneg _ (by decide)
  have h3 : (z.fdiv 20).fmod 2 = (z.fdiv 20) % 2 := Int.fmod_eq_emod_of_nonneg _ (by decide)
  unfold okT sqT
  simp only [h1, h2, h3]
  omega
end Mine
end
section
namespace Mine
open PySem PySem.Calls PySem.Builtin PyProof.Rows PySem.W
section
variable {prog : Program} {w : World} {A : Around} {E : Value → Shared → Prop} {s : Shared} {h₀ : Heap} {env : Env} {body : List Stmt} {Q : Flow → Shared → Prop}
noncomputable def rangeItems (a : Int) (n : Nat) : List Itm := (List.range n).map fun (i : Nat) => Itm.tok fun t => Value.int (a + (i : Int)) t
theorem rangeItems_get {a : Int} {n i : Nat} {x : Itm} (h : (rangeItems a n)[i]? = some x) : i < n ∧ x = Itm.tok fun t => Value.int (a + (i : Int)) t := by
  unfold rangeItems at h
  rw [List.getElem?_map] at h
  cases e : (List.range n)[i]? with
  | none => rw [e] at h; cases h
  | some j =>
    rw [e] at h
    obtain ⟨hi, rfl⟩ := List.getElem?_eq_some_iff.mp e
    rw [List.length_range] at hi
    simp only [List.getElem_range, Option.map_some] at h
    exact ⟨hi, (Option.some.inj h).symm⟩
theorem iter_rangeTurns {x : Str} {px : Pos} {r : Addr} {a₀ b₀ : Int} {t₀ u₀ v₀ : Tok} {n : Nat} {m₀ : Str → Option Value} {news : List (Addr × Obj)}
    (hh : A.handled = none) (hr : IsRange s.heap r a₀ b₀ 1 t₀ u₀ v₀) (hsmall : Builtin.Range.small a₀ b₀ 1 = true) (hn : Builtin.Range.rangeSize a₀ b₀ 1 = (n : Int)) (F : Fr h₀ env.locals s.heap m₀) (N : News h₀ env.locals s.heap news)
    (rest₀ : ∀ I : Addr, (∀ p ∈ news, p.1 < I) → ItemsRest prog w A E h₀ env (.Name x px) body Q s [(I, "range_iterator")] [] (rangeItems a₀ n) m₀ news) :
    wpAny (model prog w) A (pyIter (.ref r)) (fun it s₂ => TurnsAt prog w A h₀ env (.Name x px) body Q E it s₂) E s := by
  refine wpAny_pyIter_range hr hsmall ?_
  refine ktu_core (tk0 := s.toks) (keep := []) (KTurns.ofWalks (Walks.range hh s.heap.objs.size a₀ 1 n).bound fun i v s Q E st q => ?_) (by simp [rangeItems]) (fun i v h hp => ?_) (fun i h st => ?_) (fun b hb => ?_) (fun b hb => by simpa using hb) (fun b hb => .inl (by simpa using hb)) ?_ (fun p hp hI => ?_) ?_ (F.push _) (fun p hp => ⟨Heap.get?_push_of_some _ (N p hp).1, (N p hp).2⟩) trivial (rest₀ _ fun p hp => Heap.lt_size (N p hp).1)
  · exact wpAny_pure q
  · obtain ⟨hi, t, rfl⟩ := hp
    refine ⟨Itm.tok fun t => Value.int (a₀ + (i : Int)) t, ?_, t, by rw [Int.mul_one]⟩
    unfold rangeItems
    rw [List.getElem?_map, List.getElem?_eq_getElem (by simpa using hi)]
    simp
  · exact ⟨[(s.heap.objs.size, _)], ⟨⟨rfl, rfl⟩, trivial⟩, fun p hp => by rw [List.mem_singleton.mp hp]; exact st⟩
  · have hb' : b = s.heap.objs.size := by simpa using hb
    rw [hb']
    exact ⟨List.mem_cons_self .., next_is_new F⟩
  · intro hI
    exact absurd F.ns.lt ((List.mem_singleton.mp hI) ▸ Nat.lt_irrefl _)
  · exact absurd (Heap.lt_size (N p hp).1) ((List.mem_singleton.mp hI) ▸ Nat.lt_irrefl _)
  · show IsRangeIter _ _ _ _ _
    rw [hn]; simpa using Heap.get?_push_size _ rfl
end
/-- names the frame's address: `refine withL F fun L9 hL9 => ?_; subst hL9` -/
theorem withL {h₀ h : Heap} {L : Addr} {m : Str → Option Value} {P : Prop} (_F : Fr h₀ L h m) (k : ∀ L9, L9 = L → P) : P := k L rfl
end Mine
end
section
namespace Mine
open PySem
noncomputable def getAllS (ps : List (Str × Str)) (r : Str) : List Str := (ps.filter fun p => lowS p.1 == lowS r).map (·.2)
noncomputable def getS (ms : List (Str × Str)) (c : Str) : Option Str := (ms.find? fun p => lowS p.1 == lowS c).map (·.2)
noncomputable def setS (ms : List (Str × Str)) (c r : Str) : List (Str × Str) := (ms.filter fun p => lowS p.1 != lowS c) ++ [(c, r)]
noncomputable def seatG (rec : List (Str × Str) → Str → List Str → Bool × List (Str × Str) × List Str) (row : Str) : List Str → List (Str × Str) → List Str → Bool × List (Str × Str) × List Str
  | [], ms, asked => (false, ms, asked)
  | c :: cs, ms, asked =>
    if asked.contains c then seatG rec row cs ms asked
    else match getS ms (lowS c) with
      | none => (true, setS ms c row, asked ++ [c])
      | some o => let r := rec ms o (asked ++ [c]); if r.1 then (true, setS r.2.1 c row, r.2.2) else seatG rec row cs r.2.1 r.2.2
noncomputable def seatF (ps : List (Str × Str)) : Nat → List (Str × Str) → Str → List Str → Bool × List (Str × Str) × List Str
  | 0, ms, _, asked => (false, ms, asked)
  | n + 1, ms, row, asked => seatG (seatF ps n) row (getAllS ps row) ms asked
structure SeatOk (S : List Str) (ms : List (Str × Str)) (asked : List Str) : Prop where
  ok : ∀ p ∈ ms, okS p.1 ∧ okS p.2
  nd : asked.Nodup
  sub : ∀ c ∈ asked, c ∈ S
theorem nodup_sub_len : ∀ {α : Type} [DecidableEq α] {l S : List α}, l.Nodup → (∀ c ∈ l, c ∈ S) → l.length ≤ S.length := by
  intro α _ l
  induction l with
  | nil => intro S _ _; exact Nat.zero_le _
  | cons a r ih =>
    intro S hn hs
    have ha : a ∈ S := hs a (.head _)
    have hn' := List.nodup_cons.mp hn
    have := ih (S := S.erase a) hn'.2 (fun c hc => (List.mem_erase_of_ne (fun (e : c = a) => hn'.1 (e ▸ hc))).mpr (hs c (.tail _ hc)))
    rw [List.length_erase_of_mem ha] at this
    have h1 := List.length_pos_of_mem ha
    simp only [List.length_cons]
    omega
theorem SeatOk.len {S : List Str} {ms : List (Str × Str)} {asked : List Str} (h : SeatOk S ms asked) : asked.length ≤ S.length := nodup_sub_len h.nd h.sub
theorem SeatOk.ask {S : List Str} {ms : List (Str × Str)} {asked : List Str} {c : Str} (h : SeatOk S ms asked) (hc : c ∈ S) (hn : asked.contains c = false) : SeatOk S ms (asked ++ [c]) := by
  have hn' : c ∉ asked := by simpa using hn
  refine ⟨h.ok, ?_, ?_⟩
  · rw [List.nodup_append]
    refine ⟨h.nd, by simp, ?_⟩
    intro a ha b hb
    have : b = c := by simpa using hb
    subst this
    intro e; subst e; exact hn' ha
  · intro x hx
    rcases List.mem_append.mp hx with hx | hx
    · exact h.sub x hx
    · have : x = c := by simpa using hx
      subst this; exact hc
theorem SeatOk.set {S : List Str} {ms : List (Str × Str)} {asked : List Str} {c r : Str} (h : SeatOk S ms asked) (hc : okS c) (hr : okS r) : SeatOk S (setS ms c r) asked := by
  refine ⟨?_, h.nd, h.sub⟩
  intro p hp
  unfold setS at hp
  rcases List.mem_append.mp hp with hp | hp
  · exact h.ok p (List.mem_filter.mp hp).1
  · have : p = (c, r) := by simpa using hp
    subst this; exact ⟨hc, hr⟩
theorem getS_ok {S : List Str} {ms : List (Str × Str)} {asked : List Str} {c o : Str} (h : SeatOk S ms asked) (hg : getS ms c = some o) : okS o := by
  unfold getS at hg
  cases hf : ms.find? (fun p => lowS p.1 == lowS c) with
  | none => rw [hf] at hg; cases hg
  | some p => rw [hf] at hg; cases hg; exact (h.ok p (List.mem_of_find?_eq_some hf)).2
/-- what a row's search keeps -/
noncomputable def SeatR (S : List Str) (n : Nat) (ms : List (Str × Str)) (asked : List Str) (r : Bool × List (Str × Str) × List Str) : Prop :=
  SeatOk S r.2.1 r.2.2 ∧ asked.length ≤ r.2.2.length ∧ (r.1 = false → r.2.1 = ms) ∧ r.2.1.length ≤ ms.length + n
theorem seatG_keep {S : List Str} {n : Nat} {rec : List (Str × Str) → Str → List Str → Bool × List (Str × Str) × List Str} (hrec : ∀ ms row asked, okS row → SeatOk S ms asked → SeatR S n ms asked (rec ms row asked)) {row : Str} (hr : okS row) :
    ∀ (cs : List Str) (ms : List (Str × Str)) (asked : List Str), (∀ c ∈ cs, okS c ∧ c ∈ S) → SeatOk S ms asked → SeatR S (n + 1) ms asked (seatG rec row cs ms asked) := by
  intro cs
  induction cs with
  | nil => intro ms asked _ h; exact ⟨h, Nat.le_refl _, fun _ => rfl, Nat.le_add_right _ _⟩
  | cons c cs ih =>
    intro ms asked hc h
    have hc1 := hc c (.head _)
    have hc2 : ∀ c ∈ cs, okS c ∧ c ∈ S := fun x hx => hc x (.tail _ hx)
    unfold seatG
    cases ha : asked.contains c with
    | true => exact ih ms asked hc2 h
    | false =>
      simp only [Bool.false_eq_true, if_false]
      have h1 := h.ask hc1.2 ha
      have hlen : ∀ m : List (Str × Str), (setS m c row).length ≤ m.length + 1 := fun m => by
        unfold setS; rw [List.length_append]; have := List.length_filter_le (fun p => lowS p.1 != lowS c) m; simp only [List.length_singleton]; omega
      cases hg : getS ms (lowS c) with
      | none =>
        refine ⟨h1.set hc1.1 hr, by simp, fun e => (nomatch e), ?_⟩
        have := hlen ms
        simp only; omega
      | some o =>
        have hR := hrec ms o (asked ++ [c]) (getS_ok h hg) h1
        obtain ⟨r1, r2, r3, r4⟩ := hR
        simp only [List.length_append, List.length_singleton] at r2
        cases e : (rec ms o (asked ++ [c])).1 with
        | true =>
          simp only [e, if_true]
          refine ⟨r1.set hc1.1 hr, by simp only; omega, fun e => (nomatch e), ?_⟩
          have := hlen (rec ms o (asked ++ [c])).2.1
          simp only; omega
        | false =>
          simp only [e, Bool.false_eq_true, if_false]
          have r5 := r3 e
          rw [r5] at r1 ⊢
          have := ih ms _ hc2 r1
          obtain ⟨q1, q2, q3, q4⟩ := this
          exact ⟨q1, by omega, q3, q4⟩
theorem seatF_keep {S : List Str} {ps : List (Str × Str)} (hp : ∀ p ∈ ps, okS p.2 ∧ p.2 ∈ S) : ∀ (n : Nat) (ms : List (Str × Str)) (row : Str) (asked : List Str), okS row → SeatOk S ms asked → SeatR S n ms asked (seatF ps n ms row asked)
  | 0, ms, row, asked, _, h => ⟨h, Nat.le_refl _, fun _ => rfl, Nat.le_refl _⟩
  | n + 1, ms, row, asked, hr, h => by
    refine seatG_keep (fun ms row asked hr h => seatF_keep hp n ms row asked hr h) hr _ ms asked ?_ h
    intro c hc
    unfold getAllS at hc
    obtain ⟨p, hpm, rfl⟩ := List.mem_map.mp hc
    exact hp p (List.mem_filter.mp hpm).1
end Mine
end
section
namespace Mine
open PySem PySem.Calls PySem.Builtin PyProof.Rows PySem.W
theorem off1_all {D : Addr} : ∀ {l : List (Addr × Obj)}, LCg.Off1 D l → ∀ p ∈ l, @Ne Nat p.1 D
  | [], _, _, hp => nomatch hp
  | q :: r, o, p, hp => by
    rcases List.mem_cons.mp hp with rfl | hp
    · exact o.1
    · exact off1_all o.2 p hp
theorem news_ne {h₀ h : Heap} {L a b : Addr} {x y : Obj} {all : List (Addr × Obj)} (N : News h₀ L h all) (ha : (a, x) ∈ all) (hb : (b, y) ∈ all) (hc : x.cls ≠ y.cls) : @Ne Nat a b := fun e => by
  have e' : a = b := e
  subst e'
  have h1 := (N _ ha).1
  have h2 := (N _ hb).1
  rw [h1] at h2
  have h3 : x = y := Option.some.inj h2
  exact hc (by rw [h3])
theorem news_neD {h₀ h : Heap} {L a b : Addr} {x y : Obj} {all : List (Addr × Obj)} (N : News h₀ L h all) (ha : (a, x) ∈ all) (hb : (b, y) ∈ all) (hc : x.data ≠ y.data) : @Ne Nat a b := fun e => by
  have e' : a = b := e
  subst e'
  have h1 := (N _ ha).1
  have h2 := (N _ hb).1
  rw [h1] at h2
  have h3 : x = y := Option.some.inj h2
  exact hc (by rw [h3])
theorem PairsIn.drop {pre r : List (Addr × Obj)} {x : Addr × Obj} (hx : x.2.cls ≠ .type "tuple") {vs : List Value} {ps : List (Str × Str)} (h : PairsIn (pre ++ x :: r) vs ps) : PairsIn (pre ++ r) vs ps := by
  induction h with
  | nil => exact .nil
  | cons hm _ ih =>
    refine .cons (t1 := ?_) (t2 := ?_) ?_ ih
    · rename_i t1 t2 _ _ _; exact t1
    · rename_i t1 t2 _ _ _; exact t2
    · rcases List.mem_append.mp hm with h | h
      · exact List.mem_append_left _ h
      · rcases List.mem_cons.mp h with h | h
        · subst h; exact absurd rfl hx
        · exact List.mem_append_right _ h
theorem PairsIn.sub {all r : List (Addr × Obj)} (hs : ∀ p ∈ all, p.2.cls = .type "tuple" → p ∈ r) {vs : List Value} {ps : List (Str × Str)} (h : PairsIn all vs ps) : PairsIn r vs ps := by
  induction h with
  | nil => exact .nil
  | cons hm _ ih => exact .cons (hs _ hm rfl) ih
theorem PairsIn.sub2 {all r : List (Addr × Obj)} (hs : ∀ p ∈ all, p.2.cls = .type "tuple" → (∀ v, p.2.data ≠ .cell v) → p ∈ r) {vs : List Value} {ps : List (Str × Str)} (h : PairsIn all vs ps) : PairsIn r vs ps := by
  induction h with
  | nil => exact .nil
  | cons hm _ ih => exact .cons (hs _ hm rfl (fun v e => nomatch e)) ih
theorem unrEndL {h₀ : Heap} {L : Addr} {its : List (Addr × Obj)} {rest : (Str → Option Value) → List (Addr × Obj) → Prop} {s₁ : Shared} {h' : Heap} {tk : Nat} {m' : Str → Option Value} {all news : List (Addr × Obj)} (F : Fr h₀ L h' m') (N : News h₀ L h' all)
    (hs : ∀ p ∈ its ++ news, p ∈ all) (hI : ∀ p ∈ news, ∀ q ∈ its, @Ne Nat p.1 q.1) (r : rest m' news) : UnrEndW h₀ L s₁ its rest { s₁ with heap := h', toks := tk } :=
  ⟨h', tk, m', news, rfl, F, fun p hp => N p (hs p hp), hI, r⟩
theorem unrEnd2 {h₀ : Heap} {L : Addr} {I : Addr} {o : Obj} {rest : (Str → Option Value) → List (Addr × Obj) → Prop} {s₁ : Shared} {h' : Heap} {tk : Nat} {m' : Str → Option Value} {all news : List (Addr × Obj)} (F : Fr h₀ L h' m') (N : News h₀ L h' all)
    (hs : ∀ p ∈ (I, o) :: news, p ∈ all) (hI : ∀ p ∈ news, @Ne Nat p.1 I) (r : rest m' news) : UnrEndW h₀ L s₁ [(I, o)] rest { s₁ with heap := h', toks := tk } :=
  ⟨h', tk, m', news, rfl, F, fun p hp => N p (hs p hp), fun p hp q hq => by rw [List.mem_singleton.mp hq]; exact hI p hp, r⟩
end Mine
namespace Mine
open PySem PySem.Calls PySem.Builtin PyProof.Rows PySem.W
/-- as itemsRest_inv, for a body that never leaves the loop: what comes after stays a name while the body is walked (the proof is far smaller) -/
theorem itemsRest_blind {prog : Program} {w : World} {A : Around} {E : Value → Shared → Prop} {s : Shared} {h₀ : Heap} {env : Env} {target : Expr} {body : List Stmt} {Q : Flow → Shared → Prop} {ws : List (Addr × String)} {keep : List (Addr × Obj)} {xs : List Itm} (J : Nat → (Str → Option Value) → List (Addr × Obj) → Prop)
    (turn : ∀ (Q' : Flow → Shared → Prop) i a v h tk m news, xs[i]? = some a → a.Is v h → J i m news → Fr h₀ env.locals h m → AllObj ws (fun its => News h₀ env.locals h (its ++ news) →
      wpAny (model prog w) A (assign target env v) (fun _ s₂ => wpAny (model prog w) A (execs body env) (UnrPostW h₀ env.locals { s with heap := h, toks := tk } its (fun m' n' => SubL keep n' ∧ J (i + 1) m' n') Q') E s₂) E { s with heap := h, toks := tk }))
    (done : ∀ h tk m news, J xs.length m news → Fr h₀ env.locals h m → News h₀ env.locals h news → Q .next { s with heap := h, toks := tk })
    {m : Str → Option Value} {news : List (Addr × Obj)} (h0 : J 0 m news) : ItemsRest prog w A E h₀ env target body Q s ws keep xs m news :=
  itemsRest_inv J (turn Q) done h0
end Mine
end
section
open PySem PySem.W PyProof.Rows PySem.Calls
namespace Mine
local macro_rules | `(tactic| walk_at "subscriptTail Name Slice ref ref") => `(tactic| (k_here; refine Hold.on ?_))
local macro_rules | `(tactic| walk_at "call builtin:sum") => `(tactic| (k_here; refine Hold.on ?_))

local macro_rules | `(tactic| walk_at "ItemsRest") => `(tactic| (refine Hold.on ?_))
local macro_rules | `(tactic| kpf_c) => `(tactic| first | with_reducible assumption | with_reducible exact List.mem_cons_self | (with_reducible refine List.mem_cons_of_mem _ ?_; kpf_c) | (refine List.mem_append_left _ ?_; kpf_c) | (refine List.mem_append_right _ ?_; kpf_c))
local macro_rules | `(tactic| kpf_close) => `(tactic| first | exact List.forall_mem_nil _ | (with_reducible refine List.forall_mem_cons.mpr ⟨?_, ?_⟩; (focus kpf_c); kpf_close) | (refine List.forall_mem_append.mpr ⟨?_, ?_⟩; (focus kpf_close); kpf_close) | (intro p hp; kpf_c))
local macro_rules | `(tactic| k_all) => `(tactic| with_reducible assumption)
local macro_rules | `(tactic| walk_at "call builtin:list.append") => `(tactic| (k_here; refine Hold.on ?_))
theorem withSq {h₀ h : Heap} {L a b : Addr} {x : Obj} {r : List (Addr × Obj)} {P : Prop} (_N : News h₀ L h ((a, x) :: (b, listOf #[] 0) :: r)) (k : ∀ a9 b9 x9, a9 = a → b9 = b → x9 = x → P) : P := k a b x rfl rfl rfl
theorem sqEnd {h₀ : Heap} {L : Addr} {R : (Str → Option Value) → List (Addr × Obj) → Prop} {s₁ : Shared} {h' : Heap} {tk : Nat} {m' : Str → Option Value} {T D i0 LL LD p1 p2 : Addr} {oD oE oI ol o1 o2 : Obj} {x y z : Int} {t u v : Tok} {ys : List Value} {kk : Nat} {own : List (Addr × Obj)}
    (hcE : oE.cls = .type "enumerate") (hcI : oI.cls = .type "list_iterator") (h1 : @LT.lt Nat _ LL i0) (h2 : @LT.lt Nat _ LD i0) (h3 : @LT.lt Nat _ p1 i0) (h4 : @LT.lt Nat _ p2 i0) (F : Fr h₀ L h' m')
    (N : News h₀ L h' ((T, tripObj x y z t u v) :: (D, oD) :: (i0 + 1, oE) :: (i0, oI) :: (LL, ol) :: (LD, listOf (ys.toArray.push (Value.ref T)) (kk + 1)) :: (own ++ [(p1, o1), (p2, o2)]))) (hown : ∀ p ∈ own, p.2.cls = .type "tuple")
    (r : R m' ((LL, ol) :: (LD, listOf (ys ++ [Value.ref T]).toArray (kk + 1)) :: (((T, tripObj x y z t u v) :: own) ++ [(p1, o1), (p2, o2)]))) : UnrEndW h₀ L s₁ [(i0 + 1, oE), (i0, oI)] R { s₁ with heap := h', toks := tk } := by
  have cl : ∀ p ∈ (T, tripObj x y z t u v) :: own, p.2.cls = .type "tuple" := List.forall_mem_cons.mpr ⟨rfl, hown⟩
  refine unrEndL F N (by rw [← List.push_toArray]; kpf_close) (fun p hp => ?_) r
  have two : @Ne Nat p.1 (i0 + 1) ∧ @Ne Nat p.1 i0 := by
    rcases List.mem_cons.mp hp with rfl | hp
    · exact ⟨Nat.ne_of_lt (Nat.lt_succ_of_lt h1), Nat.ne_of_lt h1⟩
    rcases List.mem_cons.mp hp with rfl | hp
    · exact ⟨Nat.ne_of_lt (Nat.lt_succ_of_lt h2), Nat.ne_of_lt h2⟩
    rcases List.mem_append.mp hp with hp | hp
    · have hm : (p.1, p.2) ∈ (T, tripObj x y z t u v) :: (D, oD) :: (i0 + 1, oE) :: (i0, oI) :: (LL, ol) :: (LD, listOf (ys.toArray.push (Value.ref T)) (kk + 1)) :: (own ++ [(p1, o1), (p2, o2)]) := by
        rcases List.mem_cons.mp hp with rfl | hp
        · kpf_c
        · kpf_c
      exact ⟨news_ne N hm (y := oE) (by kpf_c) (by rw [cl p hp, hcE]; decide), news_ne N hm (y := oI) (by kpf_c) (by rw [cl p hp, hcI]; decide)⟩
    · simp only [List.mem_cons, List.not_mem_nil, or_false] at hp
      rcases hp with rfl | rfl
      · exact ⟨Nat.ne_of_lt (Nat.lt_succ_of_lt h3), Nat.ne_of_lt h3⟩
      · exact ⟨Nat.ne_of_lt (Nat.lt_succ_of_lt h4), Nat.ne_of_lt h4⟩
  exact List.forall_mem_cons.mpr ⟨two.1, List.forall_mem_cons.mpr ⟨two.2, List.forall_mem_nil _⟩⟩
theorem withI4 {a b c d x : Nat} {P : Prop} (_h : a < x ∧ b < x ∧ c < x ∧ d < x) (k : ∀ x9, x9 = x → P) : P := k x rfl
theorem squares_walk {w : World} {loose : List Str} {mean : ExcName → Option Value} {mg mb : Str → Option Value}
  {dp un : Nat} {gd : Option (List Code)} {cn : Str} {csn : List (Str × NameKind)} {csg csc : Bool} {csm : List (Str × Const)} {a : Addr} {ccd : Value} {cl : List (Str × Addr)} {outer : List Env} {A₀ : Around} {base h₀ : Heap} {L : Addr} {m : Str → Option Value} {p1 p2 : Addr} {o1 o2 : Obj} {s : Shared} {Q E : Value → Shared → Prop}
  {sc : Addr} {vs : List Value} {ns : List Int}
  (B : Below A₀ base outer h₀) (F : Fr h₀ L s.heap m) (X : (hd01.heap_39 w.params).In h₀)
  (N : News h₀ L s.heap [(p1, o1), (p2, o2)]) (T : Top hd01.view_39 loose mean mg mb h₀)
  (hd : dp + 6 < recursionLimit) (hu : un + 96 < cLine) (hl : h₀.IsList sc vs.toArray) (hi : IntsAre vs ns) (hln : ns.length ≤ 63)
  (ret : ∀ (D : Addr) (k : Nat) (ys : List Value) (ts : List (Int × Int × Int)) (own : List (Addr × Obj)) (h' : Heap) (tk' : Nat), Fr h₀ L h' m → News h₀ L h' (own ++ [(p1, o1), (p2, o2)]) → (D, listOf ys.toArray k) ∈ own → TripsIn own ys ts → ts.length = 6 → (∀ t ∈ ts, okT t) → (∀ p ∈ own, (p.2.cls = .type "tuple" ∨ p.2.cls = .type "list") ∧ ∀ v, p.2.data ≠ .cell v) → Q (.ref D) { s with heap := h', toks := tk' }) :
  wpAny (model PySem.Challenge.rw_sw0068_01.row.prog w) (ktrTop dp un gd cn ⟨.function, csn, csg, csc, csm⟩ L a ccd cl outer) (call (.ref 214) [.ref sc]) Q E s := by
  revert X; k_fill; intro X
  refine wpAny_call ?_
  k_dflt k_enter
  (with_reducible rename Fr h₀ L _ m => FG9)
  have hlg := Fr.lst FG9 hl

  (k_steps; repeat' (refine Hold.off ?_; first | ((with_reducible show wpAny _ _ (call (Value.builtin "list.append") [Value.ref _, _]) _ _ _); (with_unfolding_all refine' append_K ?apF ?apN ?apU ?_ ?apz; (case apF => k_asm); (case apN => k_asm); (case apU => k_upd); (case apz => rw [sizeLine_eq]; simp only [List.size_toArray]; omega)); intro h' F' N'; (try k_sweep); k_steps) | ((with_reducible show wpAny _ _ (call (Value.builtin "sum") [Value.ref _]) _ _ _); (with_reducible rename IntsAre _ _ => hI9); k_dflt (refine' PyProof.Rows.LSm.sum_ints ?smF ?smN ?smh ?sml hI9 ?_; (case smF => k_asm); (case smN => k_asm); (case smh => rfl); (case sml => first | exact News.isList (by k_asm) (by k_mem) | kmk_list)); intro h' tk' t' F' N'; (generalize (List.sum _ : Int) = z9); clear hI9; k_steps) | ((with_reducible show wpAny _ _ (subscriptTail _ (PySem.Expr.Slice _ _ (some _) _) (Value.ref _) (Value.ref _)) _ _ _); k_dflt (refine' slice_stride ?sqF ?sqN ?sql ?sqi ?sqn ?sqp ?sqq ?sqk ?sqo ?_ ?sqs ?sqt; (case sqF => k_asm); (case sqN => k_asm); (case sql => first | exact Fr.lst (by assumption) (by with_reducible assumption)); (case sqi => with_reducible assumption); (case sqn => with_reducible assumption); (case sqp => kmk_part); (case sqq => kmk_part); (case sqk => kmk_part); (case sqo => decide); (case sqs => with_unfolding_all rfl); (case sqt => kmk_pure)); intro D' h' zs' ms' F' N' l1 hI'; (try k_lt l1); k_steps)))
  refine Hold.off ?_
  (with_reducible rename News _ _ _ _ => N0)
  refine withSq N0 fun LL LD ol e1 e2 e3 => ?_
  subst e1 e2
  (rename _ < _ ∧ _ ∧ _ ∧ _ => li)
  refine withI4 li fun i0 e4 => ?_
  subst e4
  have hol : ol.cls = .type "list" ∧ ∀ v, ol.data ≠ .cell v := by subst e3; exact ⟨rfl, fun v e => nomatch e⟩
  (rename LD < LL ∧ _ ∧ _ => lL)
  (rename p1 < LD ∧ _ => lD)
  refine itemsRest_blind (fun i m' n' => ∃ (ys : List Value) (kk : Nat) (own : List (Addr × Obj)) (ts : List (Int × Int × Int)), m' (Str.ofString "squares") = some (.ref LD) ∧ m' (Str.ofString "script") = some (.ref sc) ∧
    n' = (LL, ol) :: (LD, listOf ys.toArray kk) :: (own ++ [(p1, o1), (p2, o2)]) ∧ (∀ p ∈ own, p.2.cls = .type "tuple" ∧ ∀ v, p.2.data ≠ .cell v) ∧ TripsIn own ys ts ∧ ts.length = i ∧ i ≤ 6 ∧ ∀ t ∈ ts, okT t) ?turn ?done ?z
  case z => exact ⟨[], 0, [], [], by with_unfolding_all rfl, by with_unfolding_all rfl, by subst e3; rfl, (fun _ h => nomatch h), .nil, rfl, by omega, (fun _ h => nomatch h)⟩
  case turn =>
    rintro Q9 i a0 v h tk m' n' hx hv ⟨ys, kk, own, ts, hk1, hk2, rfl, hown, hT, htl, hi6, hok⟩ F'
    obtain ⟨k, seed, u, rfl, hk0, hk6, hi5⟩ : ∃ (k seed : Int) (u : Tok), a0 = Itm.pair (fun t => Value.int k t) (Value.int seed u) ∧ 0 ≤ k ∧ k ≤ 5 ∧ i ≤ 5 := by
      match i, hx with
      | 0, hx => exact ⟨_, _, _, (Option.some.inj hx).symm, by decide, by decide, by omega⟩
      | 1, hx => exact ⟨_, _, _, (Option.some.inj hx).symm, by decide, by decide, by omega⟩
      | 2, hx => exact ⟨_, _, _, (Option.some.inj hx).symm, by decide, by decide, by omega⟩
      | 3, hx => exact ⟨_, _, _, (Option.some.inj hx).symm, by decide, by decide, by omega⟩
      | 4, hx => exact ⟨_, _, _, (Option.some.inj hx).symm, by decide, by decide, by omega⟩
      | 5, hx => exact ⟨_, _, _, (Option.some.inj hx).symm, by decide, by decide, by omega⟩
      | n + 6, hx => exact absurd hx (by simp)
    clear hx
    obtain ⟨T9, t9, rfl, hT9⟩ := hv
    rw [← fr_eq [(_, _), (_, _)] (List.forall_mem_cons.mpr ⟨hk1, List.forall_mem_cons.mpr ⟨hk2, List.forall_mem_nil _⟩⟩)] at F'
    dsimp only [kstB] at F'
    clear hk1 hk2
    refine AllObj.cons fun oE hcE => AllObj.cons fun oI hcI => AllObj.nil fun N' => ?_
    dsimp only [List.cons_append, List.nil_append] at N'
    have hyl : ys.length ≤ 6 := by rw [hT.length, htl]; exact hi6
    have hoD : ∀ p ∈ own ++ [(p1, o1), (p2, o2)], p.1 ≠ LD := fun p hp => by
      rcases List.mem_append.mp hp with hp | hp
      · exact news_ne N' (x := p.2) (y := listOf ys.toArray kk) (by kpf_c) (by kpf_c) (by rw [(hown p hp).1]; show Value.type "tuple" ≠ Value.type "list"; decide)
      · simp only [List.mem_cons, List.not_mem_nil, or_false] at hp
        rcases hp with rfl | rfl
        · exact Nat.ne_of_lt lD.1
        · exact Nat.ne_of_lt lD.2
    (k_steps; repeat' (refine Hold.off ?_; first | ((with_reducible show wpAny _ _ (call (Value.builtin "list.append") [Value.ref _, _]) _ _ _); (with_unfolding_all refine' append_K ?apF ?apN ?apU ?_ ?apz; (case apF => k_asm); (case apN => k_asm); (case apU => k_upd); (case apz => rw [sizeLine_eq]; simp only [List.size_toArray]; omega)); intro h' F' N'; (try k_sweep); k_steps) | ((with_reducible show wpAny _ _ (call (Value.builtin "sum") [Value.ref _]) _ _ _); (with_reducible rename IntsAre _ _ => hI9); k_dflt (refine' PyProof.Rows.LSm.sum_ints ?smF ?smN ?smh ?sml hI9 ?_; (case smF => k_asm); (case smN => k_asm); (case smh => rfl); (case sml => first | exact News.isList (by k_asm) (by k_mem) | kmk_list)); intro h' tk' t' F' N'; (generalize (List.sum _ : Int) = z9); clear hI9; k_steps) | ((with_reducible show wpAny _ _ (subscriptTail _ (PySem.Expr.Slice _ _ (some _) _) (Value.ref _) (Value.ref _)) _ _ _); k_dflt (refine' slice_stride ?sqF ?sqN ?sql ?sqi ?sqn ?sqp ?sqq ?sqk ?sqo ?_ ?sqs ?sqt; (case sqF => k_asm); (case sqN => k_asm); (case sql => first | exact Fr.lst (by assumption) (by with_reducible assumption)); (case sqi => with_reducible assumption); (case sqn => with_reducible assumption); (case sqp => kmk_part); (case sqq => kmk_part); (case sqk => kmk_part); (case sqo => decide); (case sqs => with_unfolding_all rfl); (case sqt => kmk_pure)); intro D' h' zs' ms' F' N' l1 hI'; (try k_lt l1); k_steps)))
    refine sqEnd hcE hcI li.1 li.2.1 li.2.2.1 li.2.2.2 (by k_asm) (by assumption) (fun p hp => (hown p hp).1) ⟨⟨by subst e3; exact .head _, trivial⟩, _, _, _, ts ++ [_], by with_unfolding_all rfl, by with_unfolding_all rfl, rfl, List.forall_mem_cons.mpr ⟨⟨rfl, fun v e => nomatch e⟩, hown⟩, TripsIn.snoc (hT.mono fun p hp => .tail _ hp) (.head _), by rw [List.length_append, htl]; rfl, by omega, fun t ht => ?hok8⟩
    rcases List.mem_append.mp ht with ht | ht
    · exact hok t ht
    · rw [List.mem_singleton.mp ht]
      exact okT_sq _
  case done =>
    rintro h tk m' n' ⟨ys, kk, own, ts, hk1, hk2, rfl, hown, hT, htl, hi6, hok⟩ F' N'
    rw [← fr_eq [(_, _), (_, _)] (List.forall_mem_cons.mpr ⟨hk1, List.forall_mem_cons.mpr ⟨hk2, List.forall_mem_nil _⟩⟩)] at F'
    dsimp only [kstB] at F'
    clear hk1 hk2
    (k_steps; repeat' (refine Hold.off ?_; first | ((with_reducible show wpAny _ _ (call (Value.builtin "list.append") [Value.ref _, _]) _ _ _); (with_unfolding_all refine' append_K ?apF ?apN ?apU ?_ ?apz; (case apF => k_asm); (case apN => k_asm); (case apU => k_upd); (case apz => rw [sizeLine_eq]; simp only [List.size_toArray]; omega)); intro h' F' N'; (try k_sweep); k_steps) | ((with_reducible show wpAny _ _ (call (Value.builtin "sum") [Value.ref _]) _ _ _); (with_reducible rename IntsAre _ _ => hI9); k_dflt (refine' PyProof.Rows.LSm.sum_ints ?smF ?smN ?smh ?sml hI9 ?_; (case smF => k_asm); (case smN => k_asm); (case smh => rfl); (case sml => first | exact News.isList (by k_asm) (by k_mem) | kmk_list)); intro h' tk' t' F' N'; (generalize (List.sum _ : Int) = z9); clear hI9; k_steps) | ((with_reducible show wpAny _ _ (subscriptTail _ (PySem.Expr.Slice _ _ (some _) _) (Value.ref _) (Value.ref _)) _ _ _); k_dflt (refine' slice_stride ?sqF ?sqN ?sql ?sqi ?sqn ?sqp ?sqq ?sqk ?sqo ?_ ?sqs ?sqt; (case sqF => k_asm); (case sqN => k_asm); (case sql => first | exact Fr.lst (by assumption) (by with_reducible assumption)); (case sqi => with_reducible assumption); (case sqn => with_reducible assumption); (case sqp => kmk_part); (case sqq => kmk_part); (case sqk => kmk_part); (case sqo => decide); (case sqs => with_unfolding_all rfl); (case sqt => kmk_pure)); intro D' h' zs' ms' F' N' l1 hI'; (try k_lt l1); k_steps)))
    refine ret LD kk ys ts ((LL, ol) :: (LD, listOf ys.toArray kk) :: own) _ _ (by k_asm) (cb_drop (by assumption) (by kpf_close)) (by kpf_c) (hT.mono fun p hp => .tail _ (.tail _ hp)) htl hok ?_
    exact List.forall_mem_cons.mpr ⟨⟨.inr hol.1, hol.2⟩, List.forall_mem_cons.mpr ⟨⟨.inr rfl, fun v e => nomatch e⟩, fun p hp => ⟨.inl (hown p hp).1, (hown p hp).2⟩⟩⟩
end Mine
end
section
namespace Mine
open PySem PySem.W PyProof.Rows PySem.Calls
noncomputable def onB (i : Nat) (r : Int) : Bool := decide (Builtin.bitAnd ((0 + (i : Int)).fdiv (2 ^ (r - 1).toNat)) 1 = 1)
noncomputable def linesT (i jj : Nat) : List Int := ((List.range jj).map fun (k : Nat) => (1 : Int) + (k : Int)).filter fun r => onB i r
theorem linesT_pos {i jj : Nat} {ys : List Value} {t : Tok} (h : IntsAre ys (linesT i jj)) (hb : Builtin.bitAnd ((0 + (i : Int)).fdiv (2 ^ (1 + (jj : Int) - 1).toNat)) 1 = 1) : IntsAre (ys ++ [.int (1 + (jj : Int)) t]) (linesT i (jj + 1)) := by
  have hb : onB i (1 + (jj : Int)) = true := decide_eq_true hb
  unfold linesT at h ⊢
  rw [List.range_succ, List.map_append, List.filter_append]
  simp only [List.map_cons, List.map_nil, List.filter_cons, hb, if_true, List.filter_nil]
  exact ksk_snoc h
theorem linesT_neg {i jj : Nat} {ys : List Value} (h : IntsAre ys (linesT i jj)) (hb : ¬ Builtin.bitAnd ((0 + (i : Int)).fdiv (2 ^ (1 + (jj : Int) - 1).toNat)) 1 = 1) : IntsAre ys (linesT i (jj + 1)) := by
  have hb : onB i (1 + (jj : Int)) = false := decide_eq_false hb
  unfold linesT at h ⊢
  rw [List.range_succ, List.map_append, List.filter_append]
  simp only [List.map_cons, List.map_nil, List.filter_cons, hb, List.filter_nil]
  simpa using h
noncomputable def colStep (ls cs : List Int) (t : Int × Int × Int) : List Int := if ls.contains t.1 then cs else if cs.contains t.2.1 then cs else cs ++ [t.2.1]
noncomputable def colsT (i : Nat) (ts : List (Int × Int × Int)) : List Int := ts.foldl (colStep (linesT i 4)) []
noncomputable def fewestS (ts : List (Int × Int × Int)) (n : Nat) : Int := (List.range n).foldl (fun le i => let q := ((linesT i 4).length : Int) + ((colsT i ts).length : Int); if q < le then q else le) 4
theorem colStep_next {ts : List (Int × Int × Int)} {ls : List Int} {j : Nat} {t : Int × Int × Int} (hp : ts[j]? = some t) : (ts.take (j + 1)).foldl (colStep ls) [] = colStep ls ((ts.take j).foldl (colStep ls) []) t := by
  rw [List.take_add_one, hp, List.foldl_append]; rfl
theorem colStep_in {ls cs : List Int} {t : Int × Int × Int} (h : (ls.any fun x => x == t.1) = true) : colStep ls cs t = cs := by
  rw [List.any_beq'] at h; unfold colStep; rw [if_pos h]
theorem colStep_seen {ls cs : List Int} {t : Int × Int × Int} (h : (ls.any fun x => x == t.1) = false) (h2 : (cs.any fun x => x == t.2.1) = true) : colStep ls cs t = cs := by
  rw [List.any_beq'] at h h2; unfold colStep; rw [h, h2]; rfl
theorem colStep_new {ls cs : List Int} {t : Int × Int × Int} (h : (ls.any fun x => x == t.1) = false) (h2 : (cs.any fun x => x == t.2.1) = false) : colStep ls cs t = cs ++ [t.2.1] := by
  rw [List.any_beq'] at h h2; unfold colStep; rw [h, h2]; rfl
theorem colStep_len {ls cs : List Int} {t : Int × Int × Int} : (colStep ls cs t).length ≤ cs.length + 1 := by
  unfold colStep; split
  · omega
  · split
    · omega
    · simp
theorem cols_len {ls : List Int} : ∀ (ts : List (Int × Int × Int)) (cs : List Int), (ts.foldl (colStep ls) cs).length ≤ cs.length + ts.length
  | [], cs => Nat.le_refl _
  | t :: r, cs => by
    have h1 := cols_len (ls := ls) r (colStep ls cs t)
    have h2 := @colStep_len ls cs t
    simp only [List.foldl_cons, List.length_cons]
    omega
theorem lines_len (i : Nat) : (linesT i 4).length < 2 ^ 62 := by
  unfold linesT
  exact Nat.lt_of_le_of_lt (List.length_filter_le _ _) (by simp)
theorem fewestS_next {ts : List (Int × Int × Int)} {i : Nat} {le : Int} (h : le = fewestS ts i) : (if ((linesT i 4).length : Int) + ((colsT i ts).length : Int) < le then ((linesT i 4).length : Int) + ((colsT i ts).length : Int) else le) = fewestS ts (i + 1) := by
  subst h; unfold fewestS
  rw [List.range_succ, List.foldl_append]; rfl
end Mine
end
section
open PySem PySem.W PyProof.Rows PySem.Calls
namespace Mine
local macro_rules | `(tactic| walk_at "exec For Name Call cons nil") => `(tactic| (k_here; refine Hold.on ?_))
local macro_rules | `(tactic| walk_at "exec For Tuple Name cons nil") => `(tactic| (k_here; refine Hold.on ?_))
local macro_rules | `(tactic| walk_at "pyIter ref") => `(tactic| (refine Hold.on ?_))
local macro_rules | `(tactic| walk_at "call builtin:len") => `(tactic| (k_here; refine Hold.on ?_))
local macro_rules | `(tactic| walk_at "call builtin:list.append") => `(tactic| (k_here; refine Hold.on ?_))
local macro_rules | `(tactic| k_all) => `(tactic| with_reducible assumption)
local macro_rules | `(tactic| walk_at "exec Assign cons ListComp") => `(tactic| (k_here; refine Hold.on ?_))

theorem withFour {h₀ h : Heap} {L D E I J : Addr} {x y z u : Obj} {r : List (Addr × Obj)} {P : Prop} (_N : News h₀ L h ((D, x) :: (E, y) :: (I, z) :: (J, u) :: r)) (k : ∀ D9 E9 z9 u9, D9 = D → E9 = E → z9 = z → u9 = u → P) : P := k D E z u rfl rfl rfl rfl
theorem fewest_walk {w : World} {loose : List Str} {mean : ExcName → Option Value} {mg mb : Str → Option Value}
  {dp un : Nat} {gd : Option (List Code)} {cn : Str} {csn : List (Str × NameKind)} {csg csc : Bool} {csm : List (Str × Const)} {a : Addr} {ccd : Value} {cl : List (Str × Addr)} {outer : List Env} {A₀ : Around} {base h₀ : Heap} {L : Addr} {m : Str → Option Value} {news : List (Addr × Obj)} {s : Shared} {Q E : Value → Shared → Prop}
  {D : Addr} {kk : Nat} {ys : List Value} {ts : List (Int × Int × Int)}
  (B : Below A₀ base outer h₀) (F : Fr h₀ L s.heap m) (X : (hd01.heap_39 w.params).In h₀)
  (N : News h₀ L s.heap news) (T : Top hd01.view_39 loose mean mg mb h₀)
  (hd : dp + 6 < recursionLimit) (hu : un + 96 < cLine) (hD : (D, listOf ys.toArray kk) ∈ news) (hT : TripsIn news ys ts) (hlen : ts.length = 6)
  (ret : ∀ (t' : Tok) (h' : Heap) (tk' : Nat), Fr h₀ L h' m → News h₀ L h' news → Q (.int (fewestS ts 16) t') { s with heap := h', toks := tk' }) :
  wpAny (model PySem.Challenge.rw_sw0068_01.row.prog w) (ktrTop dp un gd cn ⟨.function, csn, csg, csc, csm⟩ L a ccd cl outer) (call (.ref 219) [.ref D]) Q E s := by
  revert X; k_fill; intro X
  refine wpAny_call ?_
  k_dflt k_enter
  (k_steps; repeat' (refine Hold.off ?_; first | (lct_look; k_dflt (refine LCt.Assign_ListComp_T (F₀ := by k_asm) (by rfl) (by with_unfolding_all rfl) (by with_unfolding_all rfl) (by decide) (by rfl) (by decide) (by rfl) (by rfl) (by rfl) ?_); k_steps) | ((with_reducible show wpAny _ _ (call (Value.builtin "list.append") [Value.ref _, _]) _ _ _); (with_unfolding_all refine' append_K ?apF ?apN ?apU ?_ ?apz; (case apF => k_asm); (case apN => k_asm); (case apU => k_upd); (case apz => rw [sizeLine_eq]; simp only [List.size_toArray]; omega)); intro h' F' N'; (try k_sweep); k_steps) | ((with_reducible show wpAny _ _ (call (Value.builtin "len") [Value.ref _]) _ _ _); (with_unfolding_all refine' len_ints_fit ?lnh ?lni ?lnf ?_; (case lnh => exact News.isList (by k_asm) (by k_mem)); (case lni => with_reducible assumption); (case lnf => with_reducible assumption)); k_steps)))
  refine Hold.off ?_
  (with_reducible rename Fr _ _ _ _ => F4)
  refine withL F4 fun L9 hL9 => ?_
  subst hL9
  (with_reducible rename ∀ p ∈ news, p.1 < L9 => hn0)
  have hn9 : ∀ p ∈ news, p.1 ≠ L9 + 1 := fun p hp => Nat.ne_of_lt (Nat.lt_succ_of_lt (hn0 p hp))
  (with_unfolding_all refine' For_turns F4 ?_; k_whole)
  (k_steps; repeat' (refine Hold.off ?_; first | (lct_look; k_dflt (refine LCt.Assign_ListComp_T (F₀ := by k_asm) (by rfl) (by with_unfolding_all rfl) (by with_unfolding_all rfl) (by decide) (by rfl) (by decide) (by rfl) (by rfl) (by rfl) ?_); k_steps) | ((with_reducible show wpAny _ _ (call (Value.builtin "list.append") [Value.ref _, _]) _ _ _); (with_unfolding_all refine' append_K ?apF ?apN ?apU ?_ ?apz; (case apF => k_asm); (case apN => k_asm); (case apU => k_upd); (case apz => rw [sizeLine_eq]; simp only [List.size_toArray]; omega)); intro h' F' N'; (try k_sweep); k_steps) | ((with_reducible show wpAny _ _ (call (Value.builtin "len") [Value.ref _]) _ _ _); (with_unfolding_all refine' len_ints_fit ?lnh ?lni ?lnf ?_; (case lnh => exact News.isList (by k_asm) (by k_mem)); (case lni => with_reducible assumption); (case lnf => with_reducible assumption)); k_steps)))
  refine Hold.off ?_
  (with_reducible rename IsRange _ _ _ _ _ _ _ _ => hR)
  (with_reducible rename Fr _ _ _ _ => F3)
  (with_reducible rename News _ _ _ _ => N3)
  (with_unfolding_all refine iter_rangeTurns (n := 16) (by rfl) hR (by decide) (by decide) F3 N3 ?_)
  intro I hI
  have hIL : @LT.lt Nat _ (L9 + 1) I := hI _ (List.mem_cons_self ..)
  have hIn : ∀ p ∈ news, @LT.lt Nat _ p.1 I := fun p hp => hI p (List.mem_cons_of_mem _ hp)
  clear hI
  refine itemsRest_blind (fun i m' n' => ∃ (oc : Obj) (v0 : Option Value) (le : Int) (lt : Tok), le = fewestS ts i ∧ oc.data = .cell v0 ∧ m' (Str.ofString "least") = some (.int le lt) ∧ m' (Str.ofString "squares") = some (.ref D) ∧ n' = (L9 + 1, oc) :: news) ?turn ?done ?z
  case z => exact ⟨_, _, _, _, rfl, by assumption, by with_unfolding_all rfl, by with_unfolding_all rfl, rfl⟩
  case turn =>
    rintro Q9 i a0 v h tk m' n' hx hv ⟨oc, v0, le, lt, hfe, hoc, hle, hsq, rfl⟩ F'
    obtain ⟨hi, rfl⟩ := rangeItems_get hx
    obtain ⟨t9, rfl⟩ := hv
    rw [← fr_eq [(_, _), (_, _)] (List.forall_mem_cons.mpr ⟨hle, List.forall_mem_cons.mpr ⟨hsq, List.forall_mem_nil _⟩⟩)] at F'
    dsimp only [kstB] at F'
    clear hle hsq
    refine AllObj.cons fun oI hcI => AllObj.nil fun N' => ?_
    dsimp only [List.cons_append, List.nil_append] at N'
    dsimp only
    (k_steps; repeat' (refine Hold.off ?_; first | (lct_look; k_dflt (refine LCt.Assign_ListComp_T (F₀ := by k_asm) (by rfl) (by with_unfolding_all rfl) (by with_unfolding_all rfl) (by decide) (by rfl) (by decide) (by rfl) (by rfl) (by rfl) ?_); k_steps) | ((with_reducible show wpAny _ _ (call (Value.builtin "list.append") [Value.ref _, _]) _ _ _); (with_unfolding_all refine' append_K ?apF ?apN ?apU ?_ ?apz; (case apF => k_asm); (case apN => k_asm); (case apU => k_upd); (case apz => rw [sizeLine_eq]; simp only [List.size_toArray]; omega)); intro h' F' N'; (try k_sweep); k_steps) | ((with_reducible show wpAny _ _ (call (Value.builtin "len") [Value.ref _]) _ _ _); (with_unfolding_all refine' len_ints_fit ?lnh ?lni ?lnf ?_; (case lnh => exact News.isList (by k_asm) (by k_mem)); (case lni => with_reducible assumption); (case lnf => with_reducible assumption)); k_steps)))
    refine LCt.CompSrcT.range (n := 4) (by rfl) (by k_asm) (by k_asm) (by assumption) (by rfl) (by rfl) (by exact Nat.le_of_ble_eq_true rfl) ?_
    intro g'
    refine restT_of (J := fun jj ys => IntsAre ys (linesT i jj)) ?fin ?turn _ _ _ (Nat.zero_add _) .nil
    case turn =>
      intro jj v ys I2 oI2 C oC D2 m2 h tk E' hi2 hv hJ hC' hx' F' N' off' ne'
      obtain ⟨t8, rfl⟩ := hv
      (k_steps; repeat' (refine Hold.off ?_; first | (lct_look; k_dflt (refine LCt.Assign_ListComp_T (F₀ := by k_asm) (by rfl) (by with_unfolding_all rfl) (by with_unfolding_all rfl) (by decide) (by rfl) (by decide) (by rfl) (by rfl) (by rfl) ?_); k_steps) | ((with_reducible show wpAny _ _ (call (Value.builtin "list.append") [Value.ref _, _]) _ _ _); (with_unfolding_all refine' append_K ?apF ?apN ?apU ?_ ?apz; (case apF => k_asm); (case apN => k_asm); (case apU => k_upd); (case apz => rw [sizeLine_eq]; simp only [List.size_toArray]; omega)); intro h' F' N'; (try k_sweep); k_steps) | ((with_reducible show wpAny _ _ (call (Value.builtin "len") [Value.ref _]) _ _ _); (with_unfolding_all refine' len_ints_fit ?lnh ?lni ?lnf ?_; (case lnh => exact News.isList (by k_asm) (by k_mem)); (case lni => with_reducible assumption); (case lnf => with_reducible assumption)); k_steps)))
      all_goals (refine LCg.CompEnd.intro (by k_asm) (by assumption) _ (by kcf_all) off' trivial ⟨rfl, ?_⟩)
      · exact linesT_pos hJ (by assumption)
      · exact linesT_neg hJ (by assumption)
    case fin =>
      intro ys9 hJ
      (k_steps; repeat' (refine Hold.off ?_; first | (lct_look; k_dflt (refine LCt.Assign_ListComp_T (F₀ := by k_asm) (by rfl) (by with_unfolding_all rfl) (by with_unfolding_all rfl) (by decide) (by rfl) (by decide) (by rfl) (by rfl) (by rfl) ?_); k_steps) | ((with_reducible show wpAny _ _ (call (Value.builtin "list.append") [Value.ref _, _]) _ _ _); (with_unfolding_all refine' append_K ?apF ?apN ?apU ?_ ?apz; (case apF => k_asm); (case apN => k_asm); (case apU => k_upd); (case apz => rw [sizeLine_eq]; simp only [List.size_toArray]; omega)); intro h' F' N'; (try k_sweep); k_steps) | ((with_reducible show wpAny _ _ (call (Value.builtin "len") [Value.ref _]) _ _ _); (with_unfolding_all refine' len_ints_fit ?lnh ?lni ?lnf ?_; (case lnh => exact News.isList (by k_asm) (by k_mem)); (case lni => with_reducible assumption); (case lnf => with_reducible assumption)); k_steps)))
      refine Hold.off ?_
      (with_reducible rename Fr _ _ _ _ => F4)
      (with_reducible rename News _ _ _ _ => N4)
      refine withFour N4 fun D8 D9 o9 oc9 hD8 hD9 ho9 hc9 => ?_
      subst hD8 hD9 ho9 hc9
      (with_unfolding_all refine' For_turns F4 ?_; k_whole)
      (k_steps; repeat' (refine Hold.off ?_; first | (lct_look; k_dflt (refine LCt.Assign_ListComp_T (F₀ := by k_asm) (by rfl) (by with_unfolding_all rfl) (by with_unfolding_all rfl) (by decide) (by rfl) (by decide) (by rfl) (by rfl) (by rfl) ?_); k_steps) | ((with_reducible show wpAny _ _ (call (Value.builtin "list.append") [Value.ref _, _]) _ _ _); (with_unfolding_all refine' append_K ?apF ?apN ?apU ?_ ?apz; (case apF => k_asm); (case apN => k_asm); (case apU => k_upd); (case apz => rw [sizeLine_eq]; simp only [List.size_toArray]; omega)); intro h' F' N'; (try k_sweep); k_steps) | ((with_reducible show wpAny _ _ (call (Value.builtin "len") [Value.ref _]) _ _ _); (with_unfolding_all refine' len_ints_fit ?lnh ?lni ?lnf ?_; (case lnh => exact News.isList (by k_asm) (by k_mem)); (case lni => with_reducible assumption); (case lnf => with_reducible assumption)); k_steps)))
      refine Hold.off ?_
      (with_reducible rename News _ _ _ (_ :: _ :: _ :: _ :: _) => N3)
      refine iter_listTurns (by rfl) (by k_asm) N3 (.tail _ (.tail _ (.tail _ (.tail _ hD)))) rfl rfl ?_
      intro I3 hI3
      (rename _ ∧ _ ∧ _ ∧ AllLt D8 news => l8)
      have hl8 := allLt_mem l8.2.2.2
      have hn8 : ∀ p ∈ news, p.1 ≠ D8 := fun p hp => Nat.ne_of_lt (hl8 p hp)
      refine itemsRest_blind (fun j m3 n3 => ∃ (zs : List Value) (k3 : Nat), IntsAre zs ((ts.take j).foldl (colStep (linesT i 4)) []) ∧ m3 (Str.ofString "least") = some (.int le lt) ∧ m3 (Str.ofString "squares") = some (.ref D) ∧ m3 (Str.ofString "lines") = some (.ref D9) ∧ m3 (Str.ofString "columns") = some (.ref D8) ∧ n3 = (D8, listOf zs.toArray k3) :: (D9, LCg.lst ys9) :: (I, o9) :: (L9 + 1, oc9) :: news) ?turn2 ?done2 ?z2
      case z2 => exact ⟨[], 0, .nil, by with_unfolding_all rfl, by with_unfolding_all rfl, by with_unfolding_all rfl, by with_unfolding_all rfl, rfl⟩
      case turn2 =>
        rintro Q9 j a0 v3 h3 tk3 m3 n3 hx3 hv3 ⟨zs, k3, hzs, hle3, hsq3, hli3, hco3, rfl⟩ F3
        obtain ⟨v1, hv1, rfl⟩ : ∃ v1, ys[j]? = some v1 ∧ a0 = .val v1 := by
          rw [List.getElem?_map] at hx3
          cases hq : ys[j]? with
          | none => rw [hq] at hx3; cases hx3
          | some v1 => rw [hq] at hx3; exact ⟨v1, rfl, (Option.some.inj hx3).symm⟩
        have hv' : v3 = v1 := hv3
        subst hv'
        obtain ⟨aP, x1, x2, x3, tA, tB, tC, rfl, hm, hp⟩ := hT.get hv1
        rw [← fr_eq [(_, _), (_, _), (_, _), (_, _)] (List.forall_mem_cons.mpr ⟨hle3, List.forall_mem_cons.mpr ⟨hsq3, List.forall_mem_cons.mpr ⟨hli3, List.forall_mem_cons.mpr ⟨hco3, List.forall_mem_nil _⟩⟩⟩⟩)] at F3
        dsimp only [kstB] at F3
        clear hle3 hsq3 hli3 hco3
        refine AllObj.cons fun oI3 hcI3 => AllObj.nil fun N3 => ?_
        dsimp only [List.cons_append, List.nil_append] at N3
        have N4 := news_more (x := (aP, tripObj x1 x2 x3 tA tB tC)) N3 (by simp [hm])
        clear N3
        have hAP : @LT.lt Nat _ aP D8 := hl8 _ hm
        have hI38 : @LT.lt Nat _ D8 I3 := hI3 _ (.head _)
        have hI4 : ∀ o : Obj, ∀ p ∈ (D8, o) :: (D9, LCg.lst ys9) :: (I, o9) :: (L9 + 1, oc9) :: news, @LT.lt Nat _ p.1 I3 := fun o p hp => by
          rcases List.mem_cons.mp hp with rfl | hp
          · exact hI38
          · exact hI3 p (.tail _ hp)
        have hzB : zs.length ≤ 6 := by
          rw [hzs.length]
          exact Nat.le_trans (cols_len _ _) (by simp only [List.length_nil, List.length_take, hlen, Nat.zero_add]; exact Nat.min_le_right _ _)
        (k_steps; repeat' (refine Hold.off ?_; first | (lct_look; k_dflt (refine LCt.Assign_ListComp_T (F₀ := by k_asm) (by rfl) (by with_unfolding_all rfl) (by with_unfolding_all rfl) (by decide) (by rfl) (by decide) (by rfl) (by rfl) (by rfl) ?_); k_steps) | ((with_reducible show wpAny _ _ (call (Value.builtin "list.append") [Value.ref _, _]) _ _ _); (with_unfolding_all refine' append_K ?apF ?apN ?apU ?_ ?apz; (case apF => k_asm); (case apN => k_asm); (case apU => k_upd); (case apz => rw [sizeLine_eq]; simp only [List.size_toArray]; omega)); intro h' F' N'; (try k_sweep); k_steps) | ((with_reducible show wpAny _ _ (call (Value.builtin "len") [Value.ref _]) _ _ _); (with_unfolding_all refine' len_ints_fit ?lnh ?lni ?lnf ?_; (case lnh => exact News.isList (by k_asm) (by k_mem)); (case lni => with_reducible assumption); (case lnf => with_reducible assumption)); k_steps)))
        case refine_1 => exact unrEnd1 (news := (D8, listOf zs.toArray k3) :: (D9, LCg.lst ys9) :: (I, o9) :: (L9 + 1, oc9) :: news) (by k_asm) (by assumption) (by kcf_all) (hI4 _) ⟨⟨.tail _ (.tail _ (.tail _ (.tail _ hD))), trivial⟩, zs, k3, by rw [colStep_next hp, colStep_in (by assumption)]; exact hzs, by with_unfolding_all rfl, by with_unfolding_all rfl, by with_unfolding_all rfl, by with_unfolding_all rfl, rfl⟩
        case' refine_2.refine'_4.refine'_4.refine'_4.refine_1 => exact unrEnd1 (news := (D8, listOf zs.toArray k3) :: (D9, LCg.lst ys9) :: (I, o9) :: (L9 + 1, oc9) :: news) (by k_asm) (by assumption) (by kcf_all) (hI4 _) ⟨⟨.tail _ (.tail _ (.tail _ (.tail _ hD))), trivial⟩, zs, k3, by rw [colStep_next hp, colStep_seen (by assumption) (by assumption)]; exact hzs, by with_unfolding_all rfl, by with_unfolding_all rfl, by with_unfolding_all rfl, by with_unfolding_all rfl, rfl⟩
        all_goals exact unrEnd1 (news := (D8, listOf (zs ++ [Value.int x2 tB]).toArray (k3 + 1)) :: (D9, LCg.lst ys9) :: (I, o9) :: (L9 + 1, oc9) :: news) (by k_asm) (by assumption) (by rw [← List.push_toArray]; kcf_all) (hI4 _) ⟨⟨.tail _ (.tail _ (.tail _ (.tail _ hD))), trivial⟩, zs ++ [Value.int x2 tB], k3 + 1, by rw [colStep_next hp, colStep_new (by assumption) (by assumption)]; exact ksk_snoc hzs, by with_unfolding_all rfl, by with_unfolding_all rfl, by with_unfolding_all rfl, by with_unfolding_all rfl, rfl⟩
      case done2 =>
        rintro h3 tk3 m3 n3 ⟨zs, k3, hzs, hle3, hsq3, hli3, hco3, rfl⟩ F3 N3
        rw [← fr_eq [(_, _), (_, _), (_, _), (_, _)] (List.forall_mem_cons.mpr ⟨hle3, List.forall_mem_cons.mpr ⟨hsq3, List.forall_mem_cons.mpr ⟨hli3, List.forall_mem_cons.mpr ⟨hco3, List.forall_mem_nil _⟩⟩⟩⟩)] at F3
        dsimp only [kstB] at F3
        clear hle3 hsq3 hli3 hco3
        have hlF := lines_len i
        have hcF : (List.foldl (colStep (linesT i 4)) [] (List.take (List.map Itm.val ys).length ts)).length < 2 ^ 62 := Nat.lt_of_le_of_lt (cols_len _ _) (by simp only [List.length_nil, List.length_take, hlen, Nat.zero_add]; exact Nat.lt_of_le_of_lt (Nat.min_le_right _ _) (by decide))
        (k_steps; repeat' (refine Hold.off ?_; first | (lct_look; k_dflt (refine LCt.Assign_ListComp_T (F₀ := by k_asm) (by rfl) (by with_unfolding_all rfl) (by with_unfolding_all rfl) (by decide) (by rfl) (by decide) (by rfl) (by rfl) (by rfl) ?_); k_steps) | ((with_reducible show wpAny _ _ (call (Value.builtin "list.append") [Value.ref _, _]) _ _ _); (with_unfolding_all refine' append_K ?apF ?apN ?apU ?_ ?apz; (case apF => k_asm); (case apN => k_asm); (case apU => k_upd); (case apz => rw [sizeLine_eq]; simp only [List.size_toArray]; omega)); intro h' F' N'; (try k_sweep); k_steps) | ((with_reducible show wpAny _ _ (call (Value.builtin "len") [Value.ref _]) _ _ _); (with_unfolding_all refine' len_ints_fit ?lnh ?lni ?lnf ?_; (case lnh => exact News.isList (by k_asm) (by k_mem)); (case lni => with_reducible assumption); (case lnf => with_reducible assumption)); k_steps)))
        have hts : List.take (List.map Itm.val ys).length ts = ts := List.take_of_length_le (by rw [List.length_map, hT.length]; exact Nat.le_refl _)
        refine unrEnd1 (news := (L9 + 1, oc9) :: news) (by k_asm) (by assumption) (by kcf_all) (fun p hp => ?_) ⟨trivial, oc9, _, _, _, ?_, by assumption, by with_unfolding_all rfl, by with_unfolding_all rfl, rfl⟩
        · rcases List.mem_cons.mp hp with rfl | hp
          · exact hIL
          · exact hIn p hp
        · rw [hts]; exact fewestS_next hfe
  case done =>
    rintro h tk m' n' ⟨oc, v0, le, lt, hfe, hoc, hle, hsq, rfl⟩ F' N'
    rw [← fr_eq [(_, _), (_, _)] (List.forall_mem_cons.mpr ⟨hle, List.forall_mem_cons.mpr ⟨hsq, List.forall_mem_nil _⟩⟩)] at F'
    dsimp only [kstB] at F'
    clear hle hsq
    (k_steps; repeat' (refine Hold.off ?_; first | (lct_look; k_dflt (refine LCt.Assign_ListComp_T (F₀ := by k_asm) (by rfl) (by with_unfolding_all rfl) (by with_unfolding_all rfl) (by decide) (by rfl) (by decide) (by rfl) (by rfl) (by rfl) ?_); k_steps) | ((with_reducible show wpAny _ _ (call (Value.builtin "list.append") [Value.ref _, _]) _ _ _); (with_unfolding_all refine' append_K ?apF ?apN ?apU ?_ ?apz; (case apF => k_asm); (case apN => k_asm); (case apU => k_upd); (case apz => rw [sizeLine_eq]; simp only [List.size_toArray]; omega)); intro h' F' N'; (try k_sweep); k_steps) | ((with_reducible show wpAny _ _ (call (Value.builtin "len") [Value.ref _]) _ _ _); (with_unfolding_all refine' len_ints_fit ?lnh ?lni ?lnf ?_; (case lnh => exact News.isList (by k_asm) (by k_mem)); (case lni => with_reducible assumption); (case lnf => with_reducible assumption)); k_steps)))
    subst hfe
    exact ret _ _ _ (by k_asm) (cb_drop (by assumption) (by kcf_all))
end Mine
end
section
open PySem PySem.W PyProof.Rows PySem.Calls
namespace Mine
local macro_rules | `(tactic| walk_at "call ref") => `(tactic| (k_here; refine Hold.on ?_))
local macro_rules | `(tactic| walk_at "call builtin:str.lower") => `(tactic| (k_here; refine Hold.on ?_))

local macro_rules | `(tactic| k_all) => `(tactic| exact allLt_ne (by assumption) (by omega))
local macro_rules | `(tactic| walk_at "eval ListComp") => `(tactic| (k_here; refine Hold.on ?_))
theorem get_all_walk {w : World} {loose : List Str} {mean : ExcName → Option Value} {mg mb : Str → Option Value}
  {dp un : Nat} {gd : Option (List Code)} {cn : Str} {csn : List (Str × NameKind)} {csg csc : Bool} {csm : List (Str × Const)} {a : Addr} {ccd : Value} {cl : List (Str × Addr)} {outer : List Env} {A₀ : Around} {base h₀ : Heap} {L : Addr} {m : Str → Option Value} {news : List (Addr × Obj)} {s : Shared} {Q E : Value → Shared → Prop}
  {hA dx l : Addr} {tk nn : Nat} {vs : List Value} {ps : List (Str × Str)} {x : Str} {t1 : Tok}
  (B : Below A₀ base outer h₀) (F : Fr h₀ L s.heap m) (X : (hd01.heap_39 w.params).In h₀)
  (N : News h₀ L s.heap ((hA, instObj 182 dx) :: (dx, dictOf [⟨PyData.keyHash w.params "_headers", .str "_headers" tk, .ref l⟩] 1) :: (l, listOf vs.toArray nn) :: news)) (T : Top hd01.view_39 loose mean mg mb h₀)
  (hd : dp + 6 < recursionLimit) (hu : un + 48 < cLine) (hx : okS x) (hlen : vs.length ≤ 1000) (hps : PairsIn news vs ps) (hok : ∀ p ∈ ps, okS p.1)
  (ret : ∀ (D : Addr) (ys : List Value) (n : Nat) (h' : Heap) (tk' : Nat), Fr h₀ L h' m → News h₀ L h' ((D, listOf ys.toArray n) :: (hA, instObj 182 dx) :: (dx, dictOf [⟨PyData.keyHash w.params "_headers", .str "_headers" tk, .ref l⟩] 1) :: (l, listOf vs.toArray nn) :: news) →
     StrsAre ys ((ps.filter fun p => lowS p.1 == lowS x).map (·.2)) → (∀ p ∈ (hA, instObj 182 dx) :: (dx, dictOf [⟨PyData.keyHash w.params "_headers", .str "_headers" tk, .ref l⟩] 1) :: (l, listOf vs.toArray nn) :: news, @Ne Nat p.1 D) → Q (.ref D) { s with heap := h', toks := tk' }) :
  wpAny (model PySem.Challenge.rw_sw0068_01.row.prog w) (ktrTop dp un gd cn ⟨.function, csn, csg, csc, csm⟩ L a ccd cl outer) (call (.ref 121) [.ref hA, .str x t1]) Q E s := by
  revert X; k_fill; intro X
  refine wpAny_call ?_
  k_dflt k_enter
  (rename hA < _ ∧ _ => l1)
  have al1 := l1.2.2.2
  (k_steps; repeat' (refine Hold.off ?_; first | (lct_look; k_dflt (refine LCt.ListComp_T (F₀ := by k_asm) (by with_unfolding_all rfl) (by decide) (by rfl) (by decide) (by rfl) ?_); k_steps) | ((with_reducible show wpAny _ _ (call (Value.builtin "str.lower") [Value.str _ _]) _ _ _); refine call_lower (by assumption) ?_; (try dsimp only); k_steps) | ((with_reducible show wpAny _ _ (call (Value.ref 83) _ _) _ _ _); k_dflt (refine' conv_walk ?k1 ?k2 ?k3 ?k4 ?k5 ?kd ?ku ?kx ?_; (case k1 => k_asm); (case k2 => k_asm); (case k3 => k_asm); (case k4 => k_asm); (case k5 => k_asm); (case kd => ktr_room); (case ku => ktr_units); (case kx => first | assumption | exact okS_low (by assumption))); intro t9' h' tk' F' N'; (try dsimp only); (try k_fold); k_steps)))
  refine LCt.CompSrcT.ledger (by rfl) (by k_asm) (by k_asm) (by k_mem) (by rw [sizeLine_eq]; simp only [List.size_toArray]; omega) ?_
  intro g'
  refine restT_of (J := fun i ys => StrsAre ys (((ps.take i).filter fun p => lowS p.1 == lowS x).map (·.2))) ?fin ?turn _ _ _ (Nat.zero_add _) .nil
  case turn =>
    intro i v ys I oI C oC D m₂ h tk E' hi hv hJ hC' hx' F' N' off' ne'
    obtain ⟨aP, kP, xP, tA, tB, rfl, hm, hp⟩ := hps.get (by simpa using hv)
    have hkP : okS kP := hok _ (List.mem_of_getElem? hp)
    have N2 := news_more (x := (aP, pairObj kP xP tA tB)) N' (by simp [hm])
    clear N'
    (k_steps; repeat' (refine Hold.off ?_; first | (lct_look; k_dflt (refine LCt.ListComp_T (F₀ := by k_asm) (by with_unfolding_all rfl) (by decide) (by rfl) (by decide) (by rfl) ?_); k_steps) | ((with_reducible show wpAny _ _ (call (Value.builtin "str.lower") [Value.str _ _]) _ _ _); refine call_lower (by assumption) ?_; (try dsimp only); k_steps) | ((with_reducible show wpAny _ _ (call (Value.ref 83) _ _) _ _ _); k_dflt (refine' conv_walk ?k1 ?k2 ?k3 ?k4 ?k5 ?kd ?ku ?kx ?_; (case k1 => k_asm); (case k2 => k_asm); (case k3 => k_asm); (case k4 => k_asm); (case k5 => k_asm); (case kd => ktr_room); (case ku => ktr_units); (case kx => first | assumption | exact okS_low (by assumption))); intro t9' h' tk' F' N'; (try dsimp only); (try k_fold); k_steps)))
    all_goals (refine LCg.CompEnd.intro (by k_asm) (by assumption) _ (by kcf_all) off' (.inr ⟨_, by k_mem, rfl, _, rfl⟩) ⟨rfl, ?_⟩)
    · exact strs_take_pos hJ hp (by assumption)
    · exact strs_take_neg hJ hp (by assumption)
  case fin =>
    intro ys hJ
    rw [List.take_of_length_le (by simp only [List.size_toArray]; exact Nat.le_of_eq hps.length.symm)] at hJ
    (k_steps; repeat' (refine Hold.off ?_; first | (lct_look; k_dflt (refine LCt.ListComp_T (F₀ := by k_asm) (by with_unfolding_all rfl) (by decide) (by rfl) (by decide) (by rfl) ?_); k_steps) | ((with_reducible show wpAny _ _ (call (Value.builtin "str.lower") [Value.str _ _]) _ _ _); refine call_lower (by assumption) ?_; (try dsimp only); k_steps) | ((with_reducible show wpAny _ _ (call (Value.ref 83) _ _) _ _ _); k_dflt (refine' conv_walk ?k1 ?k2 ?k3 ?k4 ?k5 ?kd ?ku ?kx ?_; (case k1 => k_asm); (case k2 => k_asm); (case k3 => k_asm); (case k4 => k_asm); (case k5 => k_asm); (case kd => ktr_room); (case ku => ktr_units); (case kx => first | assumption | exact okS_low (by assumption))); intro t9' h' tk' F' N'; (try dsimp only); (try k_fold); k_steps)))
    (rename _ ∧ _ ∧ _ ∧ _ ∧ LCg.Off1 _ news => o9)
    exact ret _ _ _ _ _ (by k_asm) (cb_drop (by assumption) (by kcf_all)) hJ (off1_all o9.2)
end Mine
end
section
open PySem PySem.W PyProof.Rows PySem.Calls
namespace Mine
local macro_rules | `(tactic| walk_at "call ref") => `(tactic| (k_here; refine Hold.on ?_))
local macro_rules | `(tactic| walk_at "call builtin:str.lower") => `(tactic| (k_here; refine Hold.on ?_))
local macro_rules | `(tactic| k_all) => `(tactic| exact allLt_ne (by assumption) (by omega))
local macro_rules | `(tactic| walk_at "exec For Tuple Attribute cons nil") => `(tactic| (k_here; refine Hold.on ?_))
local macro_rules | `(tactic| walk_at "no such key") => `(tactic| (k_here; refine Hold.on ?_))

theorem get1_walk {w : World} {loose : List Str} {mean : ExcName → Option Value} {mg mb : Str → Option Value}
  {dp un : Nat} {gd : Option (List Code)} {cn : Str} {csn : List (Str × NameKind)} {csg csc : Bool} {csm : List (Str × Const)} {a : Addr} {ccd : Value} {cl : List (Str × Addr)} {outer : List Env} {A₀ : Around} {base h₀ : Heap} {L : Addr} {m : Str → Option Value} {news : List (Addr × Obj)} {s : Shared} {Q E : Value → Shared → Prop}
  {hA dx l : Addr} {tk nn : Nat} {vs : List Value} {ps : List (Str × Str)} {x : Str} {t1 : Tok}
  (B : Below A₀ base outer h₀) (F : Fr h₀ L s.heap m) (X : (hd01.heap_39 w.params).In h₀)
  (N : News h₀ L s.heap ((hA, instObj 182 dx) :: (dx, dictOf [⟨PyData.keyHash w.params "_headers", .str "_headers" tk, .ref l⟩] 1) :: (l, listOf vs.toArray nn) :: news)) (T : Top hd01.view_39 loose mean mg mb h₀)
  (hd : dp + 6 < recursionLimit) (hu : un + 48 < cLine) (hx : okS x) (hlen : vs.length ≤ 1000) (hps : PairsIn news vs ps) (hok : ∀ p ∈ ps, okS p.1)
  (ret : ∀ (v : Value) (h' : Heap) (tk' : Nat), Fr h₀ L h' m → News h₀ L h' ((hA, instObj 182 dx) :: (dx, dictOf [⟨PyData.keyHash w.params "_headers", .str "_headers" tk, .ref l⟩] 1) :: (l, listOf vs.toArray nn) :: news) →
     (match ps.find? (fun p => lowS p.1 == lowS x) with | some p => ∃ t, v = .str p.2 t | none => v = Value.none) → Q v { s with heap := h', toks := tk' }) :
  wpAny (model PySem.Challenge.rw_sw0068_01.row.prog w) (ktrTop dp un gd cn ⟨.function, csn, csg, csc, csm⟩ L a ccd cl outer) (call (.ref 129) [.ref hA, .str x t1]) Q E s := by
  revert X; k_fill; intro X
  refine wpAny_call ?_
  k_dflt k_enter
  (k_steps; repeat' (refine Hold.off ?_; first | ((with_reducible show wpAny _ _ (exec (PySem.Stmt.For ..) _) _ _ _); (rename Fr _ _ _ _ => lF'); (with_unfolding_all refine' For_turns lF' ?_; k_whole); k_steps) | ((with_reducible show wpAny _ _ (call (Value.builtin "str.lower") [Value.str _ _]) _ _ _); refine call_lower (by assumption) ?_; (try dsimp only); k_steps) | ((with_reducible show wpAny _ _ (call (Value.ref 83) _ _) _ _ _); k_dflt (refine' conv_walk ?k1 ?k2 ?k3 ?k4 ?k5 ?kd ?ku ?kx ?_; (case k1 => k_asm); (case k2 => k_asm); (case k3 => k_asm); (case k4 => k_asm); (case k5 => k_asm); (case kd => ktr_room); (case ku => ktr_units); (case kx => first | assumption | exact okS_low (by assumption))); intro t9' h' tk' F' N'; (try dsimp only); (try k_fold); k_steps)))
  refine iter_listTurns (by rfl) (by k_asm) (by k_asm) (by k_mem) rfl rfl ?_
  intro I hI
  refine itemsRest_pure [Str.ofString "k", Str.ofString "v"] (fun i => ∀ p ∈ ps.take i, (lowS p.1 == lowS x) = false) ?turn ?done (by simp)
  case turn =>
    intro i v0 v h tk u hv0 hv hK F'
    obtain ⟨v1, hv1, rfl⟩ : ∃ v1, vs[i]? = some v1 ∧ v0 = .val v1 := by
      rw [List.getElem?_map] at hv0
      cases hq : vs[i]? with
      | none => rw [hq] at hv0; cases hv0
      | some v1 => rw [hq] at hv0; exact ⟨v1, rfl, (Option.some.inj hv0).symm⟩
    have hv' : v = v1 := hv
    subst hv'
    obtain ⟨aP, kP, xP, tA, tB, rfl, hm, hp⟩ := hps.get hv1
    have hkP : okS kP := hok _ (List.mem_of_getElem? hp)
    refine AllObj.cons fun oI hcI => AllObj.nil fun N' => ?_
    have N2 := news_more (x := (aP, pairObj kP xP tA tB)) N' (by simp [hm])
    clear N'
    (k_steps; repeat' (refine Hold.off ?_; first | ((with_reducible show wpAny _ _ (exec (PySem.Stmt.For ..) _) _ _ _); (rename Fr _ _ _ _ => lF'); (with_unfolding_all refine' For_turns lF' ?_; k_whole); k_steps) | ((with_reducible show wpAny _ _ (call (Value.builtin "str.lower") [Value.str _ _]) _ _ _); refine call_lower (by assumption) ?_; (try dsimp only); k_steps) | ((with_reducible show wpAny _ _ (call (Value.ref 83) _ _) _ _ _); k_dflt (refine' conv_walk ?k1 ?k2 ?k3 ?k4 ?k5 ?kd ?ku ?kx ?_; (case k1 => k_asm); (case k2 => k_asm); (case k3 => k_asm); (case k4 => k_asm); (case k5 => k_asm); (case kd => ktr_room); (case ku => ktr_units); (case kx => first | assumption | exact okS_low (by assumption))); intro t9' h' tk' F' N'; (try dsimp only); (try k_fold); k_steps)))
    · exact ret _ _ _ (by k_asm) (cb_drop (by assumption) (by kcf_all)) (by rw [find_at hp hK (by assumption)]; exact ⟨_, rfl⟩)
    · refine unrEnd1 (by k_asm) (by assumption) (by kcf_all) hI ⟨⟨by simp, trivial⟩, rfl, ?_, all_take_succ hp hK (by assumption)⟩
      intro z hz
      have hz' : z ≠ Str.ofString "k" ∧ z ≠ Str.ofString "v" := by simpa using hz
      simp [hz'.1, hz'.2]
  case done =>
    intro h tk u hK F' N'
    (k_steps; repeat' (refine Hold.off ?_; first | ((with_reducible show wpAny _ _ (exec (PySem.Stmt.For ..) _) _ _ _); (rename Fr _ _ _ _ => lF'); (with_unfolding_all refine' For_turns lF' ?_; k_whole); k_steps) | ((with_reducible show wpAny _ _ (call (Value.builtin "str.lower") [Value.str _ _]) _ _ _); refine call_lower (by assumption) ?_; (try dsimp only); k_steps) | ((with_reducible show wpAny _ _ (call (Value.ref 83) _ _) _ _ _); k_dflt (refine' conv_walk ?k1 ?k2 ?k3 ?k4 ?k5 ?kd ?ku ?kx ?_; (case k1 => k_asm); (case k2 => k_asm); (case k3 => k_asm); (case k4 => k_asm); (case k5 => k_asm); (case kd => ktr_room); (case ku => ktr_units); (case kx => first | assumption | exact okS_low (by assumption))); intro t9' h' tk' F' N'; (try dsimp only); (try k_fold); k_steps)))
    exact ret _ _ _ (by k_asm) (cb_drop (by assumption) (by kcf_all)) (by rw [find_none (by simp [hps.length]) hK])
end Mine
end
section
namespace Mine
open PySem PySem.Calls PySem.Builtin PyProof.Rows PySem.W
theorem mapSeq_to {f : Array Value → Array Value} {its new : Array Value} {n : Nat} (hf : f its = new) : ∃ n', Obj.mapSeq f (listOf its n) = listOf new n' := by
  subst hf
  exact ⟨_, rfl⟩
section
variable {prog : Program} {w : World} {A : Around} {E : Value → Shared → Prop} {s : Shared} {h₀ : Heap} {L : Addr} {m : Str → Option Value}
theorem setslice_all {l I D : Addr} {old new : Array Value} {n k : Nat} {Q : Unit → Shared → Prop} (hl : s.heap.get? l = some (listOf old n)) (hI : s.heap.IsSliceOf I .none .none .none) (hD : s.heap.get? D = some (listOf new k)) (hne : l ≠ D)
    (ho : old.size ≤ 1000) (hn : new.size ≤ 1000)
    (hQ : ∀ h' n', h'.get? l = some (listOf new n') → Heap.SameBut l s.heap h' → Q () { s with heap := h' }) :
    wpAny (model prog w) A (setItem (.ref l) (.ref I) (.ref D)) Q E s := by
  have hT : s.TypeIs (.ref l) "list" := ⟨_, hl, rfl⟩
  obtain ⟨oI, hoI, hcI, hdI⟩ := hI
  have hTI : s.TypeIs (.ref I) "slice" := ⟨_, hoI, hcI⟩
  have hTD : s.TypeIs (.ref D) "list" := ⟨_, hD, rfl⟩
  unfold setItem
  try with_reducible refine wpAny_holding ?_
  first | refine wpAny_bind (wpAny_pure ?_) | skip
  refine wpAny_bind (wpAny_sequenceKey hT (by decide) ?_)
  refine wpAny_bind (wpAny_callSpecial?_slot (name := Str.ofString "__setitem__") hT F.slot_list_setitem
    (wpAny_call_entry F.slot_list_setitem hT F.entry_list_setitem ?_ (F.args_list_setitem_3 _ _ _)))
  unfold Builtin.«list.__setitem__»
  refine wpAny_bind (m := List.listBlankSlotArgs _ _ _) (wpAny_pure ?_)
  dsimp only
  unfold List.listSubscript?
  refine wpAny_bind (wpAny_bind (wpAny_specialOf hTI slice_no_index ?_))
  simp only [Option.isNone_none, if_true]
  refine wpAny_pure ?_
  dsimp only
  refine wpAny_bind (wpAny_typeOf hTI ?_)
  rw [if_neg (by decide)]
  have hf : ∀ i x, (#[Value.none, .none, .none] : Array Value)[i]? = some x → ∀ {R : Value → Shared → Prop}, R x s → wpAny (model prog w) A.in1 (field (.ref I) i) R E s := fun i x hi R hR => wpAny_field hoI hdI hi hR
  rw [listSliceParts_eq]
  refine wpAny_bind (wpAny_bind (hf 2 .none rfl (wpAny_bind (wpAny_listPart .none ?_))))
  rw [if_neg (by decide)]
  refine wpAny_bind (hf 0 .none rfl (wpAny_bind (wpAny_listPart .none ?_)))
  refine wpAny_bind (hf 1 .none rfl (wpAny_bind (wpAny_listPart .none (wpAny_pure ?_))))
  dsimp only
  rw [if_neg (by show ¬ ((l == D) = true); simpa using hne)]
  unfold List.listAllItems
  refine wpAny_bind (wpAny_bind (wpAny_typeOf hTD ?_))
  rw [if_pos (by decide)]
  have items : ∀ {a : Addr} {xs : Array Value} {j : Nat} {R : Array Value → Shared → Prop}, s.heap.get? a = some (listOf xs j) → R xs s → wpAny (model prog w) A.in1 (List.listItems (.ref a)) R E s := fun {a xs j R} ha hR => by
    unfold List.listItems
    exact wpAny_bind (wpAny_seqItems ha rfl (wpAny_pure hR))
  refine wpAny_bind (wpAny_seqItems hD rfl (wpAny_pure ?_))
  refine wpAny_bind (items hl ?_)
  have e := sliceIndices_raw none none none old.size (by simp)
  have e' : sliceIndices .none .none .none old.size = pure (0, (old.size : Int), 1) := e
  show wpAny _ _ (sliceIndices (rawPart none) (rawPart none) (rawPart none) old.size >>= _) _ _ _
  rw [e]
  refine wpAny_bind (wpAny_pure ?_)
  show wpAny _ _ (if ((1 : Int) == 1) = true then _ else _) _ _ _
  rw [if_pos (by decide)]
  refine wpAny_bind (wpAny_rule ?_)
  rw [if_neg (by unfold List.listTooLong; rw [sizeLine_eq]; simp; omega)]
  have ef : (fun xs : Array Value => xs.extract 0 (Int.toNat 0) ++ new ++ xs.extract (max (0 : Int) (old.size : Int)).toNat xs.size) old = new := by
    have h0 : (max (0 : Int) (old.size : Int)).toNat = old.size := by omega
    simp [h0]
  refine wpAny_bind (m := updateSeq l _) (wpAny_updateSeq hl rfl ?_ (by rw [sizeLine_eq]; omega) (by
    show ((fun xs : Array Value => xs.extract 0 (Int.toNat 0) ++ new ++ xs.extract (max (0 : Int) (old.size : Int)).toNat xs.size) old).size ≤ _
    rw [ef, sizeLine_eq]; omega))
  refine wpAny_bind (wpAny_letGo (wpAny_pure ⟨.none, rfl, ?_⟩))
  obtain ⟨n', hm⟩ := mapSeq_to (f := fun xs : Array Value => xs.extract 0 (Int.toNat 0) ++ new ++ xs.extract (max (0 : Int) (old.size : Int)).toNat xs.size) (its := old) (n := n) ef
  refine wpAny_pure (hQ _ n' ?_ (Heap.SameBut.update ..))
  exact (Heap.get?_update_self _ hl (by show (Obj.mapSeq _ (listOf old n)).isFreed = false; exact (congrArg Obj.isFreed hm).trans rfl)).trans (congrArg some hm)
theorem setslice_K {l D : Addr} {old new : Array Value} {n k : Nat} {news : List (Addr × Obj)} {news' : Nat → List (Addr × Obj)} {Q : Unit → Shared → Prop} {hp : Heap} {g : Array GenState} {d : Drawn} {tk : Nat} {os : OsState}
    (F : Fr h₀ L hp m) (N : News h₀ L hp news) (hD : (D, listOf new k) ∈ news) (hne : l ≠ D) (U : ∀ n', Upd l (listOf old n) (listOf new n') news (news' n'))
    (ho : old.size ≤ 1000) (hn : new.size ≤ 1000)
    (h : ∀ h' n', Fr h₀ L h' m → News h₀ L h' (news' n') → Q () ⟨h', g, d, tk, os⟩) :
    wpAny (model prog w) A (setItem (.ref l) (.ref hp.objs.size) (.ref D)) Q E ⟨hp.push { cls := .type "slice", data := .fields #[.none, .none, .none] }, g, d, tk, os⟩ := by
  obtain ⟨pre, post, hnews, _, a, b⟩ := (U 0).split
  have z := N (l, listOf old n) (by rw [hnews]; exact List.mem_append.mpr (.inr (.head _)))
  have up : ∀ b o, hp.get? b = some o → (hp.push { cls := .type "slice", data := .fields #[.none, .none, .none] }).get? b = some o := fun b o e => Heap.get?_push_of_some _ e
  refine setslice_all (up _ _ z.1) (Heap.IsSliceOf.new ..) (up _ _ (N _ hD).1) hne ho hn fun h' n' hl hs => ?_
  obtain ⟨pre, post, rfl, hnew, a, b⟩ := (U n').split
  have F1 : Fr h₀ L (hp.push { cls := .type "slice", data := .fields #[.none, .none, .none] }) m := F.push _
  have N1 : News h₀ L (hp.push { cls := .type "slice", data := .fields #[.none, .none, .none] }) (pre ++ (l, listOf old n) :: post) := fun p hp => ⟨up _ _ (N p hp).1, (N p hp).2⟩
  refine h h' n' (F1.change hs z.2.1 z.2.2) ?_
  rw [hnew]
  exact news_set N1 a b hs hl
end
end Mine
namespace Mine
open PySem PySem.Calls PyProof.Rows PySem.W
theorem delItem_own {M : Model} {A : Around} {E : Value → Shared → Prop} {s : Shared} {K : Frag} {x C L f : Addr} {h₀ : Heap} {m : Str → Option Value} {ox : Obj} {od : Option Obj} {i : Value} {Q : Unit → Shared → Prop}
    (F : Fr h₀ L s.heap m) (X₀ : K.In h₀) (I : InstAt s.heap x ox C od) (hq : noSeq K C = true) (hs : findIn K (.ref C) "__delitem__" = some (some (.ref f))) (hf : isFn K (.ref f) = true)
    (h : wpAny M A (call (.ref f) [.ref x, i]) (fun _ s' => Q () s') E s) : wpAny M A (delItem (.ref x) i) Q E s := by
  have X := X₀.keeps F.keep
  unfold delItem sequenceKey
  refine wpAny_holding (wpAny_bind (wpAny_bind (I.type.here ?_)))
  refine wpAny_bind ((anyM_none X hq).here ?_)
  rw [if_pos (show (!false) = true from rfl)]
  exact wpAny_pure (wpAny_bind (special_fn X I hs (beq_iff_eq.mp hf) (wpAny_mono h (fun _ _ z => wpAny_pure z) fun _ _ z => z)))
end Mine
end
section
open PySem PySem.W PyProof.Rows PySem.Calls
namespace Mine
local macro_rules | `(tactic| walk_at "call ref") => `(tactic| (k_here; refine Hold.on ?_))
local macro_rules | `(tactic| walk_at "call builtin:str.lower") => `(tactic| (k_here; refine Hold.on ?_))
local macro_rules | `(tactic| k_all) => `(tactic| first | exact allLt_ne (by assumption) (by omega) | assumption)
local macro_rules | `(tactic| walk_at "eval ListComp") => `(tactic| (k_here; refine Hold.on ?_))
theorem del_walk {w : World} {loose : List Str} {mean : ExcName → Option Value} {mg mb : Str → Option Value}
  {dp un : Nat} {gd : Option (List Code)} {cn : Str} {csn : List (Str × NameKind)} {csg csc : Bool} {csm : List (Str × Const)} {a : Addr} {ccd : Value} {cl : List (Str × Addr)} {outer : List Env} {A₀ : Around} {base h₀ : Heap} {L : Addr} {m : Str → Option Value} {news : List (Addr × Obj)} {s : Shared} {Q E : Value → Shared → Prop}
  {hA dx l : Addr} {tk nn : Nat} {vs : List Value} {ps : List (Str × Str)} {x : Str} {t1 : Tok}
  (B : Below A₀ base outer h₀) (F : Fr h₀ L s.heap m) (X : (hd01.heap_39 w.params).In h₀)
  (N : News h₀ L s.heap ((hA, instObj 182 dx) :: (dx, dictOf [⟨PyData.keyHash w.params "_headers", .str "_headers" tk, .ref l⟩] 1) :: (l, listOf vs.toArray nn) :: news)) (T : Top hd01.view_39 loose mean mg mb h₀)
  (hd : dp + 6 < recursionLimit) (hu : un + 48 < cLine) (hx : okS x) (ne1 : hA ≠ l) (ne2 : dx ≠ l) (hoff : ∀ p ∈ news, p.1 ≠ l) (hlen : vs.length ≤ 1000) (hps : PairsIn news vs ps) (hok : ∀ p ∈ ps, okS p.1)
  (ret : ∀ (vs' : List Value) (nn' : Nat) (h' : Heap) (tk' : Nat), Fr h₀ L h' m → News h₀ L h' ((hA, instObj 182 dx) :: (dx, dictOf [⟨PyData.keyHash w.params "_headers", .str "_headers" tk, .ref l⟩] 1) :: (l, listOf vs'.toArray nn') :: news) →
     PairsIn news vs' (ps.filter fun p => lowS p.1 != lowS x) → Q .none { s with heap := h', toks := tk' }) :
  wpAny (model PySem.Challenge.rw_sw0068_01.row.prog w) (ktrTop dp un gd cn ⟨.function, csn, csg, csc, csm⟩ L a ccd cl outer) (call (.ref 102) [.ref hA, .str x t1]) Q E s := by
  revert X; k_fill; intro X
  refine wpAny_call ?_
  k_dflt k_enter
  (rename hA < _ ∧ _ => l1)
  have al1 := l1.2.2.2
  (k_steps; repeat' (refine Hold.off ?_; first | (lct_look; k_dflt (refine LCt.ListComp_T (F₀ := by k_asm) (by with_unfolding_all rfl) (by decide) (by rfl) (by decide) (by rfl) ?_); k_steps) | ((with_reducible show wpAny _ _ (call (Value.builtin "str.lower") [Value.str _ _]) _ _ _); refine call_lower (by assumption) ?_; (try dsimp only); k_steps) | ((with_reducible show wpAny _ _ (call (Value.ref 83) _ _) _ _ _); k_dflt (refine' conv_walk ?k1 ?k2 ?k3 ?k4 ?k5 ?kd ?ku ?kx ?_; (case k1 => k_asm); (case k2 => k_asm); (case k3 => k_asm); (case k4 => k_asm); (case k5 => k_asm); (case kd => ktr_room); (case ku => ktr_units); (case kx => first | assumption | exact okS_low (by assumption))); intro t9' h' tk' F' N'; (try dsimp only); (try k_fold); k_steps)))
  refine LCt.CompSrcT.ledger (by rfl) (by k_asm) (by k_asm) (by k_mem) (by rw [sizeLine_eq]; simp only [List.size_toArray]; omega) ?_
  intro g'
  refine restT_of (J := fun i ys => PairsIn news ys ((ps.take i).filter fun p => lowS p.1 != lowS x)) ?fin ?turn _ _ _ (Nat.zero_add _) .nil
  case turn =>
    intro i v ys I oI C oC D m₂ h tk E' hi hv hJ hC' hx' F' N' off' ne'
    obtain ⟨aP, kP, xP, tA, tB, rfl, hm, hp⟩ := hps.get (by simpa using hv)
    have hkP : okS kP := hok _ (List.mem_of_getElem? hp)
    have N2 := news_more (x := (aP, pairObj kP xP tA tB)) N' (by simp [hm])
    clear N'
    (k_steps; repeat' (refine Hold.off ?_; first | (lct_look; k_dflt (refine LCt.ListComp_T (F₀ := by k_asm) (by with_unfolding_all rfl) (by decide) (by rfl) (by decide) (by rfl) ?_); k_steps) | ((with_reducible show wpAny _ _ (call (Value.builtin "str.lower") [Value.str _ _]) _ _ _); refine call_lower (by assumption) ?_; (try dsimp only); k_steps) | ((with_reducible show wpAny _ _ (call (Value.ref 83) _ _) _ _ _); k_dflt (refine' conv_walk ?k1 ?k2 ?k3 ?k4 ?k5 ?kd ?ku ?kx ?_; (case k1 => k_asm); (case k2 => k_asm); (case k3 => k_asm); (case k4 => k_asm); (case k5 => k_asm); (case kd => ktr_room); (case ku => ktr_units); (case kx => first | assumption | exact okS_low (by assumption))); intro t9' h' tk' F' N'; (try dsimp only); (try k_fold); k_steps)))
    all_goals (refine LCg.CompEnd.intro (by k_asm) (by assumption) _ (by kcf_all) off' (.inr ⟨_, by k_mem, rfl, _, rfl⟩) ⟨rfl, ?_⟩)
    · exact pairs_take_pos hJ hp hm (by assumption)
    · exact pairs_take_neg hJ hp (by assumption)
  case fin =>
    intro ys hJ
    rw [List.take_of_length_le (by simp only [List.size_toArray]; exact Nat.le_of_eq hps.length.symm)] at hJ
    have hlen' : ys.length ≤ 1000 := by rw [hJ.length]; exact Nat.le_trans (List.length_filter_le _ _) (by rw [← hps.length]; exact hlen)
    (k_steps; repeat' (refine Hold.off ?_; first | (lct_look; k_dflt (refine LCt.ListComp_T (F₀ := by k_asm) (by with_unfolding_all rfl) (by decide) (by rfl) (by decide) (by rfl) ?_); k_steps) | ((with_reducible show wpAny _ _ (call (Value.builtin "str.lower") [Value.str _ _]) _ _ _); refine call_lower (by assumption) ?_; (try dsimp only); k_steps) | ((with_reducible show wpAny _ _ (call (Value.ref 83) _ _) _ _ _); k_dflt (refine' conv_walk ?k1 ?k2 ?k3 ?k4 ?k5 ?kd ?ku ?kx ?_; (case k1 => k_asm); (case k2 => k_asm); (case k3 => k_asm); (case k4 => k_asm); (case k5 => k_asm); (case kd => ktr_room); (case ku => ktr_units); (case kx => first | assumption | exact okS_low (by assumption))); intro t9' h' tk' F' N'; (try dsimp only); (try k_fold); k_steps)))
    refine' setslice_K ?F ?N ?D ?ne ?U ?o ?n ?_
    case F => k_asm
    case N => k_asm
    case D => k_mem
    case ne => k_ne
    case U => exact fun n' => by k_upd
    case o => simpa using hlen
    case n => simpa using hlen'
    intro h9 n9 F' N'
    (k_steps; repeat' (refine Hold.off ?_; first | (lct_look; k_dflt (refine LCt.ListComp_T (F₀ := by k_asm) (by with_unfolding_all rfl) (by decide) (by rfl) (by decide) (by rfl) ?_); k_steps) | ((with_reducible show wpAny _ _ (call (Value.builtin "str.lower") [Value.str _ _]) _ _ _); refine call_lower (by assumption) ?_; (try dsimp only); k_steps) | ((with_reducible show wpAny _ _ (call (Value.ref 83) _ _) _ _ _); k_dflt (refine' conv_walk ?k1 ?k2 ?k3 ?k4 ?k5 ?kd ?ku ?kx ?_; (case k1 => k_asm); (case k2 => k_asm); (case k3 => k_asm); (case k4 => k_asm); (case k5 => k_asm); (case kd => ktr_room); (case ku => ktr_units); (case kx => first | assumption | exact okS_low (by assumption))); intro t9' h' tk' F' N'; (try dsimp only); (try k_fold); k_steps)))
    all_goals exact ret _ _ _ _ (by k_asm) (cb_drop (by assumption) (by kcf_all)) hJ
end Mine
end
section
open PySem PySem.W PyProof.Rows PySem.Calls
namespace Mine
local macro_rules | `(tactic| k_all) => `(tactic| first | exact allLt_ne (by assumption) (by omega) | assumption)
local macro_rules | `(tactic| walk_at "call ref") => `(tactic| (k_here; refine Hold.on ?_))
local macro_rules | `(tactic| walk_at "call builtin:list.append") => `(tactic| (k_here; refine Hold.on ?_))
local macro_rules | `(tactic| walk_at "delItem ref") => `(tactic| (k_here; refine Hold.on ?_))
local macro_rules | `(tactic| walk_at "no such key") => `(tactic| (k_here; refine Hold.on ?_))

theorem set_walk {w : World} {loose : List Str} {mean : ExcName → Option Value} {mg mb : Str → Option Value}
  {dp un : Nat} {gd : Option (List Code)} {cn : Str} {csn : List (Str × NameKind)} {csg csc : Bool} {csm : List (Str × Const)} {a : Addr} {ccd : Value} {cl : List (Str × Addr)} {outer : List Env} {A₀ : Around} {base h₀ : Heap} {L : Addr} {m : Str → Option Value} {news : List (Addr × Obj)} {s : Shared} {Q E : Value → Shared → Prop}
  {hA dx l : Addr} {tk nn : Nat} {vs : List Value} {ps : List (Str × Str)} {x y : Str} {t1 t2 : Tok}
  (B : Below A₀ base outer h₀) (F : Fr h₀ L s.heap m) (X : (hd01.heap_39 w.params).In h₀)
  (N : News h₀ L s.heap ((hA, instObj 182 dx) :: (dx, dictOf [⟨PyData.keyHash w.params "_headers", .str "_headers" tk, .ref l⟩] 1) :: (l, listOf vs.toArray nn) :: news)) (T : Top hd01.view_39 loose mean mg mb h₀)
  (hd : dp + 12 < recursionLimit) (hu : un + 96 < cLine) (hx : okS x) (hy : okS y) (ne1 : hA ≠ l) (ne2 : dx ≠ l) (hoff : ∀ p ∈ news, p.1 ≠ l) (hlen : vs.length ≤ 1000) (hps : PairsIn news vs ps) (hok : ∀ p ∈ ps, okS p.1)
  (ret : ∀ (T : Addr) (t1 t2 : Tok) (vs' : List Value) (nn' : Nat) (h' : Heap) (tk' : Nat), Fr h₀ L h' m → News h₀ L h' ((T, pairObj x y t1 t2) :: (hA, instObj 182 dx) :: (dx, dictOf [⟨PyData.keyHash w.params "_headers", .str "_headers" tk, .ref l⟩] 1) :: (l, listOf (vs'.toArray.push (Value.ref T)) nn') :: news) →
     PairsIn news vs' (ps.filter fun p => lowS p.1 != lowS x) → Q .none { s with heap := h', toks := tk' }) :
  wpAny (model PySem.Challenge.rw_sw0068_01.row.prog w) (ktrTop dp un gd cn ⟨.function, csn, csg, csc, csm⟩ L a ccd cl outer) (call (.ref 97) [.ref hA, .str x t1, .str y t2]) Q E s := by
  revert X; k_fill; intro X
  refine wpAny_call ?_
  k_dflt k_enter
  (k_steps; repeat' (refine Hold.off ?_; first | ((with_reducible show wpAny _ _ (delItem (Value.ref _) _) _ _ _); k_dflt (refine' delItem_own ?k1 ?k2 ?k3 ?k4 ?k5 ?k6 ?_; (case k1 => k_asm); (case k2 => k_asm); (case k3 => k_inst); (case k4 => k_is); (case k5 => k_is); (case k6 => k_is); k_whole); k_steps) | ((with_reducible show wpAny _ _ (call (Value.builtin _) [Value.ref _, _]) _ _ _); k_dflt (refine' append_K ?k1 ?k2 ?k3 ?_ ?z; (case k1 => k_asm); (case k2 => k_asm); (case k3 => k_upd); (case z => (simp only [List.size_toArray, sizeLine_eq]; omega)); k_whole); intro h' F' N'; (try k_sweep); k_steps) | ((with_reducible show wpAny _ _ (call (Value.ref 102) _ _) _ _ _); k_dflt (refine' del_walk ?k1 ?k2 ?k3 ?k4 ?k5 ?kd ?ku ?kx ?n1 ?n2 ?ho ?hl ?hp ?hk ?_; (case k1 => k_asm); (case k2 => k_asm); (case k3 => k_asm); (case k4 => k_asm); (case k5 => k_asm); (case kd => ktr_room); (case ku => ktr_units); (case kx => assumption); (case n1 => assumption); (case n2 => assumption); (case ho => assumption); (case hl => assumption); (case hp => assumption); (case hk => assumption)); intro vs9' nn9' h' tk' F' N' hps9'; (have hl9' := pairs_len9 hps9' (by assumption) (by assumption)); (try dsimp only); (try k_fold); k_steps) | ((with_reducible show wpAny _ _ (call (Value.ref 83) _ _) _ _ _); k_dflt (refine' conv_walk ?k1 ?k2 ?k3 ?k4 ?k5 ?kd ?ku ?kx ?_; (case k1 => k_asm); (case k2 => k_asm); (case k3 => k_asm); (case k4 => k_asm); (case k5 => k_asm); (case kd => ktr_room); (case ku => ktr_units); (case kx => first | assumption | exact okS_low (by assumption))); intro t9' h' tk' F' N'; (try dsimp only); (try k_fold); k_steps)))
  trace_state
  all_goals exact ret _ _ _ _ _ _ _ (by k_asm) (cb_drop (by assumption) (by kcf_all)) (by assumption)
end Mine
end
section
open PySem PySem.W PyProof.Rows PySem.Calls
namespace Mine
local macro_rules | `(tactic| walk_at "exec For Name Call cons nil") => `(tactic| (k_here; refine Hold.on ?_))
local macro_rules | `(tactic| walk_at "pyIter ref") => `(tactic| (refine Hold.on ?_))
local macro_rules | `(tactic| kpf_c) => `(tactic| first | with_reducible assumption | with_reducible exact List.mem_cons_self | (with_reducible refine List.mem_cons_of_mem _ ?_; kpf_c) | (refine List.mem_append_left _ ?_; kpf_c) | (refine List.mem_append_right _ ?_; kpf_c))
local macro_rules | `(tactic| kpf_close) => `(tactic| first | exact List.forall_mem_nil _ | (with_reducible refine List.forall_mem_cons.mpr ⟨?_, ?_⟩; (focus kpf_c); kpf_close) | (refine List.forall_mem_append.mpr ⟨?_, ?_⟩; (focus kpf_close); kpf_close) | (intro p hp; kpf_c))
local macro_rules | `(tactic| k_all) => `(tactic| with_reducible assumption)
local macro_rules | `(tactic| walk_at "call ref") => `(tactic| (k_here; refine Hold.on ?_))
local macro_rules | `(tactic| walk_at "call builtin:list.append") => `(tactic| (k_here; refine Hold.on ?_))
local macro_rules | `(tactic| walk_at "call builtin:str.lower") => `(tactic| (k_here; refine Hold.on ?_))

noncomputable abbrev hdrO (w : World) (hA dx l : Addr) (tk : Nat) (vs : List Value) (nn : Nat) (r : List (Addr × Obj)) : List (Addr × Obj) :=
  (hA, instObj 182 dx) :: (dx, dictOf [⟨PyData.keyHash w.params "_headers", .str "_headers" tk, .ref l⟩] 1) :: (l, listOf vs.toArray nn) :: r

theorem pairs_tail {w : World} {aA bA bdx bl tb bn an D kD : Nat} {avs bvs ys : List Value} {I : Addr} {oI : Obj} {own news : List (Addr × Obj)} {vs : List Value} {ps : List (Str × Str)} (hcI : oI.cls = .type "list_iterator")
    (h : PairsIn ((aA, listOf avs.toArray an) :: hdrO w bA bdx bl tb bvs bn ((I, oI) :: (own ++ (D, listOf ys.toArray kD) :: news))) vs ps) : PairsIn (own ++ news) vs ps := by
  refine h.sub fun p hp hc => ?_
  unfold hdrO at hp
  simp only [List.mem_cons, List.mem_append] at hp ⊢
  rcases hp with rfl | rfl | rfl | rfl | rfl | hp | rfl | hp
  · exact absurd hc (by show Value.type "list" ≠ Value.type "tuple"; decide)
  · cases hc
  · exact absurd hc (by show Value.type "dict" ≠ Value.type "tuple"; decide)
  · exact absurd hc (by show Value.type "list" ≠ Value.type "tuple"; decide)
  · exact absurd hc (by rw [hcI]; show ¬ (Value.type "list_iterator" = Value.type "tuple"); decide)
  · exact .inl hp
  · exact absurd hc (by show Value.type "list" ≠ Value.type "tuple"; decide)
  · exact .inr hp
theorem seat_walk (n : Nat) : ∀ {w : World} {loose : List Str} {mean : ExcName → Option Value} {mg mb : Str → Option Value}
  {dp un : Nat} {gd : Option (List Code)} {cn : Str} {csn : List (Str × NameKind)} {csg csc : Bool} {csm : List (Str × Const)} {a : Addr} {ccd : Value} {cl : List (Str × Addr)} {outer : List Env} {A₀ : Around} {base h₀ : Heap} {L : Addr} {m : Str → Option Value} {news : List (Addr × Obj)} {s : Shared} {Q E : Value → Shared → Prop}
  {mA mdx ml aA bA bdx bl : Addr} {tm tb mn an bn : Nat} {mvs avs bvs : List Value} {ms ps : List (Str × Str)} {asked S : List Str} {row : Str} {t1 : Tok}
  (_B : Below A₀ base outer h₀) (_F : Fr h₀ L s.heap m) (_X : (hd01.heap_39 w.params).In h₀)
  (_N : News h₀ L s.heap (hdrO w mA mdx ml tm mvs mn ((aA, listOf avs.toArray an) :: hdrO w bA bdx bl tb bvs bn news))) (_T : Top hd01.view_39 loose mean mg mb h₀)
  (_hd : dp + 16 * n + 20 < recursionLimit) (_hu : un + 100 * n + 200 < cLine)
  (_hrow : okS row) (_hb : PairsIn news bvs ps) (_hm : PairsIn news mvs ms) (_hpok : ∀ p ∈ ps, okS p.1 ∧ okS p.2 ∧ p.2 ∈ S) (_ha : StrsAre avs asked)
  (_hOk : SeatOk S ms asked) (_hSl : S.length ≤ 5) (_hn : 6 ≤ asked.length + n) (_hml : ms.length + n ≤ 100) (_hbl : ps.length ≤ 100)
  (_e1 : @Ne Nat mA ml) (_e2 : @Ne Nat mdx ml) (_e3 : @Ne Nat aA ml) (_e4 : @Ne Nat bA ml) (_e5 : @Ne Nat bdx ml) (_e6 : @Ne Nat bl ml) (_e7 : @Ne Nat mA aA) (_e8 : @Ne Nat mdx aA) (_e9 : @Ne Nat bA aA) (_e10 : @Ne Nat bdx aA) (_e11 : @Ne Nat bl aA) (_o1 : ∀ p ∈ news, @Ne Nat p.1 ml) (_o2 : ∀ p ∈ news, @Ne Nat p.1 aA)
  (_ret : ∀ (mvs' avs' : List Value) (mn' an' : Nat) (own : List (Addr × Obj)) (h' : Heap) (tk' : Nat), Fr h₀ L h' m → News h₀ L h' (hdrO w mA mdx ml tm mvs' mn' ((aA, listOf avs'.toArray an') :: hdrO w bA bdx bl tb bvs bn (own ++ news))) → (∀ p ∈ own, p.2.cls = .type "tuple") →
     PairsIn (own ++ news) mvs' (seatF ps n ms row asked).2.1 → StrsAre avs' (seatF ps n ms row asked).2.2 →
     Q (.bool (seatF ps n ms row asked).1) { s with heap := h', toks := tk' }),
  wpAny (model PySem.Challenge.rw_sw0068_01.row.prog w) (ktrTop dp un gd cn ⟨.function, csn, csg, csc, csm⟩ L a ccd cl outer) (call (.ref 226) [.ref bA, .ref mA, .str row t1, .ref aA]) Q E s := by
  induction n with
  | zero =>
    intro w loose mean mg mb dp un gd cn csn csg csc csm a ccd cl outer A₀ base h₀ L m news s Q E mA mdx ml aA bA bdx bl tm tb mn an bn mvs avs bvs ms ps asked S row t1 B F X N T hd hu hrow hb hm hpok ha hOk hSl hn hml hbl
    have := hOk.len
    omega
  | succ n ih =>
    intro w loose mean mg mb dp un gd cn csn csg csc csm a ccd cl outer A₀ base h₀ L m news s Q E mA mdx ml aA bA bdx bl tm tb mn an bn mvs avs bvs ms ps asked S row t1 B F X N T hd hu hrow hb hm hpok ha hOk hSl hn hml hbl e1 e2 e3 e4 e5 e6 e7 e8 e9 e10 e11 o1 o2 ret
    unfold hdrO at N ret
    revert X; k_fill; intro X
    refine wpAny_call ?_
    k_dflt k_enter
    (k_steps; repeat' (refine Hold.off ?_; first | ((with_reducible show wpAny _ _ (call (Value.builtin "str.lower") [Value.str _ _]) _ _ _); refine call_lower (by assumption) ?_; (try dsimp only); k_steps) | ((with_reducible show wpAny _ _ (call (Value.builtin "list.append") [Value.ref _, _]) _ _ _); (with_unfolding_all refine' append_K ?apF ?apN ?apU ?_ ?apz; (case apF => k_asm); (case apN => k_asm); (case apU => k_upd); (case apz => rw [sizeLine_eq]; simp only [List.size_toArray]; omega)); intro h' F' N'; (try k_sweep); k_steps) | ((with_reducible show wpAny _ _ (exec (PySem.Stmt.For ..) _) _ _ _); (rename Fr _ _ _ _ => lF'); (with_unfolding_all refine' For_turns lF' ?_; k_whole); k_steps)))
    refine Hold.off ?_
    (with_reducible rename News _ _ _ _ => N1)
    have N2 := cb_drop (news := hdrO w bA bdx bl tb bvs bn ((mA, instObj 182 mdx) :: (mdx, dictOf [⟨PyData.keyHash w.params "_headers", .str "_headers" tm, .ref ml⟩] 1) :: (ml, listOf mvs.toArray mn) :: (aA, listOf avs.toArray an) :: news)) N1 (by unfold hdrO; kcf_all)
    clear N1
    unfold hdrO at N2
    k_dflt (refine' get_all_walk (ps := ps) ?gak1 ?gak2 ?gak3 N2 ?gak5 ?gad ?gau ?gax ?gal ?gap ?gao ?_; (case gak1 => k_asm); (case gak2 => k_asm); (case gak3 => k_asm); (case gak5 => k_asm); (case gad => ktr_room); (case gau => ktr_units); (case gax => exact hrow); (case gal => rw [hb.length]; omega); (case gap => exact hb.mono (by kcf_all)); (case gao => exact fun p hp => (hpok p hp).1))
    clear N2
    intro D ys kD h1 tk1 F1 N1 hys hD
    (try dsimp only)
    (k_steps; repeat' (refine Hold.off ?_; first | ((with_reducible show wpAny _ _ (call (Value.builtin "str.lower") [Value.str _ _]) _ _ _); refine call_lower (by assumption) ?_; (try dsimp only); k_steps) | ((with_reducible show wpAny _ _ (call (Value.builtin "list.append") [Value.ref _, _]) _ _ _); (with_unfolding_all refine' append_K ?apF ?apN ?apU ?_ ?apz; (case apF => k_asm); (case apN => k_asm); (case apU => k_upd); (case apz => rw [sizeLine_eq]; simp only [List.size_toArray]; omega)); intro h' F' N'; (try k_sweep); k_steps) | ((with_reducible show wpAny _ _ (exec (PySem.Stmt.For ..) _) _ _ _); (rename Fr _ _ _ _ => lF'); (with_unfolding_all refine' For_turns lF' ?_; k_whole); k_steps)))
    refine Hold.off ?_
    have hkeep := seatF_keep (S := S) (ps := ps) (fun p hp => (hpok p hp).2)
    have N2 := cb_drop (news := hdrO w mA mdx ml tm mvs mn ((aA, listOf avs.toArray an) :: hdrO w bA bdx bl tb bvs bn ([] ++ (D, listOf ys.toArray kD) :: news))) N1 (by unfold hdrO; dsimp only [List.nil_append]; kcf_all)
    refine iter_listTurns (lo := listOf ys.toArray kD) (by rfl) (by k_asm) N2 (by unfold hdrO; dsimp only [List.nil_append]; k_mem) rfl rfl ?_
    intro I hI
    clear N1 N2
    have hDml : @Ne Nat D ml := fun e => hD (ml, listOf mvs.toArray mn) (by simp) e.symm
    have hDaA : @Ne Nat D aA := fun e => hD (aA, listOf avs.toArray an) (by simp) e.symm
    have hIml : @LT.lt Nat _ ml I := hI (ml, listOf mvs.toArray mn) (by kpf_c)
    have hIaA : @LT.lt Nat _ aA I := hI (aA, listOf avs.toArray an) (by kpf_c)
    have hImA : @LT.lt Nat _ mA I := hI (mA, _) (.head _)
    have hImd : @LT.lt Nat _ mdx I := hI (mdx, _) (.tail _ (.head _))
    have hIbA : @LT.lt Nat _ bA I := hI (bA, _) (.tail _ (.tail _ (.tail _ (.tail _ (.head _)))))
    have hIbd : @LT.lt Nat _ bdx I := hI (bdx, _) (.tail _ (.tail _ (.tail _ (.tail _ (.tail _ (.head _))))))
    have hIbl : @LT.lt Nat _ bl I := hI (bl, _) (.tail _ (.tail _ (.tail _ (.tail _ (.tail _ (.tail _ (.head _)))))))
    have hID : @LT.lt Nat _ D I := hI (D, listOf ys.toArray kD) (by kpf_c)
    have hIn : ∀ p ∈ news, @LT.lt Nat _ p.1 I := fun p hp => hI p (by kpf_c)
    clear hI
    refine itemsRest_inv (fun j m3 n3 => ∃ (mvs' avs' : List Value) (mn' an' : Nat) (own : List (Addr × Obj)) (asked' : List Str),
      m3 (Str.ofString "board") = some (.ref bA) ∧ m3 (Str.ofString "mates") = some (.ref mA) ∧ m3 (Str.ofString "row") = some (.str row t1) ∧ m3 (Str.ofString "asked") = some (.ref aA) ∧
      n3 = hdrO w mA mdx ml tm mvs' mn' ((aA, listOf avs'.toArray an') :: hdrO w bA bdx bl tb bvs bn (own ++ (D, listOf ys.toArray kD) :: news)) ∧ (∀ p ∈ own, p.2.cls = .type "tuple") ∧ PairsIn (own ++ (D, listOf ys.toArray kD) :: news) mvs' ms ∧ StrsAre avs' asked' ∧
      SeatOk S ms asked' ∧ asked.length ≤ asked'.length ∧ seatG (seatF ps n) row ((getAllS ps row).drop j) ms asked' = seatF ps (n + 1) ms row asked) ?turn ?done ?z
    case z => exact ⟨mvs, avs, mn, an, [], asked, by with_unfolding_all rfl, by with_unfolding_all rfl, by with_unfolding_all rfl, by with_unfolding_all rfl, rfl, by simp, hm.mono (by kcf_all), ha, hOk, Nat.le_refl _, rfl⟩
    case turn =>
      rintro j a0 v3 h3 tk3 m3 n3 hx3 hv3 ⟨mvs', avs', mn', an', own, asked', hk1, hk2, hk3, hk4, rfl, hown, hm3, ha3, hOk3, hal3, hsg⟩ F3
      obtain ⟨v1, hv1, rfl⟩ : ∃ v1, ys[j]? = some v1 ∧ a0 = .val v1 := by
        rw [List.getElem?_map] at hx3
        cases hq : ys[j]? with
        | none => rw [hq] at hx3; cases hx3
        | some v1 => rw [hq] at hx3; exact ⟨v1, rfl, (Option.some.inj hx3).symm⟩
      have hv' : v3 = v1 := hv3
      subst hv'
      obtain ⟨c, tc, rfl, hcj⟩ := hys.item j _ hv1
      have hcj' : (getAllS ps row)[j]? = some c := hcj
      obtain ⟨pc, hpc, hpc2⟩ := List.mem_map.mp (List.mem_of_getElem? hcj)
      have hcS := hpok pc (List.mem_filter.mp hpc).1
      rw [hpc2] at hcS
      have hcok : okS c := hcS.2.1
      rw [← fr_eq [(_, _), (_, _), (_, _), (_, _)] (List.forall_mem_cons.mpr ⟨hk1, List.forall_mem_cons.mpr ⟨hk2, List.forall_mem_cons.mpr ⟨hk3, List.forall_mem_cons.mpr ⟨hk4, List.forall_mem_nil _⟩⟩⟩⟩)] at F3
      dsimp only [kstB] at F3
      clear hk1 hk2 hk3 hk4
      refine AllObj.cons fun oI hcI => AllObj.nil fun N3 => ?_
      have hoo : ∀ p ∈ own ++ (D, listOf ys.toArray kD) :: news, p.1 ≠ aA := fun p hp => by
        rcases List.mem_append.mp hp with hp | hp
        · exact news_ne N3 (x := p.2) (y := listOf avs'.toArray an') (by kpf_c) (by kpf_c) (by rw [hown p hp]; show Value.type "tuple" ≠ Value.type "list"; decide)
        · rcases List.mem_cons.mp hp with rfl | hp
          · exact hDaA
          · exact o2 p hp
      have hooM : ∀ p ∈ own ++ (D, listOf ys.toArray kD) :: news, @Ne Nat p.1 ml := fun p hp => by
        rcases List.mem_append.mp hp with hp | hp
        · exact news_ne N3 (x := p.2) (y := listOf mvs'.toArray mn') (by kpf_c) (by kpf_c) (by rw [hown p hp]; show Value.type "tuple" ≠ Value.type "list"; decide)
        · rcases List.mem_cons.mp hp with rfl | hp
          · exact hDml
          · exact o1 p hp
      unfold hdrO at N3
      dsimp only [List.cons_append, List.nil_append] at N3
      have hal4 : asked'.length ≤ 5 := Nat.le_trans hOk3.len hSl
      have hal5 : avs'.length ≤ 5 := by rw [ha3.length]; exact hal4
      have hdr : (getAllS ps row).drop j = c :: (getAllS ps row).drop (j + 1) := by
        obtain ⟨hj1, hj2⟩ := List.getElem?_eq_some_iff.mp hcj'
        rw [List.drop_eq_getElem_cons hj1, hj2]
      have hI2 : ∀ (mvs2 avs2 : List Value) (mn2 an2 : Nat) (own2 : List (Addr × Obj)) (hg hh2 : Heap) (LL : Addr) (all : List (Addr × Obj)), News hg LL hh2 all → (I, oI) ∈ all → (∀ p ∈ own2, p ∈ all) → (∀ p ∈ own2, p.2.cls = .type "tuple") →
          ∀ p ∈ hdrO w mA mdx ml tm mvs2 mn2 ((aA, listOf avs2.toArray an2) :: hdrO w bA bdx bl tb bvs bn (own2 ++ (D, listOf ys.toArray kD) :: news)), @Ne Nat p.1 I := by
        intro mvs2 avs2 mn2 an2 own2 hg hh2 LL all NN hIm hsub hcls p hp
        unfold hdrO at hp
        simp only [List.mem_cons, List.mem_append] at hp
        rcases hp with rfl | rfl | rfl | rfl | rfl | rfl | rfl | hp | rfl | hp
        · exact Nat.ne_of_lt hImA
        · exact Nat.ne_of_lt hImd
        · exact Nat.ne_of_lt hIml
        · exact Nat.ne_of_lt hIaA
        · exact Nat.ne_of_lt hIbA
        · exact Nat.ne_of_lt hIbd
        · exact Nat.ne_of_lt hIbl
        · exact news_ne NN (x := p.2) (y := oI) (hsub p hp) hIm (by rw [hcls p hp, hcI]; show Value.type "tuple" ≠ Value.type "list_iterator"; decide)
        · exact Nat.ne_of_lt hID
        · exact Nat.ne_of_lt (hIn p hp)
      (k_steps; repeat' (refine Hold.off ?_; first | ((with_reducible show wpAny _ _ (call (Value.builtin "str.lower") [Value.str _ _]) _ _ _); refine call_lower (by assumption) ?_; (try dsimp only); k_steps) | ((with_reducible show wpAny _ _ (call (Value.builtin "list.append") [Value.ref _, _]) _ _ _); (with_unfolding_all refine' append_K ?apF ?apN ?apU ?_ ?apz; (case apF => k_asm); (case apN => k_asm); (case apU => k_upd); (case apz => rw [sizeLine_eq]; simp only [List.size_toArray]; omega)); intro h' F' N'; (try k_sweep); k_steps) | ((with_reducible show wpAny _ _ (exec (PySem.Stmt.For ..) _) _ _ _); (rename Fr _ _ _ _ => lF'); (with_unfolding_all refine' For_turns lF' ?_; k_whole); k_steps)))
      · have hs2 : seatG (seatF ps n) row ((getAllS ps row).drop (j + 1)) ms asked' = seatF ps (n + 1) ms row asked := by
          rw [← hsg, hdr]; conv => rhs; unfold seatG
          rw [if_pos (by rw [← List.any_beq']; assumption)]
        (with_reducible rename News _ _ _ _ => N4)
        refine unrEnd2 (news := hdrO w mA mdx ml tm mvs' mn' ((aA, listOf avs'.toArray an') :: hdrO w bA bdx bl tb bvs bn (own ++ (D, listOf ys.toArray kD) :: news))) (by k_asm) N4 (by unfold hdrO; kcf_all) (hI2 _ _ _ _ _ _ _ _ _ N4 (.head _) (fun p hp => by simp [hp]) hown) ⟨⟨by simp [hdrO], trivial⟩, mvs', avs', mn', an', own, asked', by with_unfolding_all rfl, by with_unfolding_all rfl, by with_unfolding_all rfl, by with_unfolding_all rfl, rfl, hown, hm3, ha3, hOk3, hal3, hs2⟩
      refine Hold.off ?_
      have hnew : asked'.contains c = false := by rw [← List.any_beq']; assumption
      have hOk4 := hOk3.ask hcS.2.2 hnew
      have ha4 := StrsAre.snoc' (y := c) (t := tc) ha3
      (with_reducible rename News _ _ _ _ => N4)
      have N5 := cb_drop (news := hdrO w mA mdx ml tm mvs' mn' ((aA, listOf (avs' ++ [Value.str c tc]).toArray (an' + 1)) :: hdrO w bA bdx bl tb bvs bn ((I, oI) :: (own ++ (D, listOf ys.toArray kD) :: news)))) N4 (by unfold hdrO; rw [← List.push_toArray]; kcf_all)
      clear N4
      unfold hdrO at N5
      k_dflt (refine' get1_walk (ps := ms) ?gak1 ?gak2 ?gak3 N5 ?gak5 ?gad ?gau ?gax ?gal ?gap ?gao ?_; (case gak1 => k_asm); (case gak2 => k_asm); (case gak3 => k_asm); (case gak5 => k_asm); (case gad => ktr_room); (case gau => ktr_units); (case gax => exact okS_low hcok); (case gal => rw [hm3.length]; omega); (case gap => exact hm3.mono (by (try unfold hdrO); kpf_close)); (case gao => exact fun p hp => (hOk3.ok p hp).1))
      clear N5
      intro v h5 tk5 F5 N5 hv5
      cases hf : ms.find? (fun p => lowS p.1 == lowS (lowS c)) with
      | none =>
        rw [hf] at hv5
        dsimp only at hv5
        subst hv5
        (try dsimp only)
        (k_steps; repeat' (refine Hold.off ?_; first | ((with_reducible show wpAny _ _ (call (Value.builtin "str.lower") [Value.str _ _]) _ _ _); refine call_lower (by assumption) ?_; (try dsimp only); k_steps) | ((with_reducible show wpAny _ _ (call (Value.builtin "list.append") [Value.ref _, _]) _ _ _); (with_unfolding_all refine' append_K ?apF ?apN ?apU ?_ ?apz; (case apF => k_asm); (case apN => k_asm); (case apU => k_upd); (case apz => rw [sizeLine_eq]; simp only [List.size_toArray]; omega)); intro h' F' N'; (try k_sweep); k_steps) | ((with_reducible show wpAny _ _ (exec (PySem.Stmt.For ..) _) _ _ _); (rename Fr _ _ _ _ => lF'); (with_unfolding_all refine' For_turns lF' ?_; k_whole); k_steps)))
        refine Hold.off ?_
        have hsg2 : seatF ps (n + 1) ms row asked = (true, setS ms c row, asked' ++ [c]) := by
          rw [← hsg, hdr]; unfold seatG
          rw [hnew]; simp only [Bool.false_eq_true, if_false]
          have : getS ms (lowS c) = none := by unfold getS; rw [hf]; rfl
          rw [this]
        (with_reducible rename News _ _ _ _ => N6)
        have hoff6 : ∀ p ∈ (aA, listOf (avs' ++ [Value.str c tc]).toArray (an' + 1)) :: hdrO w bA bdx bl tb bvs bn ((I, oI) :: (own ++ (D, listOf ys.toArray kD) :: news)), p.1 ≠ ml := by
          unfold hdrO
          exact List.forall_mem_cons.mpr ⟨e3, List.forall_mem_cons.mpr ⟨e4, List.forall_mem_cons.mpr ⟨e5, List.forall_mem_cons.mpr ⟨e6, List.forall_mem_cons.mpr ⟨Nat.ne_of_gt hIml, hooM⟩⟩⟩⟩⟩
        have hps6 : PairsIn ((aA, listOf (avs' ++ [Value.str c tc]).toArray (an' + 1)) :: hdrO w bA bdx bl tb bvs bn ((I, oI) :: (own ++ (D, listOf ys.toArray kD) :: news))) mvs' (ms) := (hm3).mono (by (try unfold hdrO); kpf_close)
        unfold hdrO at hoff6 hps6
        k_dflt (refine' set_walk (ps := ms) ?gak1 ?gak2 ?gak3 N6 ?gak5 ?gad ?gau ?gax ?gay ?gaz1 ?gaz2 ?gaz3 ?gal ?gap ?gao ?_; (case gak1 => k_asm); (case gak2 => k_asm); (case gak3 => k_asm); (case gak5 => k_asm); (case gad => ktr_room); (case gau => ktr_units); (case gax => exact hcok); (case gay => exact hrow); (case gaz1 => exact e1); (case gaz2 => exact e2); (case gaz3 => exact hoff6); (case gal => rw [hps6.length]; omega); (case gap => exact hps6); (case gao => exact fun p hp => (hOk3.ok p hp).1))
        clear N6
        intro T7 t71 t72 vs7 nn7 h7 tk7 F7 N7 hps7
        have hps8 : PairsIn (own ++ news) vs7 ((ms).filter fun p => lowS p.1 != lowS c) := pairs_tail (bvs := bvs) (bl := bl) (tb := tb) (w := w) hcI hps7
        (try dsimp only)
        (k_steps; repeat' (refine Hold.off ?_; first | ((with_reducible show wpAny _ _ (call (Value.builtin "str.lower") [Value.str _ _]) _ _ _); refine call_lower (by assumption) ?_; (try dsimp only); k_steps) | ((with_reducible show wpAny _ _ (call (Value.builtin "list.append") [Value.ref _, _]) _ _ _); (with_unfolding_all refine' append_K ?apF ?apN ?apU ?_ ?apz; (case apF => k_asm); (case apN => k_asm); (case apU => k_upd); (case apz => rw [sizeLine_eq]; simp only [List.size_toArray]; omega)); intro h' F' N'; (try k_sweep); k_steps) | ((with_reducible show wpAny _ _ (exec (PySem.Stmt.For ..) _) _ _ _); (rename Fr _ _ _ _ => lF'); (with_unfolding_all refine' For_turns lF' ?_; k_whole); k_steps)))
        (with_reducible rename News _ _ _ _ => N8)
        have hps9 := PairsIn.snoc (hps8.mono (fun p hp => List.mem_cons_of_mem (T7, pairObj c row t71 t72) hp)) (.head _)
        rw [hsg2] at ret
        exact ret (vs7 ++ [Value.ref T7]) (avs' ++ [Value.str c tc]) _ _ ((T7, pairObj c row t71 t72) :: (own)) _ _ (by k_asm) (cb_drop N8 (by rw [← List.push_toArray]; kcf_all)) (List.forall_mem_cons.mpr ⟨rfl, hown⟩) hps9 (ha4)
      | some po =>
        rw [hf] at hv5
        dsimp only at hv5
        obtain ⟨to, rfl⟩ := hv5
        (try dsimp only)
        (k_steps; repeat' (refine Hold.off ?_; first | ((with_reducible show wpAny _ _ (call (Value.builtin "str.lower") [Value.str _ _]) _ _ _); refine call_lower (by assumption) ?_; (try dsimp only); k_steps) | ((with_reducible show wpAny _ _ (call (Value.builtin "list.append") [Value.ref _, _]) _ _ _); (with_unfolding_all refine' append_K ?apF ?apN ?apU ?_ ?apz; (case apF => k_asm); (case apN => k_asm); (case apU => k_upd); (case apz => rw [sizeLine_eq]; simp only [List.size_toArray]; omega)); intro h' F' N'; (try k_sweep); k_steps) | ((with_reducible show wpAny _ _ (exec (PySem.Stmt.For ..) _) _ _ _); (rename Fr _ _ _ _ => lF'); (with_unfolding_all refine' For_turns lF' ?_; k_whole); k_steps)))
        refine Hold.off ?_
        (with_reducible rename News _ _ _ _ => N6)
        have hgs : getS ms (lowS c) = some po.2 := by unfold getS; rw [hf]; rfl
        have hok2 : okS po.2 := getS_ok hOk3 hgs
        have hR := hkeep n ms po.2 (asked' ++ [c]) hok2 hOk4
        have hl2 : (asked' ++ [c]).length = asked'.length + 1 := by simp
        k_dflt (refine' ih (row := po.2) (asked := asked' ++ [c]) (ms := ms) (ps := ps) (S := S) (news := (I, oI) :: (own ++ (D, listOf ys.toArray kD) :: news)) ?gak1 ?gak2 ?gak3 N6 ?gak5 ?gad ?gau ?ga1 ?ga2 ?ga3 ?ga4 ?ga5 ?ga6 ?ga7 ?ga8 ?ga9 ?ga10 e1 e2 e3 e4 e5 e6 e7 e8 e9 e10 e11 ?gb1 ?gb2 ?_; (case gak1 => k_asm); (case gak2 => k_asm); (case gak3 => k_asm); (case gak5 => k_asm); (case gad => ktr_room); (case gau => ktr_units); (case ga1 => exact hok2); (case ga2 => exact hb.mono (by kcf_all)); (case ga3 => exact hm3.mono (fun p hp => List.mem_cons_of_mem _ hp)); (case ga4 => exact hpok); (case ga5 => exact ha4); (case ga6 => exact hOk4); (case ga7 => exact hSl); (case ga8 => omega); (case ga9 => omega); (case ga10 => exact hbl); (case gb1 => exact List.forall_mem_cons.mpr ⟨Nat.ne_of_gt hIml, hooM⟩); (case gb2 => exact List.forall_mem_cons.mpr ⟨Nat.ne_of_gt hIaA, hoo⟩))
        clear N6
        intro mvs2 avs2 mn2 an2 own2 h6 tk6 F6 N6 hown2 hm6 ha6
        have N7b := cb_drop (news := hdrO w mA mdx ml tm mvs2 mn2 ((aA, listOf avs2.toArray an2) :: hdrO w bA bdx bl tb bvs bn ((I, oI) :: ((own2 ++ own) ++ (D, listOf ys.toArray kD) :: news)))) N6 (by (try unfold hdrO); kpf_close)
        clear N6
        have hm7 : PairsIn ((own2 ++ own) ++ (D, listOf ys.toArray kD) :: news) mvs2 (seatF ps n ms po.2 (asked' ++ [c])).2.1 := hm6.sub (fun p hp hc => by
          simp only [List.mem_cons, List.mem_append] at hp ⊢
          rcases hp with h | h | h | h | h
          · simp [h]
          · subst h; exact absurd hc (by rw [hcI]; show ¬ (Value.type "list_iterator" = Value.type "tuple"); decide)
          · simp [h]
          · simp [h]
          · simp [h])
        have ha7 := ha6
        have hcls2 : ∀ p ∈ own2 ++ own, p.2.cls = .type "tuple" := fun p hp => by
          rcases List.mem_append.mp hp with h | h
          · exact hown2 p h
          · exact hown p h
        have hooM2 : ∀ p ∈ (own2 ++ own) ++ (D, listOf ys.toArray kD) :: news, @Ne Nat p.1 ml := fun p hp => by
          rcases List.mem_append.mp hp with hp | hp
          · exact news_ne N7b (x := p.2) (y := listOf mvs2.toArray mn2) (by simp only [hdrO, List.mem_cons, List.mem_append] at hp ⊢; simp [hp]) (by kpf_c) (by rw [hcls2 p hp]; show Value.type "tuple" ≠ Value.type "list"; decide)
          · exact hooM p (List.mem_append_right _ hp)
        unfold hdrO at N7b
        cases e : (seatF ps n ms po.2 (asked' ++ [c])).1 with
        | true =>
          have hsg2 : seatF ps (n + 1) ms row asked = (true, setS (seatF ps n ms po.2 (asked' ++ [c])).2.1 c row, (seatF ps n ms po.2 (asked' ++ [c])).2.2) := by
            rw [← hsg, hdr]; conv => lhs; unfold seatG
            rw [hnew]; simp only [Bool.false_eq_true, if_false, hgs, e, if_true]
          (try dsimp only)
          (k_steps; repeat' (refine Hold.off ?_; first | ((with_reducible show wpAny _ _ (call (Value.builtin "str.lower") [Value.str _ _]) _ _ _); refine call_lower (by assumption) ?_; (try dsimp only); k_steps) | ((with_reducible show wpAny _ _ (call (Value.builtin "list.append") [Value.ref _, _]) _ _ _); (with_unfolding_all refine' append_K ?apF ?apN ?apU ?_ ?apz; (case apF => k_asm); (case apN => k_asm); (case apU => k_upd); (case apz => rw [sizeLine_eq]; simp only [List.size_toArray]; omega)); intro h' F' N'; (try k_sweep); k_steps) | ((with_reducible show wpAny _ _ (exec (PySem.Stmt.For ..) _) _ _ _); (rename Fr _ _ _ _ => lF'); (with_unfolding_all refine' For_turns lF' ?_; k_whole); k_steps)))
          refine Hold.off ?_
          have hoff6 : ∀ p ∈ (aA, listOf (avs2).toArray an2) :: hdrO w bA bdx bl tb bvs bn ((I, oI) :: (own2 ++ own ++ (D, listOf ys.toArray kD) :: news)), p.1 ≠ ml := by
            unfold hdrO
            exact List.forall_mem_cons.mpr ⟨e3, List.forall_mem_cons.mpr ⟨e4, List.forall_mem_cons.mpr ⟨e5, List.forall_mem_cons.mpr ⟨e6, List.forall_mem_cons.mpr ⟨Nat.ne_of_gt hIml, hooM2⟩⟩⟩⟩⟩
          have hps6 : PairsIn ((aA, listOf (avs2).toArray an2) :: hdrO w bA bdx bl tb bvs bn ((I, oI) :: (own2 ++ own ++ (D, listOf ys.toArray kD) :: news))) mvs2 ((seatF ps n ms po.2 (asked' ++ [c])).2.1) := (hm7).mono (by (try unfold hdrO); kpf_close)
          unfold hdrO at hoff6 hps6
          k_dflt (refine' set_walk (ps := (seatF ps n ms po.2 (asked' ++ [c])).2.1) ?gak1 ?gak2 ?gak3 N7b ?gak5 ?gad ?gau ?gax ?gay ?gaz1 ?gaz2 ?gaz3 ?gal ?gap ?gao ?_; (case gak1 => k_asm); (case gak2 => k_asm); (case gak3 => k_asm); (case gak5 => k_asm); (case gad => ktr_room); (case gau => ktr_units); (case gax => exact hcok); (case gay => exact hrow); (case gaz1 => exact e1); (case gaz2 => exact e2); (case gaz3 => exact hoff6); (case gal => rw [hps6.length]; have := hR.2.2.2; omega); (case gap => exact hps6); (case gao => exact fun p hp => (hR.1.ok p hp).1))
          clear N7b
          intro T7 t71 t72 vs7 nn7 h7 tk7 F7 N7 hps7
          have hps8 : PairsIn (own2 ++ own ++ news) vs7 (((seatF ps n ms po.2 (asked' ++ [c])).2.1).filter fun p => lowS p.1 != lowS c) := pairs_tail (bvs := bvs) (bl := bl) (tb := tb) (w := w) hcI hps7
          (try dsimp only)
          (k_steps; repeat' (refine Hold.off ?_; first | ((with_reducible show wpAny _ _ (call (Value.builtin "str.lower") [Value.str _ _]) _ _ _); refine call_lower (by assumption) ?_; (try dsimp only); k_steps) | ((with_reducible show wpAny _ _ (call (Value.builtin "list.append") [Value.ref _, _]) _ _ _); (with_unfolding_all refine' append_K ?apF ?apN ?apU ?_ ?apz; (case apF => k_asm); (case apN => k_asm); (case apU => k_upd); (case apz => rw [sizeLine_eq]; simp only [List.size_toArray]; omega)); intro h' F' N'; (try k_sweep); k_steps) | ((with_reducible show wpAny _ _ (exec (PySem.Stmt.For ..) _) _ _ _); (rename Fr _ _ _ _ => lF'); (with_unfolding_all refine' For_turns lF' ?_; k_whole); k_steps)))
          (with_reducible rename News _ _ _ _ => N8)
          have hps9 := PairsIn.snoc (hps8.mono (fun p hp => List.mem_cons_of_mem (T7, pairObj c row t71 t72) hp)) (.head _)
          rw [hsg2] at ret
          exact ret (vs7 ++ [Value.ref T7]) (avs2) _ _ ((T7, pairObj c row t71 t72) :: (own2 ++ own)) _ _ (by k_asm) (cb_drop N8 (by rw [← List.push_toArray]; kcf_all)) (List.forall_mem_cons.mpr ⟨rfl, hcls2⟩) hps9 (ha7)
        | false =>
          have hs2 : seatG (seatF ps n) row ((getAllS ps row).drop (j + 1)) ms (seatF ps n ms po.2 (asked' ++ [c])).2.2 = seatF ps (n + 1) ms row asked := by
            rw [← hsg, hdr]; conv => rhs; unfold seatG
            rw [hnew]; simp only [Bool.false_eq_true, if_false, hgs, e]
            rw [hR.2.2.1 e]
          (try dsimp only)
          (k_steps; repeat' (refine Hold.off ?_; first | ((with_reducible show wpAny _ _ (call (Value.builtin "str.lower") [Value.str _ _]) _ _ _); refine call_lower (by assumption) ?_; (try dsimp only); k_steps) | ((with_reducible show wpAny _ _ (call (Value.builtin "list.append") [Value.ref _, _]) _ _ _); (with_unfolding_all refine' append_K ?apF ?apN ?apU ?_ ?apz; (case apF => k_asm); (case apN => k_asm); (case apU => k_upd); (case apz => rw [sizeLine_eq]; simp only [List.size_toArray]; omega)); intro h' F' N'; (try k_sweep); k_steps) | ((with_reducible show wpAny _ _ (exec (PySem.Stmt.For ..) _) _ _ _); (rename Fr _ _ _ _ => lF'); (with_unfolding_all refine' For_turns lF' ?_; k_whole); k_steps)))
          (with_reducible rename News _ _ _ _ => N8)
          have hm8 := hm7
          have hOk8 := hR.1
          rw [hR.2.2.1 e] at hm8 hOk8
          have hal8 : asked.length ≤ (seatF ps n ms po.2 (asked' ++ [c])).2.2.length := by have := hR.2.1; omega
          refine unrEnd2 (news := hdrO w mA mdx ml tm mvs2 mn2 ((aA, listOf avs2.toArray an2) :: hdrO w bA bdx bl tb bvs bn ((own2 ++ own) ++ (D, listOf ys.toArray kD) :: news))) (by k_asm) N8 (by (try unfold hdrO); kpf_close) (hI2 _ _ _ _ _ _ _ _ _ N8 (by kpf_c) (by (try unfold hdrO); kpf_close) hcls2) ⟨⟨by simp [hdrO], trivial⟩, mvs2, avs2, mn2, an2, own2 ++ own, (seatF ps n ms po.2 (asked' ++ [c])).2.2, by with_unfolding_all rfl, by with_unfolding_all rfl, by with_unfolding_all rfl, by with_unfolding_all rfl, rfl, hcls2, hm8, ha7, hOk8, hal8, hs2⟩
    case done =>
      rintro h3 tk3 m3 n3 ⟨mvs', avs', mn', an', own, asked', hk1, hk2, hk3, hk4, rfl, hown, hm3, ha3, hOk3, hal3, hsg⟩ F3 N3
      (k_steps; repeat' (refine Hold.off ?_; first | ((with_reducible show wpAny _ _ (call (Value.builtin "str.lower") [Value.str _ _]) _ _ _); refine call_lower (by assumption) ?_; (try dsimp only); k_steps) | ((with_reducible show wpAny _ _ (call (Value.builtin "list.append") [Value.ref _, _]) _ _ _); (with_unfolding_all refine' append_K ?apF ?apN ?apU ?_ ?apz; (case apF => k_asm); (case apN => k_asm); (case apU => k_upd); (case apz => rw [sizeLine_eq]; simp only [List.size_toArray]; omega)); intro h' F' N'; (try k_sweep); k_steps) | ((with_reducible show wpAny _ _ (exec (PySem.Stmt.For ..) _) _ _ _); (rename Fr _ _ _ _ => lF'); (with_unfolding_all refine' For_turns lF' ?_; k_whole); k_steps)))
      have hsg' : (false, ms, asked') = seatF ps (n + 1) ms row asked := by
        rw [← hsg, List.drop_of_length_le (by rw [List.length_map, hys.length]; exact Nat.le_refl _)]; rfl
      rw [← hsg'] at ret
      (with_reducible rename News _ _ _ _ => N8)
      exact ret mvs' avs' mn' an' own _ _ (by k_asm) (cb_drop N8 (by (try unfold hdrO); kpf_close)) hown (hm3.sub (fun p hp hc => by
        simp only [List.mem_cons, List.mem_append] at hp ⊢
        rcases hp with h | h | h
        · exact .inl h
        · subst h; exact absurd hc (by show ¬ (Value.type "list" = Value.type "tuple"); decide)
        · exact .inr h)) ha3
end Mine
end
section
namespace Mine
open PySem PySem.Calls PySem.Builtin PySem.Builtin.Str PyProof.Rows PySem.W PyProof
theorem loop_pure {β : Type} (f : Nat → β → Sem (ForInStep β)) (g : Nat → β) (n : Nat) (h : ∀ x p, p < n → f x (g p) = pure (.yield (g (p + 1)))) : ∀ (l : List Nat) (p : Nat), p + l.length = n → forIn l (g p) f = pure (g n)
  | [], p, hp => by have : p = n := by simpa using hp
                    subst this; rfl
  | x :: l, p, hp => by
    simp only [List.length_cons] at hp
    rw [List.forIn_cons, h x p (by omega), pure_bind]
    exact loop_pure f g n h l (p + 1) (by omega)
theorem ascii_at {b : Array UInt8} {p : Nat} (hp : p < b.size) (hc : b[p].toNat < 128) : _codecs.utf8Decoder.find true b p = .char b[p].toNat (p + 1) := by
  have e : Bytes.utf8At b p = (.char b[p].toNat, p + 1) := by
    have e0 : b.getD p 0 = b[p] := by simp [Array.getD, hp]
    unfold Bytes.utf8At
    simp only [e0]
    rw [if_pos hc]
  show (match Bytes.utf8At b p with
  | (.char c, nx) => .char c nx
  | (.bad _ stop reason, _) =>
    .bad stop reason (reason == "unexpected end of data" || (b.getD p 0 == 0xED && p + 2 == b.size && 0xA0 ≤ b.getD (p + 1) 0 && b.getD (p + 1) 0 ≤ 0xBF)) : _codecs.Found) = _
  rw [e]
theorem run_ascii (b : Array UInt8) (hb : ∀ c ∈ b.toList, c.toNat < 128) (hs : b.size ≤ 1000) (id : String) : _codecs.runDecoder id _codecs.utf8Decoder none true b 0 [] = pure ((b.toList.map UInt8.toNat).toArray, b.size) := by
  unfold _codecs.runDecoder
  dsimp only
  rw [KPc.range_list]
  refine (congrArg (fun r => r >>= _) (loop_pure _ (fun p => (p, ((b.toList.take p).map UInt8.toNat).toArray, ({} : _codecs.Faults))) b.size (fun x p hp => ?_) (List.range' 0 b.size 1) 0 (by simp))).trans ?_
  · have hsz : ¬ ((List.map UInt8.toNat (List.take p b.toList)).toArray.size > sizeLine) := by
      have : sizeLine = 16777216 := sizeLine_eq
      simp; omega
    simp only [if_neg hsz, if_neg (show ¬ (p ≥ b.size) by omega)]
    rw [ascii_at hp (hb _ (by simp))]
    show pure _ = pure _
    congr 3
    rw [List.take_add_one]
    simp [hp]
  · show (pure _ >>= fun _ => _) = _
    rw [pure_bind]
    simp
    rw [List.take_of_length_le (by simp)]
theorem ascii_decode {prog : Program} {w : World} {A : Around} {E : Value → Shared → Prop} {s : Shared} {b : Array UInt8} {l : List Nat} {t : Tok} {Q : Value → Shared → Prop} (he : b.toList.map UInt8.toNat = l) (hne : l ≠ []) (hb : ∀ c ∈ l, c < 128) (hs : l.length ≤ 1000)
    (h : ∀ t' k, Q (.str (sL l) t') { s with toks := k }) : wpAny (model prog w) A (call (.builtin "bytes.decode") [.bytes b t]) Q E s := by
  subst he
  obtain ⟨bl⟩ := b
  cases bl with
  | nil => exact absurd rfl hne
  | cons c cs =>
    refine KBd.decode (x := sL ((c :: cs).map UInt8.toNat)) (n := (c :: cs).length) (fun id => ?_) (by rw [sL_len]; have hs' : (List.map UInt8.toNat (c :: cs)).length ≤ 1000 := hs; omega) h
    rw [run_ascii _ (fun d hd => hb _ (List.mem_map.mpr ⟨d, hd, rfl⟩)) (by simpa using hs), sL_eq]
    rfl
end Mine
end
section
namespace Mine
open PySem PySem.Calls PySem.Builtin PySem.Builtin.Str PyProof.Rows PySem.W PyProof
noncomputable def wordN (t : Int × Int × Int) : List Nat := [65 + t.1.toNat, 65 + t.2.1.toNat]
noncomputable def wordS (t : Int × Int × Int) : Str := sL (wordN t)
noncomputable def pairS (t : Int × Int × Int) : Str × Str := (sL [65 + t.1.toNat], sL [65 + t.2.1.toNat])
theorem okT_abs {x y z : Int} (h : okT (x, y, z)) : ((1 - 2 * z) * (16 * x + y)).natAbs = 16 * x.toNat + y.toNat := by
  obtain ⟨h1, h2, h3, h4, h5, h6⟩ := h
  dsimp only at *
  have hz : z = 0 ∨ z = 1 := by omega
  rcases hz with rfl | rfl <;> omega
theorem okT_small {x y z : Int} (h : okT (x, y, z)) : ((1 - 2 * z) * (16 * x + y)).natAbs < 2 ^ 62 := by
  rw [okT_abs h]
  obtain ⟨h1, h2, h3, h4, h5, h6⟩ := h
  dsimp only at *
  omega
theorem okT_ap {x y z : Int} (h : okT (x, y, z)) : (apA ((1 - 2 * z) * (16 * x + y)).natAbs).toList.map UInt8.toNat = [65 + x.toNat, 65 + y.toNat] := by
  rw [okT_abs h]
  have all : ∀ a : Fin 5, ∀ b : Fin 5, a.val ≠ 0 → (apA (16 * a.val + b.val)).toList.map UInt8.toNat = [65 + a.val, 65 + b.val] := by decide +kernel
  obtain ⟨h1, h2, h3, h4, h5, h6⟩ := h
  dsimp only at *
  exact all ⟨x.toNat, by omega⟩ ⟨y.toNat, by omega⟩ (by dsimp only; omega)
theorem letters_sL : Str.ofString "ABCDEFGHIJKLMNOP" = sL [65, 66, 67, 68, 69, 70, 71, 72, 73, 74, 75, 76, 77, 78, 79, 80] := by rw [sL_eq]; decide +kernel
theorem okc_AP {n : Nat} (h : n < 16) : okc (65 + n) = true := by
  have all : ∀ i : Fin 16, okc (65 + i.val) = true := by decide +kernel
  exact all ⟨n, h⟩
theorem take_map_next {α β : Type} {f : α → β} {ts : List α} {j : Nat} {t : α} (hp : ts[j]? = some t) : (ts.take (j + 1)).map f = (ts.take j).map f ++ [f t] := by
  rw [List.take_add_one, hp]; simp
theorem letters_at (i : Nat) (h : i < 16) : [65, 66, 67, 68, 69, 70, 71, 72, 73, 74, 75, 76, 77, 78, 79, 80].getD i 0 = 65 + i := by
  have all : ∀ i : Fin 16, [65, 66, 67, 68, 69, 70, 71, 72, 73, 74, 75, 76, 77, 78, 79, 80].getD i.val 0 = 65 + i.val := by decide +kernel
  exact all ⟨i, h⟩
theorem sL_append (a b : List Nat) : sL a ++ sL b = sL (a ++ b) := by
  rw [sL_eq, sL_eq, sL_eq]
  show Str.mk _ = Str.mk _
  simp
section
variable {prog : Program} {w : World} {A : Around} {E : Value → Shared → Prop} {s : Shared} {Q : Value → Shared → Prop} {value slice : Expr}
theorem sL_add {a b : List Nat} {t u : Tok} (hl : a.length + b.length ≤ 1000) (h : ∀ t' tk, Q (.str (sL (a ++ b)) t') { s with toks := tk }) : wpAny (model prog w) A (binaryOp .Add (.str (sL a) t) (.str (sL b) u)) Q E s :=
  PyProof.Rows.add_str (fun t' tk => by rw [sL_append]; exact h t' tk) (by rw [sL_len, sL_len, sizeLine_eq]; omega)
theorem letter_item {i : Int} {t u : Tok} (hi : 0 ≤ i ∧ i < 16)
    (h : ∀ t', Q (.str (sL [65 + i.toNat]) t') { s with toks := s.toks + 1 })
    (hs : subscripted slice false (.str (Str.ofString "ABCDEFGHIJKLMNOP") t) (.int i u) = operate [.str (Str.ofString "ABCDEFGHIJKLMNOP") t, .int i u] (getItem (.str (Str.ofString "ABCDEFGHIJKLMNOP") t) (.int i u)) := by with_unfolding_all rfl)
    (ht : ∀ r, letTemporaryGo value (.str (Str.ofString "ABCDEFGHIJKLMNOP") t) r = pure () := by intro _; with_unfolding_all rfl) :
    wpAny (model prog w) A (subscriptTail value slice (.str (Str.ofString "ABCDEFGHIJKLMNOP") t) (.int i u)) Q E s := by
  rw [letters_sL] at hs ht ⊢
  refine sl_itemP (by simp) ⟨hi.1, by simp; omega⟩ (fun t' => ?_) hs ht
  rw [letters_at _ (by omega)]
  exact h t'
end
end Mine
end
section
namespace Mine
open PySem PySem.Calls PySem.Builtin PyProof.Rows PySem.W
section
variable {prog : Program} {w : World} {A : Around} {E : Value → Shared → Prop} {s : Shared} {h₀ : Heap} {env : Env} {body : List Stmt} {Q : Flow → Shared → Prop}
theorem iter_strTurns {x : Str} {px : Pos} {tx : Str} {t : Tok} {l : List Str} {m₀ : Str → Option Value} {news : List (Addr × Obj)}
    (hh : A.handled = none) (ha : tx.cps.all (· < 128) = true) (hx : tx.cps.toList.map (fun c => (⟨#[c]⟩ : Str)) = l) (F : Fr h₀ env.locals s.heap m₀) (N : News h₀ env.locals s.heap news)
    (rest₀ : ∀ I : Addr, (∀ p ∈ news, p.1 < I) → ItemsRest prog w A E h₀ env (.Name x px) body Q s [(I, "str_ascii_iterator")] [] (l.map fun c => Itm.tok fun t => Value.str c t) m₀ news) :
    wpAny (model prog w) A (pyIter (.str tx t)) (fun it s₂ => TurnsAt prog w A h₀ env (.Name x px) body Q E it s₂) E s := by
  subst hx
  refine wpAny_pyIter_ascii ha ?_
  refine ktu_core (tk0 := s.toks) (keep := []) (KTurns.ofWalks (Walks.strAscii hh s.heap.objs.size tx t) fun i v s Q E st q => ?_) (by simp) (fun i v h hp => ?_) (fun i h st => ?_) (fun b hb => ?_) (fun b hb => by simpa using hb) (fun b hb => .inl (by simpa using hb)) ?_ (fun p hp hI => ?_) ?_ (F.push _) (fun p hp => ⟨Heap.get?_push_of_some _ (N p hp).1, (N p hp).2⟩) trivial (rest₀ _ fun p hp => Heap.lt_size (N p hp).1)
  · exact wpAny_pure q
  · obtain ⟨c, u, hc, rfl⟩ := hp
    refine ⟨Itm.tok fun t => Value.str ⟨#[c]⟩ t, ?_, u, rfl⟩
    rw [List.getElem?_map, List.getElem?_map, Array.getElem?_toList, hc]
    rfl
  · obtain ⟨it, hit, hic, hid⟩ := st
    exact ⟨[(s.heap.objs.size, it)], ⟨⟨rfl, hic⟩, trivial⟩, fun p hp => by rw [List.mem_singleton.mp hp]; exact hit⟩
  · have hb' : b = s.heap.objs.size := by simpa using hb
    rw [hb']
    exact ⟨List.mem_cons_self .., next_is_new F⟩
  · intro hI
    exact absurd F.ns.lt ((List.mem_singleton.mp hI) ▸ Nat.lt_irrefl _)
  · exact absurd (Heap.lt_size (N p hp).1) ((List.mem_singleton.mp hI) ▸ Nat.lt_irrefl _)
  · exact ⟨_, Heap.get?_push_size _ rfl, rfl, rfl⟩
end
end Mine
end
section
namespace Mine
open PySem PySem.Calls PySem.Builtin PySem.Builtin.Str PyProof.Rows PySem.W PyProof
noncomputable def signL : List Nat := [97, 98, 66, 99, 67, 68, 101, 69]
theorem upS_one (c : Nat) : upS (sL [c]) = sL [upC c] := by rw [sL_eq, sL_eq]; unfold upS; simp
theorem sign_okc {n : Nat} (h : n ∈ signL) : okc n = true := by
  have all : ∀ n ∈ signL, okc n = true := by decide +kernel
  exact all n h
theorem signs_text : (Str.ofString "abBcCDeE").cps.toList.map (fun c => (⟨#[c]⟩ : Str)) = signL.map fun n => sL [n] := by
  simp only [sL_eq]; decide +kernel
noncomputable def rowIs (n : Nat) (t : Int × Int × Int) : Bool := 65 + t.1.toNat == upC n
theorem sign_key {n : Nat} (h : n ∈ signL) {t : Int × Int × Int} (ht : okT t) : (lowS (pairS t).1 == lowS (sL [n])) = rowIs n t := by
  have all : ∀ n ∈ signL, ∀ r : Fin 5, (([lowN (65 + r.val)] : List Nat) == [lowN n]) = (65 + r.val == upC n) := by decide +kernel
  show (lowS (sL [65 + t.1.toNat]) == lowS (sL [n])) = _
  rw [lowS_one, lowS_one, sL_beq]
  have := all n h ⟨t.1.toNat, by have := ht.1; have := ht.2.1; omega⟩
  exact this
noncomputable def colS (t : Int × Int × Int) : Str := sL [65 + t.2.1.toNat]
theorem sign_find {n : Nat} (h : n ∈ signL) : ∀ {ts : List (Int × Int × Int)}, (∀ t ∈ ts, okT t) → (ts.map pairS).find? (fun p => lowS p.1 == lowS (sL [n])) = (ts.filter (rowIs n)).head?.map pairS
  | [], _ => rfl
  | t :: r, ht => by
    rw [List.map_cons, List.find?_cons, sign_key h (ht t (.head _)), List.filter_cons]
    cases rowIs n t with
    | true => rfl
    | false => exact sign_find h fun t h => ht t (.tail _ h)
theorem row_pos {n : Nat} {ts : List (Int × Int × Int)} {j : Nat} {t : Int × Int × Int} {vs : List Value} {tk : Tok} (hJ : StrsAre vs (((ts.take j).filter (rowIs n)).map colS)) (hp : ts[j]? = some t) (h : rowIs n t = true) : StrsAre (vs ++ [.str (colS t) tk]) (((ts.take (j + 1)).filter (rowIs n)).map colS) := by
  rw [List.take_add_one, hp, List.filter_append]
  simp only [Option.toList, List.filter_cons, h, if_true, List.filter_nil, List.map_append, List.map_cons, List.map_nil]
  exact StrsAre.snoc' hJ
theorem row_neg {n : Nat} {ts : List (Int × Int × Int)} {j : Nat} {t : Int × Int × Int} {vs : List Value} (hJ : StrsAre vs (((ts.take j).filter (rowIs n)).map colS)) (hp : ts[j]? = some t) (h : rowIs n t = false) : StrsAre vs (((ts.take (j + 1)).filter (rowIs n)).map colS) := by
  rw [List.take_add_one, hp, List.filter_append]
  simp only [Option.toList, List.filter_cons, h, List.filter_nil, List.map_append, List.map_nil, Bool.false_eq_true, if_false, List.append_nil]
  exact hJ
end Mine
namespace Mine
theorem rowIs_eq {n : Nat} {t : Int × Int × Int} {b : Bool} (h : (sL [65 + t.1.toNat] == sL [upC n]) = b) : rowIs n t = b := by
  rw [sL_beq] at h
  rw [← h]; unfold rowIs; simp
end Mine
end
section
namespace Mine
open PySem
noncomputable def namesL : List Nat := [98, 67, 100, 69]
theorem names_text : (Str.ofString "bCdE").cps.toList.map (fun c => (⟨#[c]⟩ : Str)) = namesL.map fun n => sL [n] := by
  simp only [sL_eq]; decide +kernel
theorem names_okc {n : Nat} (h : n ∈ namesL) : okc n = true := by
  have all : ∀ n ∈ namesL, okc n = true := by decide +kernel
  exact all n h
noncomputable def colsS : List Str := [sL [65], sL [66], sL [67], sL [68], sL [69]]
noncomputable def matesS (ps : List (Str × Str)) (j : Nat) : List (Str × Str) := (namesL.take j).foldl (fun ms n => (seatF ps 6 ms (sL [n]) []).2.1) []
theorem mates_next {ps : List (Str × Str)} {j n : Nat} (h : namesL[j]? = some n) : matesS ps (j + 1) = (seatF ps 6 (matesS ps j) (sL [n]) []).2.1 := by
  unfold matesS
  rw [List.take_add_one, h, List.foldl_append]; rfl
theorem mates_ok {ps : List (Str × Str)} (hp : ∀ p ∈ ps, okS p.1 ∧ okS p.2 ∧ p.2 ∈ colsS) : ∀ j, SeatOk colsS (matesS ps j) [] ∧ (matesS ps j).length ≤ 6 * j
  | 0 => ⟨⟨by simp [matesS], List.nodup_nil, by simp⟩, by simp [matesS]⟩
  | j + 1 => by
    have ih := mates_ok hp j
    cases h : namesL[j]? with
    | none =>
      have e : matesS ps (j + 1) = matesS ps j := by
        unfold matesS
        rw [List.take_add_one, h]; simp
      rw [e]; exact ⟨ih.1, by omega⟩
    | some n =>
      rw [mates_next h]
      have k := seatF_keep (fun p hp' => (hp p hp').2) 6 (matesS ps j) (sL [n]) [] (okS_one (names_okc (List.mem_of_getElem? h))) ih.1
      exact ⟨⟨k.1.ok, List.nodup_nil, by simp⟩, by have := k.2.2.2; omega⟩
theorem cols_in {t : Int × Int × Int} (h : okT t) : (pairS t).2 ∈ colsS := by
  have all : ∀ c : Fin 5, (65 + c.val) ∈ [65, 66, 67, 68, 69] := by decide
  have h1 := all ⟨t.2.1.toNat, by have := h.2.2.1; have := h.2.2.2.1; omega⟩
  have : (sL [65 + t.2.1.toNat]) ∈ ([65, 66, 67, 68, 69].map fun n => sL [n]) := List.mem_map.mpr ⟨_, h1, rfl⟩
  exact this
end Mine
end
section
namespace Mine
noncomputable def getN (M : List (Nat × Nat)) (c : Nat) : Option Nat := (M.find? fun p => p.1 == c).map (·.2)
noncomputable def setN (M : List (Nat × Nat)) (c r : Nat) : List (Nat × Nat) := (M.filter fun p => p.1 != c) ++ [(c, r)]
noncomputable def seatGN (rec : List (Nat × Nat) → Nat → List Nat → Bool × List (Nat × Nat) × List Nat) (row : Nat) : List Nat → List (Nat × Nat) → List Nat → Bool × List (Nat × Nat) × List Nat
  | [], ms, asked => (false, ms, asked)
  | c :: cs, ms, asked =>
    if asked.contains c then seatGN rec row cs ms asked
    else match getN ms c with
      | none => (true, setN ms c row, asked ++ [c])
      | some o => let r := rec ms o (asked ++ [c]); if r.1 then (true, setN r.2.1 c row, r.2.2) else seatGN rec row cs r.2.1 r.2.2
noncomputable def seatN (adj : Nat → List Nat) : Nat → List (Nat × Nat) → Nat → List Nat → Bool × List (Nat × Nat) × List Nat
  | 0, ms, _, asked => (false, ms, asked)
  | n + 1, ms, row, asked => seatGN (seatN adj n) row (adj row) ms asked
structure Good (adj : Nat → List Nat) (M : List (Nat × Nat)) : Prop where
  cols : (M.map (·.1)).Nodup
  edge : ∀ p ∈ M, p.1 ∈ adj p.2
structure Asked (asked : List Nat) : Prop where
  nd : asked.Nodup
  lt : ∀ c ∈ asked, c < 5
theorem Asked.len {asked : List Nat} (h : Asked asked) : asked.length ≤ 5 := by
  have : asked.length ≤ (List.range 5).length := by
    have aux : ∀ (l S : List Nat), l.Nodup → (∀ c ∈ l, c ∈ S) → l.length ≤ S.length := by
      intro l
      induction l with
      | nil => intro S _ _; exact Nat.zero_le _
      | cons a r ih =>
        intro S hn hs
        have hn' := List.nodup_cons.mp hn
        have ha : a ∈ S := hs a (.head _)
        have := ih (S.erase a) hn'.2 (fun c hc => (List.mem_erase_of_ne (fun (e : c = a) => hn'.1 (e ▸ hc))).mpr (hs c (.tail _ hc)))
        rw [List.length_erase_of_mem ha] at this
        have h1 := List.length_pos_of_mem ha
        simp only [List.length_cons]; omega
    exact aux _ _ h.nd fun c hc => List.mem_range.mpr (h.lt c hc)
  simpa using this
theorem Asked.ask {asked : List Nat} {c : Nat} (h : Asked asked) (hc : c < 5) (hn : asked.contains c = false) : Asked (asked ++ [c]) := by
  have hn' : c ∉ asked := by simpa using hn
  refine ⟨?_, fun x hx => ?_⟩
  · rw [List.nodup_append]
    refine ⟨h.nd, by simp, fun a ha b hb e => ?_⟩
    have : b = c := by simpa using hb
    subst this; subst e; exact hn' ha
  · rcases List.mem_append.mp hx with hx | hx
    · exact h.lt x hx
    · have : x = c := by simpa using hx
      subst this; exact hc
theorem getN_some {M : List (Nat × Nat)} {c o : Nat} (h : getN M c = some o) : (c, o) ∈ M := by
  unfold getN at h
  cases hf : M.find? (fun p => p.1 == c) with
  | none => rw [hf] at h; cases h
  | some p =>
    rw [hf] at h
    have h1 := List.mem_of_find?_eq_some hf
    have h2 : (p.1 == c) = true := List.find?_some (p := fun p : Nat × Nat => p.1 == c) hf
    have h3 : p.1 = c := by simpa using h2
    have h4 : p.2 = o := by simpa using h
    rw [← h3, ← h4]; exact h1
theorem getN_none {M : List (Nat × Nat)} {c : Nat} (h : getN M c = none) : ∀ p ∈ M, p.1 ≠ c := by
  intro p hp e
  unfold getN at h
  have h1 : M.find? (fun p => p.1 == c) = none := by simpa using h
  have := List.find?_eq_none.mp h1 p hp
  simp [e] at this
theorem getN_of {adj : Nat → List Nat} {M : List (Nat × Nat)} (g : Good adj M) {c o : Nat} (h : (c, o) ∈ M) : getN M c = some o := by
  cases e : getN M c with
  | none => exact absurd rfl (getN_none e _ h)
  | some x =>
    have h2 := getN_some e
    have : (c, o) = (c, x) := by
      have nd := g.cols
      clear g e
      induction M with
      | nil => cases h
      | cons p M ih =>
        rw [List.map_cons] at nd
        have nd' := List.nodup_cons.mp nd
        rcases List.mem_cons.mp h with hA | hA <;> rcases List.mem_cons.mp h2 with hB | hB
        · rw [hA, hB]
        · exact absurd (by rw [← hA]; exact List.mem_map.mpr ⟨(c, x), hB, rfl⟩) nd'.1
        · exact absurd (by rw [← hB]; exact List.mem_map.mpr ⟨(c, o), hA, rfl⟩) nd'.1
        · exact ih hA hB nd'.2
    rw [(Prod.mk.inj this).2]
theorem mem_setN {M : List (Nat × Nat)} {c r : Nat} {p : Nat × Nat} : p ∈ setN M c r ↔ (p ∈ M ∧ p.1 ≠ c) ∨ p = (c, r) := by
  unfold setN; simp
theorem setN_good {adj : Nat → List Nat} {M : List (Nat × Nat)} (g : Good adj M) {c r : Nat} (h : c ∈ adj r) : Good adj (setN M c r) := by
  constructor
  · unfold setN
    rw [List.map_append, List.nodup_append]
    refine ⟨(g.cols.sublist (List.filter_sublist.map _)), by simp, ?_⟩
    intro a ha b hb e
    have hb' : b = c := by simpa using hb
    obtain ⟨p, hp, rfl⟩ := List.mem_map.mp ha
    have := (List.mem_filter.mp hp).2
    simp [e, hb'] at this
  · intro p hp
    rcases mem_setN.mp hp with hp | hp
    · exact g.edge p hp.1
    · subst hp; exact h
/-- rows after taking a column that was free -/
theorem rows_free {M : List (Nat × Nat)} {c r : Nat} (h : ∀ p ∈ M, p.1 ≠ c) : ((setN M c r).map (·.2)).Perm (r :: M.map (·.2)) := by
  unfold setN
  rw [List.filter_eq_self.mpr (fun p hp => by simpa using h p hp), List.map_append]
  exact List.perm_append_comm
theorem rows_taken {M : List (Nat × Nat)} {c o r : Nat} {R : List Nat} (nd : (M.map (·.1)).Nodup) (h : (c, o) ∈ M) (hR : (M.map (·.2)).Perm (o :: R)) : ((setN M c r).map (·.2)).Perm (r :: R) := by
  have key : ∀ M : List (Nat × Nat), (M.map (·.1)).Nodup → (c, o) ∈ M → (M.map (·.2)).Perm (o :: (M.filter fun p => p.1 != c).map (·.2)) := by
    intro M
    induction M with
    | nil => intro _ h; cases h
    | cons p M ih =>
      intro nd h
      rw [List.map_cons] at nd
      have nd' := List.nodup_cons.mp nd
      rcases List.mem_cons.mp h with h | h
      · subst h
        have : M.filter (fun p => p.1 != c) = M := List.filter_eq_self.mpr (fun q hq => by
          have : q.1 ≠ c := fun e => nd'.1 (List.mem_map.mpr ⟨q, hq, e⟩)
          simpa using this)
        simp [this]
      · have hpc : p.1 ≠ c := fun e => nd'.1 (List.mem_map.mpr ⟨_, h, e.symm⟩)
        have := ih nd'.2 h
        rw [List.filter_cons]
        simp only [bne_iff_ne, ne_eq, hpc, not_false_eq_true, if_true, List.map_cons]
        exact (List.Perm.cons _ this).trans (List.Perm.swap ..)
  have h1 := key M nd h
  have h2 : ((M.filter fun p => p.1 != c).map (·.2)).Perm R := (List.perm_cons o).mp (h1.symm.trans hR)
  unfold setN
  rw [List.map_append]
  exact (List.perm_append_comm).trans (List.Perm.cons r h2)
/-- what one search tells -/
structure Res (adj : Nat → List Nat) (cs : List Nat) (row : Nat) (M : List (Nat × Nat)) (asked : List Nat) (r : Bool × List (Nat × Nat) × List Nat) : Prop where
  ask : Asked r.2.2
  up : ∀ c ∈ asked, c ∈ r.2.2
  len : asked.length ≤ r.2.2.length
  no : r.1 = false → r.2.1 = M ∧ (∀ c ∈ cs, c ∈ r.2.2) ∧ ∀ c ∈ r.2.2, c ∉ asked → ∃ o, (c, o) ∈ M ∧ ∀ d ∈ adj o, d ∈ r.2.2
  yes : r.1 = true → Good adj r.2.1 ∧ (r.2.1.map (·.2)).Perm (row :: M.map (·.2)) ∧ ∀ c ∈ asked, ∀ x, (c, x) ∈ r.2.1 ↔ (c, x) ∈ M
theorem seatGN_res {adj : Nat → List Nat} (hadj : ∀ r, ∀ c ∈ adj r, c < 5) {n : Nat} {rec : List (Nat × Nat) → Nat → List Nat → Bool × List (Nat × Nat) × List Nat}
    (hrec : ∀ M o asked, Good adj M → Asked asked → 6 ≤ asked.length + n → Res adj (adj o) o M asked (rec M o asked)) (row : Nat) :
    ∀ (cs : List Nat) (M : List (Nat × Nat)) (asked : List Nat), (∀ c ∈ cs, c ∈ adj row) → Good adj M → Asked asked → 6 ≤ asked.length + (n + 1) → Res adj cs row M asked (seatGN rec row cs M asked) := by
  intro cs
  induction cs with
  | nil =>
    intro M asked _ _ ha _
    exact ⟨ha, fun _ h => h, Nat.le_refl _, fun _ => ⟨rfl, (fun _ h => nomatch h), fun c h1 h2 => absurd h1 h2⟩, fun h => nomatch h⟩
  | cons c cs ih =>
    intro M asked hcs g ha hn
    have hcr := hcs c (.head _)
    have hcs2 : ∀ x ∈ cs, x ∈ adj row := fun x hx => hcs x (.tail _ hx)
    unfold seatGN
    cases hc : asked.contains c with
    | true =>
      have R := ih M asked hcs2 g ha hn
      have hcm : c ∈ asked := by simpa using hc
      simp only [if_true]
      refine ⟨R.ask, R.up, R.len, fun e => ?_, R.yes⟩
      obtain ⟨n1, n2, n3⟩ := R.no e
      exact ⟨n1, fun x hx => by rcases List.mem_cons.mp hx with rfl | hx; exact R.up _ hcm; exact n2 x hx, n3⟩
    | false =>
      have hcn : c ∉ asked := by simpa using hc
      have ha2 := ha.ask (hadj _ _ hcr) hc
      simp only [Bool.false_eq_true, if_false]
      cases hg : getN M c with
      | none =>
        have hf := getN_none hg
        refine ⟨ha2, fun x hx => List.mem_append_left _ hx, by simp, fun e => (nomatch e), fun _ => ⟨setN_good g hcr, rows_free hf, fun x hx y => ?_⟩⟩
        rw [mem_setN]
        have : x ≠ c := fun e => hcn (e ▸ hx)
        constructor
        · rintro (h | h)
          · exact h.1
          · exact absurd (Prod.mk.inj h).1 this
        · exact fun h => .inl ⟨h, this⟩
      | some o =>
        have hco := getN_some hg
        have R := hrec M o (asked ++ [c]) g ha2 (by simp; omega)
        have hup : ∀ x ∈ asked, x ∈ (rec M o (asked ++ [c])).2.2 := fun x hx => R.up x (List.mem_append_left _ hx)
        have hcu : c ∈ (rec M o (asked ++ [c])).2.2 := R.up c (by simp)
        have hlen := R.len
        simp only [List.length_append, List.length_singleton] at hlen
        cases e : (rec M o (asked ++ [c])).1 with
        | true =>
          simp only [e, if_true]
          obtain ⟨y1, y2, y3⟩ := R.yes e
          refine ⟨R.ask, hup, by simp only; omega, fun e => (nomatch e), fun _ => ⟨setN_good y1 hcr, rows_taken y1.cols ((y3 c (by simp) o).mpr hco) y2, fun x hx y => ?_⟩⟩
          simp only
          rw [mem_setN]
          have hxc : x ≠ c := fun e => hcn (e ▸ hx)
          constructor
          · rintro (h | h)
            · exact (y3 x (List.mem_append_left _ hx) y).mp h.1
            · exact absurd (Prod.mk.inj h).1 hxc
          · exact fun h => .inl ⟨(y3 x (List.mem_append_left _ hx) y).mpr h, hxc⟩
        | false =>
          simp only [e, Bool.false_eq_true, if_false]
          obtain ⟨n1, n2, n3⟩ := R.no e
          rw [n1]
          have R2 := ih M (rec M o (asked ++ [c])).2.2 hcs2 g R.ask (by omega)
          refine ⟨R2.ask, fun x hx => R2.up x (hup x hx), by have := R2.len; omega, fun e2 => ?_, fun e2 => ?_⟩
          · obtain ⟨m1, m2, m3⟩ := R2.no e2
            refine ⟨m1, fun x hx => ?_, fun x hx hxa => ?_⟩
            · rcases List.mem_cons.mp hx with rfl | hx
              · exact R2.up _ hcu
              · exact m2 x hx
            · by_cases hx2 : x ∈ (rec M o (asked ++ [c])).2.2
              · by_cases hxc : x = c
                · subst hxc; exact ⟨o, hco, fun d hd => R2.up d (n2 d hd)⟩
                · obtain ⟨o2, h1, h2⟩ := n3 x hx2 (by simp [hxa, hxc])
                  exact ⟨o2, h1, fun d hd => R2.up d (h2 d hd)⟩
              · exact m3 x hx hx2
          · obtain ⟨z1, z2, z3⟩ := R2.yes e2
            exact ⟨z1, z2, fun x hx y => z3 x (hup x hx) y⟩
theorem seatN_res {adj : Nat → List Nat} (hadj : ∀ r, ∀ c ∈ adj r, c < 5) : ∀ (n : Nat) (M : List (Nat × Nat)) (row : Nat) (asked : List Nat), Good adj M → Asked asked → 6 ≤ asked.length + n → Res adj (adj row) row M asked (seatN adj n M row asked)
  | 0, M, row, asked, _, ha, hn => absurd ha.len (by omega)
  | n + 1, M, row, asked, g, ha, hn => seatGN_res hadj (fun M o asked g ha hn => seatN_res hadj n M o asked g ha hn) row (adj row) M asked (fun _ h => h) g ha hn
end Mine
end
section
namespace Mine
structure Dead (adj : Nat → List Nat) (M : List (Nat × Nat)) (Dc Dr : Nat → Prop) : Prop where
  adjc : ∀ r, Dr r → ∀ c ∈ adj r, Dc c
  own : ∀ c, Dc c → ∃ o, (c, o) ∈ M ∧ Dr o
theorem same_own {adj : Nat → List Nat} {M : List (Nat × Nat)} (g : Good adj M) {c o o' : Nat} (h : (c, o) ∈ M) (h' : (c, o') ∈ M) : o = o' := by
  have := (getN_of g h).symm.trans (getN_of g h')
  exact Option.some.inj this
noncomputable def Still (Dc Dr : Nat → Prop) (row : Nat) (M : List (Nat × Nat)) (r : Bool × List (Nat × Nat) × List Nat) : Prop :=
  (Dr row → r.1 = false) ∧ ∀ c, Dc c → ∀ x, (c, x) ∈ r.2.1 ↔ (c, x) ∈ M
theorem seatGN_dead {adj : Nat → List Nat} (hadj : ∀ r, ∀ c ∈ adj r, c < 5) {Dc Dr : Nat → Prop} {n : Nat} {rec : List (Nat × Nat) → Nat → List Nat → Bool × List (Nat × Nat) × List Nat}
    (hrec : ∀ M o asked, Good adj M → Asked asked → 6 ≤ asked.length + n → Res adj (adj o) o M asked (rec M o asked))
    (hdead : ∀ M o asked, Good adj M → Asked asked → 6 ≤ asked.length + n → Dead adj M Dc Dr → Still Dc Dr o M (rec M o asked)) (row : Nat) :
    ∀ (cs : List Nat) (M : List (Nat × Nat)) (asked : List Nat), (∀ c ∈ cs, c ∈ adj row) → Good adj M → Asked asked → 6 ≤ asked.length + (n + 1) → Dead adj M Dc Dr → Still Dc Dr row M (seatGN rec row cs M asked) := by
  intro cs
  induction cs with
  | nil => intro M asked _ _ _ _ _; exact ⟨fun _ => rfl, fun _ _ _ => Iff.rfl⟩
  | cons c cs ih =>
    intro M asked hcs g ha hn hd
    have hcr := hcs c (.head _)
    have hcs2 : ∀ x ∈ cs, x ∈ adj row := fun x hx => hcs x (.tail _ hx)
    unfold seatGN
    cases hc : asked.contains c with
    | true => simp only [if_true]; exact ih M asked hcs2 g ha hn hd
    | false =>
      have ha2 := ha.ask (hadj _ _ hcr) hc
      have setS : ∀ M2 : List (Nat × Nat), ¬ Dc c → (∀ d, Dc d → ∀ x, (d, x) ∈ M2 ↔ (d, x) ∈ M) → ∀ d, Dc d → ∀ x, (d, x) ∈ setN M2 c row ↔ (d, x) ∈ M := by
        intro M2 hcD hM d hdD x
        have hdc : d ≠ c := fun e => hcD (e ▸ hdD)
        rw [mem_setN]
        constructor
        · rintro (h | h)
          · exact (hM d hdD x).mp h.1
          · exact absurd (Prod.mk.inj h).1 hdc
        · exact fun h => .inl ⟨(hM d hdD x).mpr h, hdc⟩
      simp only [Bool.false_eq_true, if_false]
      cases hg : getN M c with
      | none =>
        have hcD : ¬ Dc c := fun h => by
          obtain ⟨o, ho, -⟩ := hd.own c h
          exact getN_none hg _ ho rfl
        exact ⟨fun h => absurd (hd.adjc row h c hcr) hcD, setS M hcD fun _ _ _ => Iff.rfl⟩
      | some o =>
        have hco := getN_some hg
        have R := hrec M o (asked ++ [c]) g ha2 (by simp; omega)
        have D := hdead M o (asked ++ [c]) g ha2 (by simp; omega) hd
        have hlen := R.len
        simp only [List.length_append, List.length_singleton] at hlen
        cases e : (rec M o (asked ++ [c])).1 with
        | true =>
          simp only [e, if_true]
          have hcD : ¬ Dc c := fun h => by
            obtain ⟨o', ho, hr⟩ := hd.own c h
            rw [← same_own g hco ho] at hr
            have := D.1 hr
            rw [e] at this; cases this
          exact ⟨fun h => absurd (hd.adjc row h c hcr) hcD, setS _ hcD D.2⟩
        | false =>
          simp only [e, Bool.false_eq_true, if_false]
          obtain ⟨n1, -, -⟩ := R.no e
          rw [n1]
          exact ih M _ hcs2 g R.ask (by omega) hd
theorem seatN_dead {adj : Nat → List Nat} (hadj : ∀ r, ∀ c ∈ adj r, c < 5) {Dc Dr : Nat → Prop} : ∀ (n : Nat) (M : List (Nat × Nat)) (row : Nat) (asked : List Nat), Good adj M → Asked asked → 6 ≤ asked.length + n → Dead adj M Dc Dr → Still Dc Dr row M (seatN adj n M row asked)
  | 0, M, row, asked, _, ha, hn, _ => absurd ha.len (by omega)
  | n + 1, M, row, asked, g, ha, hn, hd => seatGN_dead hadj (fun M o asked g ha hn => seatN_res hadj n M o asked g ha hn) (fun M o asked g ha hn hd => seatN_dead hadj n M o asked g ha hn hd) row (adj row) M asked (fun _ h => h) g ha hn hd
noncomputable def matesN (adj : Nat → List Nat) (rows : List Nat) : List (Nat × Nat) := rows.foldl (fun M r => (seatN adj 6 M r []).2.1) []
structure Koe (adj : Nat → List Nat) (rows : List Nat) (M : List (Nat × Nat)) : Prop where
  good : Good adj M
  nd : (M.map (·.2)).Nodup
  isrow : ∀ r ∈ M.map (·.2), r ∈ rows
  dead : ∃ Dc Dr : Nat → Prop, Dead adj M Dc Dr ∧ ∀ r ∈ rows, r ∈ M.map (·.2) ∨ Dr r
theorem koe_step {adj : Nat → List Nat} (hadj : ∀ r, ∀ c ∈ adj r, c < 5) {rows : List Nat} {M : List (Nat × Nat)} (k : Koe adj rows M) {r : Nat} (hr : r ∉ rows) : Koe adj (rows ++ [r]) (seatN adj 6 M r []).2.1 := by
  obtain ⟨Dc, Dr, hd, hall⟩ := k.dead
  have A0 : Asked [] := ⟨List.nodup_nil, fun _ h => nomatch h⟩
  have R := seatN_res hadj 6 M r [] k.good A0 (by simp)
  have S := seatN_dead hadj 6 M r [] k.good A0 (by simp) hd
  cases e : (seatN adj 6 M r []).1 with
  | true =>
    obtain ⟨y1, y2, -⟩ := R.yes e
    refine ⟨y1, ?_, ?_, Dc, Dr, ⟨hd.adjc, fun c hc => ?_⟩, ?_⟩
    · rw [y2.nodup_iff]
      exact List.nodup_cons.mpr ⟨fun h => hr (k.isrow r h), k.nd⟩
    · intro x hx
      rcases List.mem_cons.mp (y2.mem_iff.mp hx) with rfl | h
      · simp
      · exact List.mem_append_left _ (k.isrow x h)
    · obtain ⟨o, ho, h2⟩ := hd.own c hc
      exact ⟨o, (S.2 c hc o).mpr ho, h2⟩
    · intro x hx
      rcases List.mem_append.mp hx with hx | hx
      · rcases hall x hx with h | h
        · exact .inl (y2.mem_iff.mpr (List.mem_cons_of_mem _ h))
        · exact .inr h
      · have : x = r := by simpa using hx
        subst this
        exact .inl (y2.mem_iff.mpr (.head _))
  | false =>
    obtain ⟨n1, n2, n3⟩ := R.no e
    rw [n1]
    refine ⟨k.good, k.nd, fun x hx => List.mem_append_left _ (k.isrow x hx), fun c => Dc c ∨ c ∈ (seatN adj 6 M r []).2.2, fun x => Dr x ∨ x = r ∨ ∃ c ∈ (seatN adj 6 M r []).2.2, (c, x) ∈ M, ⟨?_, ?_⟩, ?_⟩
    · rintro x (h | rfl | ⟨c, hc, hx⟩) d hdx
      · exact .inl (hd.adjc x h d hdx)
      · exact .inr (n2 d hdx)
      · obtain ⟨o, ho, h2⟩ := n3 c hc (fun h => nomatch h)
        rw [same_own k.good hx ho] at hdx
        exact .inr (h2 d hdx)
    · rintro c (h | h)
      · obtain ⟨o, ho, h2⟩ := hd.own c h
        exact ⟨o, ho, .inl h2⟩
      · obtain ⟨o, ho, -⟩ := n3 c h (fun h => nomatch h)
        exact ⟨o, ho, .inr (.inr ⟨c, h, ho⟩)⟩
    · intro x hx
      rcases List.mem_append.mp hx with hx | hx
      · rcases hall x hx with h | h
        · exact .inl h
        · exact .inr (.inl h)
      · have : x = r := by simpa using hx
        exact .inr (.inr (.inl this))
theorem koe_all {adj : Nat → List Nat} (hadj : ∀ r, ∀ c ∈ adj r, c < 5) : Koe adj [1, 2, 3, 4] (matesN adj [1, 2, 3, 4]) := by
  have k0 : Koe adj [] [] := ⟨⟨by simp, by simp⟩, by simp, by simp, fun _ => False, fun _ => False, ⟨fun _ h => h.elim, fun _ h => h.elim⟩, by simp⟩
  have k1 := koe_step hadj k0 (r := 1) (by simp)
  have k2 := koe_step hadj k1 (r := 2) (by simp)
  have k3 := koe_step hadj k2 (r := 3) (by simp)
  have k4 := koe_step hadj k3 (r := 4) (by simp)
  exact k4
end Mine
end
section
namespace Mine
theorem fewest_le {ts : List (Int × Int × Int)} : ∀ (n i : Nat), i < n → fewestS ts n ≤ ((linesT i 4).length : Int) + ((colsT i ts).length : Int)
  | 0, i, h => absurd h (Nat.not_lt_zero _)
  | n + 1, i, h => by
    rw [← fewestS_next (le := fewestS ts n) rfl]
    by_cases e : i = n
    · subst e; split <;> omega
    · have := fewest_le (ts := ts) n i (by omega)
      split <;> omega
theorem le_fewest {ts : List (Int × Int × Int)} {x : Int} (h4 : x ≤ 4) : ∀ n, (∀ i, i < n → x ≤ ((linesT i 4).length : Int) + ((colsT i ts).length : Int)) → x ≤ fewestS ts n
  | 0, _ => h4
  | n + 1, h => by
    rw [← fewestS_next (le := fewestS ts n) rfl]
    have h1 := le_fewest (ts := ts) h4 n fun i hi => h i (by omega)
    have h2 := h n (by omega)
    split <;> omega
theorem lines_nd {i : Nat} (h : i < 16) : (linesT i 4).Nodup := by
  have all : ∀ i : Fin 16, (linesT i.val 4).Nodup := by decide +kernel
  exact all ⟨i, h⟩
theorem mem_lines {i : Nat} {r : Int} : r ∈ linesT i 4 ↔ (1 ≤ r ∧ r ≤ 4) ∧ onB i r = true := by
  unfold linesT
  rw [List.mem_filter, List.mem_map]
  constructor
  · rintro ⟨⟨k, hk, rfl⟩, h⟩
    have := List.mem_range.mp hk
    exact ⟨by omega, h⟩
  · rintro ⟨⟨h1, h2⟩, h⟩
    exact ⟨⟨(r - 1).toNat, List.mem_range.mpr (by omega), by omega⟩, h⟩
theorem on_all (b1 b2 b3 b4 : Bool) : ∃ i, i < 16 ∧ onB i 1 = b1 ∧ onB i 2 = b2 ∧ onB i 3 = b3 ∧ onB i 4 = b4 := by
  have all : ∀ b1 b2 b3 b4 : Bool, ∃ i : Fin 16, onB i.val 1 = b1 ∧ onB i.val 2 = b2 ∧ onB i.val 3 = b3 ∧ onB i.val 4 = b4 := by decide +kernel
  obtain ⟨i, h⟩ := all b1 b2 b3 b4
  exact ⟨i.val, i.isLt, h⟩
theorem cols_fold {ls : List Int} : ∀ (ts : List (Int × Int × Int)) (cs : List Int), cs.Nodup →
    (ts.foldl (colStep ls) cs).Nodup ∧ (∀ c ∈ cs, c ∈ ts.foldl (colStep ls) cs) ∧ (∀ c ∈ ts.foldl (colStep ls) cs, c ∈ cs ∨ ∃ t ∈ ts, t.2.1 = c ∧ t.1 ∉ ls) ∧ (∀ t ∈ ts, t.1 ∈ ls ∨ t.2.1 ∈ ts.foldl (colStep ls) cs)
  | [], cs, h => ⟨h, fun _ h => h, fun _ h => .inl h, fun _ h => nomatch h⟩
  | t :: r, cs, h => by
    rw [List.foldl_cons]
    have hnd : (colStep ls cs t).Nodup := by
      unfold colStep; split
      · exact h
      · split
        · exact h
        · rename_i h2
          rw [List.nodup_append]
          refine ⟨h, by simp, fun a ha b hb e => ?_⟩
          have : b = t.2.1 := by simpa using hb
          subst this; subst e
          exact h2 (by simpa using ha)
    obtain ⟨f1, f2, f3, f4⟩ := cols_fold r (colStep ls cs t) hnd
    refine ⟨f1, fun c hc => f2 c ?_, fun c hc => ?_, fun u hu => ?_⟩
    · unfold colStep; split
      · exact hc
      · split
        · exact hc
        · exact List.mem_append_left _ hc
    · rcases f3 c hc with h3 | ⟨u, hu, h3⟩
      · unfold colStep at h3; split at h3
        · exact .inl h3
        · split at h3
          · exact .inl h3
          · rename_i h1 _
            rcases List.mem_append.mp h3 with h3 | h3
            · exact .inl h3
            · have : c = t.2.1 := by simpa using h3
              exact .inr ⟨t, .head _, this.symm, by simpa using h1⟩
      · exact .inr ⟨u, .tail _ hu, h3⟩
    · rcases List.mem_cons.mp hu with rfl | hu
      · by_cases hl : u.1 ∈ ls
        · exact .inl hl
        · refine .inr (f2 _ ?_)
          unfold colStep
          rw [if_neg (by simpa using hl)]
          split
          · rename_i h5; simpa using h5
          · simp
      · exact f4 u hu
noncomputable def adjT (ts : List (Int × Int × Int)) (r : Nat) : List Nat := (ts.filter fun t => t.1.toNat == r).map fun t => t.2.1.toNat
theorem mem_adjT {ts : List (Int × Int × Int)} {r c : Nat} : c ∈ adjT ts r ↔ ∃ t ∈ ts, t.1.toNat = r ∧ t.2.1.toNat = c := by
  unfold adjT
  rw [List.mem_map]
  constructor
  · rintro ⟨t, ht, rfl⟩
    have := List.mem_filter.mp ht
    exact ⟨t, this.1, by simpa using this.2, rfl⟩
  · rintro ⟨t, ht, h, rfl⟩
    exact ⟨t, List.mem_filter.mpr ⟨ht, by simpa using h⟩, rfl⟩
theorem len_split {α : Type} (q : α → Bool) : ∀ l : List α, (l.filter q).length + (l.filter fun x => !q x).length = l.length
  | [] => rfl
  | a :: r => by
    have := len_split q r
    rw [List.filter_cons, List.filter_cons]
    cases q a <;> simp <;> omega
theorem koenig {ts : List (Int × Int × Int)} (hok : ∀ t ∈ ts, okT t) : ((matesN (adjT ts) [1, 2, 3, 4]).length : Int) = fewestS ts 16 := by
  have hadj : ∀ r, ∀ c ∈ adjT ts r, c < 5 := by
    intro r c hc
    obtain ⟨t, ht, -, rfl⟩ := mem_adjT.mp hc
    have := (hok t ht).2.2.1; have := (hok t ht).2.2.2.1; omega
  obtain ⟨g, nd, hrow, Dc, Dr, hd, hall⟩ := koe_all hadj
  generalize matesN (adjT ts) [1, 2, 3, 4] = mt at g nd hrow hd hall
  have hle : ∀ i, i < 16 → (mt.length : Int) ≤ ((linesT i 4).length : Int) + ((colsT i ts).length : Int) := by
    intro i hi
    obtain ⟨c1, -, c3, c4⟩ := cols_fold (ls := linesT i 4) ts [] List.nodup_nil
    have s := len_split (fun p : Nat × Nat => (linesT i 4).contains (p.2 : Int)) mt
    have l1 : (mt.filter fun p : Nat × Nat => (linesT i 4).contains (p.2 : Int)).length ≤ (linesT i 4).length := by
      have h1 : (((mt.filter fun p : Nat × Nat => (linesT i 4).contains (p.2 : Int)).map (·.2)).map fun n : Nat => (n : Int)).Nodup := by
        exact List.Pairwise.map _ (fun a b (h : a ≠ b) => by show (a : Int) ≠ (b : Int); omega) (nd.sublist (List.filter_sublist.map _))
      have := nodup_sub_len h1 (S := linesT i 4) (fun c hc => by
        obtain ⟨r, hr, rfl⟩ := List.mem_map.mp hc
        obtain ⟨p, hp, rfl⟩ := List.mem_map.mp hr
        simpa using (List.mem_filter.mp hp).2)
      simpa using this
    have l2 : (mt.filter fun p : Nat × Nat => !(linesT i 4).contains (p.2 : Int)).length ≤ (colsT i ts).length := by
      have h1 : (((mt.filter fun p : Nat × Nat => !(linesT i 4).contains (p.2 : Int)).map (·.1)).map fun n : Nat => (n : Int)).Nodup := by
        exact List.Pairwise.map _ (fun a b (h : a ≠ b) => by show (a : Int) ≠ (b : Int); omega) (g.cols.sublist (List.filter_sublist.map _))
      have := nodup_sub_len h1 (S := colsT i ts) (fun c hc => by
        obtain ⟨r, hr, rfl⟩ := List.mem_map.mp hc
        obtain ⟨p, hp, rfl⟩ := List.mem_map.mp hr
        have hp2 := List.mem_filter.mp hp
        obtain ⟨t, ht, h1, h2⟩ := mem_adjT.mp (g.edge p hp2.1)
        have ho := hok t ht
        have e1 : t.1 = (p.2 : Int) := by have := ho.1; omega
        have e2 : t.2.1 = (p.1 : Int) := by have := ho.2.2.1; omega
        rcases c4 t ht with h | h
        · rw [e1] at h
          have := hp2.2
          simp [h] at this
        · rw [e2] at h; exact h)
      simpa using this
    have : (mt.length : Int) = ((mt.filter fun p : Nat × Nat => (linesT i 4).contains (p.2 : Int)).length : Int) + ((mt.filter fun p : Nat × Nat => !(linesT i 4).contains (p.2 : Int)).length : Int) := by rw [← s]; simp
    omega
  have h4 : (mt.length : Int) ≤ 4 := by
    have := nodup_sub_len nd (S := [1, 2, 3, 4]) hrow
    simp only [List.length_map, List.length_cons, List.length_nil] at this
    omega
  have up := le_fewest (ts := ts) h4 16 hle
  refine Int.le_antisymm up ?_
  classical
  obtain ⟨i, hi, b1, b2, b3, b4⟩ := on_all (!decide (Dr 1)) (!decide (Dr 2)) (!decide (Dr 3)) (!decide (Dr 4))
  have hon : ∀ r : Nat, 1 ≤ r → r ≤ 4 → onB i (r : Int) = !decide (Dr r) := by
    intro r h1 h2
    have : r = 1 ∨ r = 2 ∨ r = 3 ∨ r = 4 := by omega
    rcases this with rfl | rfl | rfl | rfl
    · exact b1
    · exact b2
    · exact b3
    · exact b4
  refine Int.le_trans (fewest_le 16 i hi) ?_
  obtain ⟨c1, -, c3, c4⟩ := cols_fold (ls := linesT i 4) ts [] List.nodup_nil
  have s := len_split (fun p : Nat × Nat => decide (Dr p.2)) mt
  have l1 : (linesT i 4).length ≤ (mt.filter fun p : Nat × Nat => !decide (Dr p.2)).length := by
    have := nodup_sub_len (lines_nd hi) (S := ((mt.filter fun p : Nat × Nat => !decide (Dr p.2)).map (·.2)).map fun n : Nat => (n : Int)) (fun r hr => by
      obtain ⟨⟨h1, h2⟩, h3⟩ := mem_lines.mp hr
      have h5 := hon r.toNat (by omega) (by omega)
      rw [show ((r.toNat : Nat) : Int) = r by omega, h3] at h5
      have h6 : ¬ Dr r.toNat := by simpa using h5.symm
      have h7 : r.toNat ∈ [1, 2, 3, 4] := by simp; omega
      rcases hall _ h7 with h | h
      · obtain ⟨p, hp, hpr⟩ := List.mem_map.mp h
        refine List.mem_map.mpr ⟨r.toNat, List.mem_map.mpr ⟨p, List.mem_filter.mpr ⟨hp, by rw [hpr]; simpa using h6⟩, hpr⟩, by omega⟩
      · exact absurd h h6)
    simpa using this
  have l2 : (colsT i ts).length ≤ (mt.filter fun p : Nat × Nat => decide (Dr p.2)).length := by
    have := nodup_sub_len c1 (S := ((mt.filter fun p : Nat × Nat => decide (Dr p.2)).map (·.1)).map fun n : Nat => (n : Int)) (fun c hc => by
      rcases c3 c hc with h | ⟨t, ht, rfl, hl⟩
      · cases h
      · have ho := hok t ht
        have h1 : onB i t.1 = false := by
          cases e : onB i t.1 with
          | false => rfl
          | true => exact absurd (mem_lines.mpr ⟨⟨ho.1, ho.2.1⟩, e⟩) hl
        have h5 := hon t.1.toNat (by have := ho.1; omega) (by have := ho.2.1; omega)
        rw [show ((t.1.toNat : Nat) : Int) = t.1 by have := ho.1; omega, h1] at h5
        have h6 : Dr t.1.toNat := by simpa using h5.symm
        have h7 := hd.adjc _ h6 t.2.1.toNat (mem_adjT.mpr ⟨t, ht, rfl, rfl⟩)
        obtain ⟨o, ho2, hor⟩ := hd.own _ h7
        refine List.mem_map.mpr ⟨t.2.1.toNat, List.mem_map.mpr ⟨_, List.mem_filter.mpr ⟨ho2, by simpa using hor⟩, rfl⟩, by have := ho.2.2.1; omega⟩)
    unfold colsT
    simpa using this
  have : (mt.length : Int) = ((mt.filter fun p : Nat × Nat => decide (Dr p.2)).length : Int) + ((mt.filter fun p : Nat × Nat => !decide (Dr p.2)).length : Int) := by rw [← s]; simp
  omega
end Mine
end
section
namespace Mine
open PySem
noncomputable def nameN (r : Nat) : Nat := if r = 1 then 98 else if r = 2 then 67 else if r = 3 then 100 else 69
noncomputable def mateP (p : Nat × Nat) : Str × Str := (sL [65 + p.1], sL [nameN p.2])
noncomputable def rookS (p : Nat × Nat) : Str := sL [65 + p.2, 65 + p.1]
theorem nameN_okc (r : Nat) : okc (nameN r) = true := by
  unfold nameN; split
  · decide
  · split
    · decide
    · split <;> decide
theorem nameN_up {r : Nat} (h1 : 1 ≤ r) (h2 : r ≤ 4) : upC (nameN r) = 65 + r := by
  have all : ∀ r : Fin 5, 1 ≤ r.val → upC (nameN r.val) = 65 + r.val := by decide +kernel
  exact all ⟨r, by omega⟩ h1
theorem rook_in {ts : List (Int × Int × Int)} {mt : List (Nat × Nat)} (h : ∀ p ∈ mt, ∃ t ∈ ts, t.1.toNat = p.2 ∧ t.2.1.toNat = p.1) {p : Nat × Nat} (hp : p ∈ mt) : ((ts.map wordS).any fun x => x == rookS p) = true := by
  obtain ⟨t, ht, h1, h2⟩ := h p hp
  rw [List.any_eq_true]
  refine ⟨wordS t, List.mem_map.mpr ⟨t, ht, rfl⟩, ?_⟩
  unfold wordS wordN rookS
  rw [h1, h2]; simp
noncomputable def colSn (c : Nat) : Str := sL [65 + c]
theorem key_row {r r' : Nat} (h : r ≤ 4) (h1 : 1 ≤ r') (h2 : r' ≤ 4) : (lowS (sL [65 + r]) == lowS (sL [nameN r'])) = (r == r') := by
  have all : ∀ r r' : Fin 5, 1 ≤ r'.val → (([lowN (65 + r.val)] : List Nat) == [lowN (nameN r'.val)]) = (r.val == r'.val) := by decide +kernel
  rw [lowS_one, lowS_one, sL_beq]
  exact all ⟨r, by omega⟩ ⟨r', by omega⟩ h1
theorem key_col {c c' : Nat} (h : c < 5) (h' : c' < 5) : (lowS (sL [65 + c]) == lowS (lowS (sL [65 + c']))) = (c == c') := by
  have all : ∀ c c' : Fin 5, (([lowN (65 + c.val)] : List Nat) == [lowN (lowN (65 + c'.val))]) = (c.val == c'.val) := by decide +kernel
  rw [lowS_one, lowS_one, lowS_one, sL_beq]
  exact all ⟨c, h⟩ ⟨c', h'⟩
theorem key_col1 {c c' : Nat} (h : c < 5) (h' : c' < 5) : (lowS (sL [65 + c]) != lowS (sL [65 + c'])) = (c != c') := by
  have all : ∀ c c' : Fin 5, (([lowN (65 + c.val)] : List Nat) != [lowN (65 + c'.val)]) = (c.val != c'.val) := by decide +kernel
  have e : (sL [lowN (65 + c)] != sL [lowN (65 + c')]) = ([lowN (65 + c)] != [lowN (65 + c')]) := by
    unfold bne; rw [sL_beq]
  rw [lowS_one, lowS_one, e]
  exact all ⟨c, h⟩ ⟨c', h'⟩
theorem colSn_contains {c : Nat} (asked : List Nat) : (asked.map colSn).contains (colSn c) = asked.contains c := by
  induction asked with
  | nil => rfl
  | cons a r ih =>
    rw [List.map_cons, List.contains_cons, List.contains_cons, ih]
    congr 1
    unfold colSn
    rw [sL_beq]
    by_cases h : c = a
    · subst h; simp
    · have h1 : (c == a) = false := by simpa using h
      have h2 : ¬ (65 + c = 65 + a) := by omega
      rw [h1]; simpa using h
noncomputable def Rng (M : List (Nat × Nat)) : Prop := ∀ p ∈ M, p.1 < 5 ∧ 1 ≤ p.2 ∧ p.2 ≤ 4
theorem getAll_img {ts : List (Int × Int × Int)} (hok : ∀ t ∈ ts, okT t) {r : Nat} (h1 : 1 ≤ r) (h2 : r ≤ 4) : getAllS (ts.map pairS) (sL [nameN r]) = (adjT ts r).map colSn := by
  unfold getAllS adjT
  induction ts with
  | nil => rfl
  | cons t ts ih =>
    have ht := hok t (.head _)
    have := ih fun u hu => hok u (.tail _ hu)
    have k2 : (lowS (pairS t).1 == lowS (sL [nameN r])) = (t.1.toNat == r) := key_row (r := t.1.toNat) (by have := ht.1; have := ht.2.1; omega) h1 h2
    rw [List.map_cons, List.filter_cons, List.filter_cons, k2]
    cases (t.1.toNat == r) with
    | true => simp only [if_true, List.map_cons]; rw [this]; rfl
    | false => simpa using this
theorem getS_img {M : List (Nat × Nat)} (h : Rng M) {c : Nat} (hc : c < 5) : getS (M.map mateP) (lowS (colSn c)) = (getN M c).map fun o => sL [nameN o] := by
  unfold getS getN
  induction M with
  | nil => rfl
  | cons p M ih =>
    have hp := h p (.head _)
    have := ih fun q hq => h q (.tail _ hq)
    rw [List.map_cons, List.find?_cons, List.find?_cons]
    have k := key_col hp.1 hc
    have k2 : (lowS (mateP p).1 == lowS (lowS (colSn c))) = (p.1 == c) := k
    rw [k2]
    cases (p.1 == c) with
    | true => rfl
    | false => exact this
theorem setS_img {M : List (Nat × Nat)} (h : Rng M) {c r : Nat} (hc : c < 5) : setS (M.map mateP) (colSn c) (sL [nameN r]) = (setN M c r).map mateP := by
  unfold setS setN
  rw [List.map_append]
  congr 1
  induction M with
  | nil => rfl
  | cons p M ih =>
    have hp := h p (.head _)
    have := ih fun q hq => h q (.tail _ hq)
    have k2 : (lowS (mateP p).1 != lowS (colSn c)) = (p.1 != c) := key_col1 hp.1 hc
    rw [List.map_cons, List.filter_cons, List.filter_cons, k2]
    cases (p.1 != c) with
    | true => simp only [if_true, List.map_cons]; rw [this]
    | false => simpa using this
theorem Rng.set {M : List (Nat × Nat)} (h : Rng M) {c r : Nat} (hc : c < 5) (h1 : 1 ≤ r) (h2 : r ≤ 4) : Rng (setN M c r) := by
  intro p hp
  rcases mem_setN.mp hp with hp | rfl
  · exact h p hp.1
  · exact ⟨hc, h1, h2⟩
noncomputable def img (r : Bool × List (Nat × Nat) × List Nat) : Bool × List (Str × Str) × List Str := (r.1, r.2.1.map mateP, r.2.2.map colSn)
noncomputable def Img (rS : Bool × List (Str × Str) × List Str) (r : Bool × List (Nat × Nat) × List Nat) : Prop := rS = img r ∧ Rng r.2.1
theorem seatG_img {recS : List (Str × Str) → Str → List Str → Bool × List (Str × Str) × List Str} {rec : List (Nat × Nat) → Nat → List Nat → Bool × List (Nat × Nat) × List Nat}
    (hrec : ∀ M o asked, Rng M → 1 ≤ o → o ≤ 4 → Img (recS (M.map mateP) (sL [nameN o]) (asked.map colSn)) (rec M o asked)) {row : Nat} (h1 : 1 ≤ row) (h2 : row ≤ 4) :
    ∀ (cs : List Nat) (M : List (Nat × Nat)) (asked : List Nat), (∀ c ∈ cs, c < 5) → Rng M → Img (seatG recS (sL [nameN row]) (cs.map colSn) (M.map mateP) (asked.map colSn)) (seatGN rec row cs M asked) := by
  intro cs
  induction cs with
  | nil => intro M asked _ hM; exact ⟨rfl, hM⟩
  | cons c cs ih =>
    intro M asked hcs hM
    have hc := hcs c (.head _)
    have hcs2 : ∀ x ∈ cs, x < 5 := fun x hx => hcs x (.tail _ hx)
    rw [List.map_cons]
    unfold seatG seatGN
    rw [colSn_contains]
    cases asked.contains c with
    | true => exact ih M asked hcs2 hM
    | false =>
      simp only [Bool.false_eq_true, if_false]
      rw [getS_img hM hc]
      have e1 : asked.map colSn ++ [colSn c] = (asked ++ [c]).map colSn := by simp
      rw [e1]
      cases hg : getN M c with
      | none =>
        refine ⟨?_, hM.set hc h1 h2⟩
        show (true, _, _) = img _
        unfold img
        rw [setS_img hM hc]
      | some o =>
        have ho := hM _ (getN_some hg)
        obtain ⟨e2, hR⟩ := hrec M o (asked ++ [c]) hM ho.2.1 ho.2.2
        simp only [Option.map_some]
        rw [e2]
        cases e : (rec M o (asked ++ [c])).1 with
        | true =>
          have : (img (rec M o (asked ++ [c]))).1 = true := e
          simp only [this, e, if_true]
          refine ⟨?_, hR.set hc h1 h2⟩
          unfold img
          simp only
          rw [setS_img hR hc]
        | false =>
          have : (img (rec M o (asked ++ [c]))).1 = false := e
          simp only [this, e, Bool.false_eq_true, if_false]
          exact ih _ _ hcs2 hR
theorem seat_img {ts : List (Int × Int × Int)} (hok : ∀ t ∈ ts, okT t) : ∀ (n : Nat) (M : List (Nat × Nat)) (row : Nat) (asked : List Nat), Rng M → 1 ≤ row → row ≤ 4 → Img (seatF (ts.map pairS) n (M.map mateP) (sL [nameN row]) (asked.map colSn)) (seatN (adjT ts) n M row asked)
  | 0, M, row, asked, hM, _, _ => ⟨rfl, hM⟩
  | n + 1, M, row, asked, hM, h1, h2 => by
    unfold seatF seatN
    rw [getAll_img hok h1 h2]
    refine seatG_img (fun M o asked hM a b => seat_img hok n M o asked hM a b) h1 h2 _ M asked (fun c hc => ?_) hM
    obtain ⟨t, ht, -, rfl⟩ := mem_adjT.mp hc
    have := (hok t ht).2.2.1; have := (hok t ht).2.2.2.1; omega
theorem mates_num {ts : List (Int × Int × Int)} (hok : ∀ t ∈ ts, okT t) : ∃ mt : List (Nat × Nat), matesS (ts.map pairS) 4 = mt.map mateP ∧ (∀ p ∈ mt, p.1 < 5 ∧ 1 ≤ p.2 ∧ p.2 ≤ 4) ∧
    (mt.map (·.1)).Nodup ∧ (mt.map (·.2)).Nodup ∧ (∀ p ∈ mt, ∃ t ∈ ts, t.1.toNat = p.2 ∧ t.2.1.toNat = p.1) ∧ (mt.length : Int) = fewestS ts 16 := by
  have hadj : ∀ r, ∀ c ∈ adjT ts r, c < 5 := by
    intro r c hc
    obtain ⟨t, ht, -, rfl⟩ := mem_adjT.mp hc
    have := (hok t ht).2.2.1; have := (hok t ht).2.2.2.1; omega
  have k := koe_all hadj
  have r0 : Rng [] := fun _ h => nomatch h
  have s1 := seat_img hok 6 [] 1 [] r0 (by omega) (by omega)
  have s2 := seat_img hok 6 _ 2 [] s1.2 (by omega) (by omega)
  have s3 := seat_img hok 6 _ 3 [] s2.2 (by omega) (by omega)
  have s4 := seat_img hok 6 _ 4 [] s3.2 (by omega) (by omega)
  refine ⟨matesN (adjT ts) [1, 2, 3, 4], ?_, s4.2, k.good.cols, k.nd, fun p hp => ?_, koenig hok⟩
  · show (seatF (ts.map pairS) 6 (seatF (ts.map pairS) 6 (seatF (ts.map pairS) 6 (seatF (ts.map pairS) 6 [] (sL [98]) []).2.1 (sL [67]) []).2.1 (sL [100]) []).2.1 (sL [69]) []).2.1 = _
    have e1 : (seatF (ts.map pairS) 6 [] (sL [98]) []) = _ := s1.1
    have e2 : (seatF (ts.map pairS) 6 ((seatN (adjT ts) 6 [] 1 []).2.1.map mateP) (sL [67]) []) = _ := s2.1
    have e3 : (seatF (ts.map pairS) 6 ((seatN (adjT ts) 6 (seatN (adjT ts) 6 [] 1 []).2.1 2 []).2.1.map mateP) (sL [100]) []) = _ := s3.1
    have e4 : (seatF (ts.map pairS) 6 ((seatN (adjT ts) 6 (seatN (adjT ts) 6 (seatN (adjT ts) 6 [] 1 []).2.1 2 []).2.1 3 []).2.1.map mateP) (sL [69]) []) = _ := s4.1
    rw [e1]
    show (seatF (ts.map pairS) 6 (seatF (ts.map pairS) 6 (seatF (ts.map pairS) 6 ((seatN (adjT ts) 6 [] 1 []).2.1.map mateP) (sL [67]) []).2.1 (sL [100]) []).2.1 (sL [69]) []).2.1 = _
    rw [e2]
    show (seatF (ts.map pairS) 6 (seatF (ts.map pairS) 6 ((seatN (adjT ts) 6 (seatN (adjT ts) 6 [] 1 []).2.1 2 []).2.1.map mateP) (sL [100]) []).2.1 (sL [69]) []).2.1 = _
    rw [e3]
    show (seatF (ts.map pairS) 6 ((seatN (adjT ts) 6 (seatN (adjT ts) 6 (seatN (adjT ts) 6 [] 1 []).2.1 2 []).2.1 3 []).2.1.map mateP) (sL [69]) []).2.1 = _
    rw [e4]
    rfl
  · exact mem_adjT.mp (k.good.edge p hp)
end Mine
end
section
namespace Mine
open PySem
theorem lev_rook_all : ∀ r r' c c' : Fin 5, r ≠ r' → c ≠ c' → lev [65 + r.val, 65 + c.val] [65 + r'.val, 65 + c'.val] 4 = 4 := by decide +kernel
theorem lev_word_all : ∀ b : Fin 3, ∀ r r' c c' : Fin 5,
    let told := lev [65 + r.val, 65 + c.val] [65 + r'.val, 65 + c'.val] (2 + (b.val : Int))
    let due : Int := (if r = r' then 0 else 2) + (if c = c' then 0 else 2)
    told = due ∨ (2 + (b.val : Int) < due ∧ 2 + (b.val : Int) < told) := by decide +kernel
theorem rook_okc {p : Nat × Nat} (h : p.1 < 5 ∧ 1 ≤ p.2 ∧ p.2 ≤ 4) : ∀ c ∈ [65 + p.2, 65 + p.1], okc c = true := by
  intro c hc
  rcases List.mem_cons.mp hc with rfl | hc
  · exact okc_AP (by omega)
  · rw [List.mem_singleton.mp hc]; exact okc_AP (by omega)
theorem word_okc {t : Int × Int × Int} (h : okT t) : ∀ c ∈ [65 + t.1.toNat, 65 + t.2.1.toNat], okc c = true := by
  obtain ⟨a1, a2, a3, a4, -, -⟩ := h
  intro c hc
  rcases List.mem_cons.mp hc with rfl | hc
  · exact okc_AP (by omega)
  · rw [List.mem_singleton.mp hc]; exact okc_AP (by omega)
theorem nodup_ne {α : Type} {l : List α} (h : l.Nodup) {i j : Nat} (hi : i < l.length) (hj : j < l.length) (hne : i ≠ j) : l[i] ≠ l[j] := by
  intro e
  exact hne ((List.getElem_inj h).mp e)
theorem lev_rook {mt : List (Nat × Nat)} (hr : ∀ p ∈ mt, p.1 < 5 ∧ 1 ≤ p.2 ∧ p.2 ≤ 4) (h1 : (mt.map (·.1)).Nodup) (h2 : (mt.map (·.2)).Nodup) {i j : Nat} (hi : i < mt.length) (hj : j < i) :
    lev [65 + mt[i].2, 65 + mt[i].1] [65 + (mt[j]'(by omega)).2, 65 + (mt[j]'(by omega)).1] 4 = 4 := by
  have hj' : j < mt.length := by omega
  have a := hr mt[i] (List.getElem_mem hi)
  have b := hr (mt[j]'hj') (List.getElem_mem hj')
  have n1 := nodup_ne h1 (i := i) (j := j) (by simpa using hi) (by simpa using hj') (by omega)
  have n2 := nodup_ne h2 (i := i) (j := j) (by simpa using hi) (by simpa using hj') (by omega)
  simp only [List.getElem_map] at n1 n2
  exact lev_rook_all ⟨mt[i].2, by omega⟩ ⟨(mt[j]'hj').2, by omega⟩ ⟨mt[i].1, by omega⟩ ⟨(mt[j]'hj').1, by omega⟩ (fun e => n2 (by simpa using e)) (fun e => n1 (by simpa using e))
theorem lev_word {t t' : Int × Int × Int} (h : okT t) (h' : okT t') {b : Int} (hb : 2 ≤ b ∧ b ≤ 4) :
    lev [65 + t.1.toNat, 65 + t.2.1.toNat] [65 + t'.1.toNat, 65 + t'.2.1.toNat] b = (if t.1 = t'.1 then 0 else 2) + (if t.2.1 = t'.2.1 then 0 else 2) ∨
    (b < (if t.1 = t'.1 then 0 else 2) + (if t.2.1 = t'.2.1 then 0 else 2) ∧ b < lev [65 + t.1.toNat, 65 + t.2.1.toNat] [65 + t'.1.toNat, 65 + t'.2.1.toNat] b) := by
  obtain ⟨a1, a2, a3, a4, -, -⟩ := h
  obtain ⟨b1, b2, b3, b4, -, -⟩ := h'
  have := lev_word_all ⟨(b - 2).toNat, by omega⟩ ⟨t.1.toNat, by omega⟩ ⟨t'.1.toNat, by omega⟩ ⟨t.2.1.toNat, by omega⟩ ⟨t'.2.1.toNat, by omega⟩
  dsimp only at this
  have e1 : (2 : Int) + ((b - 2).toNat : Int) = b := by omega
  rw [e1] at this
  have e2 : ((⟨t.1.toNat, by omega⟩ : Fin 5) = ⟨t'.1.toNat, by omega⟩) = (t.1 = t'.1) := by
    rw [Fin.mk.injEq]; exact propext ⟨fun h => by omega, fun h => by omega⟩
  have e3 : ((⟨t.2.1.toNat, by omega⟩ : Fin 5) = ⟨t'.2.1.toNat, by omega⟩) = (t.2.1 = t'.2.1) := by
    rw [Fin.mk.injEq]; exact propext ⟨fun h => by omega, fun h => by omega⟩
  simp only [e2, e3] at this
  exact this
end Mine
end
section
namespace Mine
open PySem PySem.Calls PySem.Builtin PyProof.Rows PySem.W LCg LCp
section
variable {prog : Program} {w : World} {A : Around} {s : Shared} {h₀ : Heap} {L : Addr} {m : Str → Option Value} {env : Env}
theorem restP_of {elt : Expr} {x x₂ : Str} {scope : Scope} {cl : List (Str × Addr)} {S : List (Addr × Obj) → Prop} {P : Nat → Value → Prop} {Fin : List Value → List (Addr × Obj) → Prop} {n : Nat} {news : List (Addr × Obj)}
    (J : Nat → List Value → Prop) (hfin : ∀ ys, J n ys → Fin ys news)
    (turn : ∀ i v, i < n → P i v → ∃ (t : Addr) (ot : Obj) (v₁ v₂ : Value) (nt : Nat), v = .ref t ∧ (t, ot) ∈ news ∧ ot.cls = .type "tuple" ∧ ot.data = .seq #[v₁, v₂] nt ∧
      ∀ ys I oI C oC D m₂ h tk (E' : Value → Shared → Prop), J i ys → NsObj oC m₂ → m₂ x = some v₁ → m₂ x₂ = some v₂ → Fr h₀ L h m → News h₀ L h ((I, oI) :: (C, oC) :: (D, lst ys) :: news) → Off3 I C D news → ((@Ne Nat I C) ∧ (@Ne Nat I D) ∧ (@Ne Nat C D)) →
        wpAny (model prog w) A (eval elt (compEnvC scope cl C env)) (CompEnd h₀ L m { s with heap := h, toks := tk } I oI C oC D (lst ys) S (fun y news' => news' = news ∧ J (i + 1) (ys ++ [y]))) E' { s with heap := h, toks := tk }) :
    ∀ k i ys, i + k = n → J i ys → CompRestP prog w A h₀ L m env elt x x₂ scope cl s S P Fin k i ys news := by
  intro k
  induction k with
  | zero => intro i ys e hj; exact .zero (hfin _ (by rw [Nat.add_zero] at e; exact e ▸ hj))
  | succ k ih =>
    intro i ys e hj
    refine .succ fun v hP => ?_
    obtain ⟨t, ot, v₁, v₂, nt, e1, e2, e3, e4, go⟩ := turn i v (by omega) hP
    refine ⟨t, ot, v₁, v₂, nt, e1, e2, e3, e4, fun I oI C oC D m₂ h tk E' hN hx hx2 F N O ne => ?_⟩
    refine wpAny_mono (go ys I oI C oC D m₂ h tk E' hj hN hx hx2 F N O ne) (fun y s'' h2 => compEnd_mono h2 fun nw hr => ?_) fun _ _ e => e
    obtain ⟨rfl, hj'⟩ := hr
    exact ih _ _ (by omega) hj'
end
end Mine
end
section
namespace Mine
open PySem PySem.Calls PySem.Builtin PyProof.Rows PySem.W LCg PySem.SeqAt
section
variable {prog : Program} {w : World} {A : Around} {s : Shared} {h₀ : Heap} {L : Addr} {m : Str → Option Value} {env : Env}
theorem restU_of {elt : Expr} {x : Str} {scope : Scope} {cl : List (Str × Addr)} {S : List (Addr × Obj) → Prop} {P : Nat → Value → Prop} {Fin : List Value → List (Addr × Obj) → Prop} {n : Nat} {news : List (Addr × Obj)}
    (J : Nat → List Value → List (Addr × Obj) → Prop) (hfin : ∀ ys own, J n ys own → Fin ys (own ++ news))
    (turn : ∀ i v ys own I oI C oC D m₂ h tk (E' : Value → Shared → Prop), i < n → P i v → J i ys own → NsObj oC m₂ → m₂ x = some v → Fr h₀ L h m → News h₀ L h ((I, oI) :: (C, oC) :: (D, lst ys) :: (own ++ news)) → Off3 I C D (own ++ news) → ((@Ne Nat I C) ∧ (@Ne Nat I D) ∧ (@Ne Nat C D)) →
      wpAny (model prog w) A (eval elt (compEnvC scope cl C env)) (CompEnd h₀ L m { s with heap := h, toks := tk } I oI C oC D (lst ys) S (fun y news' => ∃ own', news' = own' ++ news ∧ J (i + 1) (ys ++ [y]) own')) E' { s with heap := h, toks := tk }) :
    ∀ k i ys own, i + k = n → J i ys own → CompRest prog w A h₀ L m env elt x scope cl s S P Fin k i ys (own ++ news) := by
  intro k
  induction k with
  | zero => intro i ys own e hj; exact .zero (hfin _ _ (by rw [Nat.add_zero] at e; exact e ▸ hj))
  | succ k ih =>
    intro i ys own e hj
    show ∀ v I oI C oC D m₂ h tk (E' : Value → Shared → Prop), _
    intro v I oI C oC D m₂ h tk E' hP hN hx F N O ne
    refine wpAny_mono (turn i v ys own I oI C oC D m₂ h tk E' (by omega) hP hj hN hx F N O ne) (fun y s'' h2 => compEnd_mono h2 fun nw hr => ?_) fun _ _ e => e
    obtain ⟨own', rfl, hj'⟩ := hr
    exact ih _ _ _ (by omega) hj'
end
noncomputable def pairD (p : Str × Str) : PyData := .tuple [.str p.1, .str p.2]
theorem pairs_reads {h : Heap} {news : List (Addr × Obj)} (hn : ∀ p ∈ news, h.get? p.1 = some p.2) {vs : List Value} {ps : List (Str × Str)} (hp : PairsIn news vs ps) : ∃ as, ReadsAll h vs (ps.map pairD) as := by
  induction hp with
  | nil => exact ⟨_, .nil⟩
  | cons hm _ ih =>
    obtain ⟨as, ih⟩ := ih
    exact ⟨_, .cons (.tuple (hn _ hm) rfl rfl (.cons (.str _ _) (.cons (.str _ _) .nil))) ih⟩
theorem pairs_lay {ps : List (Str × Str)} (h : ∀ p ∈ ps, PyData.strOk p.1 = true ∧ PyData.strOk p.2 = true) : shaped (.list (ps.map pairD)) = true := by
  have h1 : PyData.canLayAll0 (ps.map pairD) = true := by
    induction ps with
    | nil => rfl
    | cons p r ih =>
      have hp := h p (.head _)
      simp only [List.map_cons, PyData.canLayAll0, pairD, PyData.canLay0, hp.1, hp.2, Bool.and_self, Bool.true_and]
      exact ih fun q hq => h q (.tail _ hq)
  have h2 : PyData.depthAll (ps.map pairD) ≤ 1 := by
    clear h h1
    induction ps with
    | nil => exact Nat.zero_le _
    | cons p r ih => simp only [List.map_cons, PyData.depthAll, pairD, PyData.depth] at ih ⊢; omega
  unfold shaped
  simp only [PyData.canLay0, PyData.depth, h1, Bool.true_and]
  exact decide_eq_true (by omega)
section
variable {prog : Program} {w : World} {A : Around} {E : Value → Shared → Prop} {s : Shared} {h₀ : Heap} {L : Addr} {Q : Value → Shared → Prop}
theorem pairs_eq {a b : Addr} {na nb : Nat} {vs ws : List Value} {ps : List (Str × Str)} {all : List (Addr × Obj)} (N : News h₀ L s.heap all) (ha : (a, listOf vs.toArray na) ∈ all) (hb : (b, listOf ws.toArray nb) ∈ all)
    (hv : PairsIn all vs ps) (hw : PairsIn all ws ps) (hok : ∀ p ∈ ps, PyData.strOk p.1 = true ∧ PyData.strOk p.2 = true) (hu : A.units + 64 < cLine) (h : Q (.bool true) s) : wpAny (model prog w) A (compareOp .Eq (.ref a) (.ref b)) Q E s := by
  obtain ⟨as, ra⟩ := pairs_reads (fun p hp => (N p hp).1) hv
  obtain ⟨bs, rb⟩ := pairs_reads (fun p hp => (N p hp).1) hw
  have hl := pairs_lay hok
  refine eq_dataH (.list (N _ ha).1 rfl rfl (by simpa using ra)) (.list (N _ hb).1 rfl rfl (by simpa using rb)) hl hl hu ?_
  rw [eqv_refl _ (canLay_of_shaped hl)]
  exact h
end
end Mine
namespace Mine
open PySem PySem.Calls PySem.Builtin PyProof.Rows PySem.W LCg
theorem compEnd_pair {h₀ : Heap} {L : Addr} {m : Str → Option Value} {s₁ : Shared} {I C D T : Addr} {oI oC oD : Obj} {S : List (Addr × Obj) → Prop} {R : Value → List (Addr × Obj) → Prop} {kx vx : Str} {t1 t2 : Tok} {h' : Heap} {tk : Nat} {own news : List (Addr × Obj)} {X : Prop}
    (F : Fr h₀ L h' m) (N : News h₀ L h' ((T, pairObj kx vx t1 t2) :: (I, oI) :: (C, oC) :: (D, oD) :: (own ++ news))) (l9 : @LT.lt Nat _ I T ∧ @LT.lt Nat _ C T ∧ @LT.lt Nat _ D T ∧ X) (off : Off3 I C D (own ++ news))
    (hS : S (((T, pairObj kx vx t1 t2) :: own) ++ news)) (r : R (.ref T) ((T, pairObj kx vx t1 t2) :: own)) :
    CompEnd h₀ L m s₁ I oI C oC D oD S (fun y news' => ∃ own', news' = own' ++ news ∧ R y own') (.ref T) { s₁ with heap := h', toks := tk } :=
  ⟨h', tk, ((T, pairObj kx vx t1 t2) :: own) ++ news, rfl, F, fun p hp => N p (by simp only [List.mem_cons, List.mem_append] at hp ⊢; rcases hp with h | h | h | (h | h) | h <;> simp [h]), ⟨⟨Nat.ne_of_gt l9.1, Nat.ne_of_gt l9.2.1, Nat.ne_of_gt l9.2.2.1⟩, off⟩, hS, _, rfl, r⟩
theorem strOk_one {n : Nat} (h : n < 200) : PyData.strOk (sL [n]) = true := by
  rw [sL_eq]; simp [PyData.strOk]; omega
theorem take_next {α : Type} {l : List α} {i : Nat} {x : α} (h : l[i]? = some x) : l.take (i + 1) = l.take i ++ [x] := by
  rw [List.take_add_one, h]; rfl
end Mine
namespace Mine
open PySem PySem.Calls PySem.Builtin PyProof.Rows PySem.W LCg
theorem compEnd_obj {h₀ : Heap} {L : Addr} {m : Str → Option Value} {s₁ : Shared} {I C D T : Addr} {oI oC oD oT : Obj} {S : List (Addr × Obj) → Prop} {R : Value → List (Addr × Obj) → Prop} {h' : Heap} {tk : Nat} {own news : List (Addr × Obj)} {X : Prop}
    (F : Fr h₀ L h' m) (N : News h₀ L h' ((T, oT) :: (I, oI) :: (C, oC) :: (D, oD) :: (own ++ news))) (l9 : @LT.lt Nat _ I T ∧ @LT.lt Nat _ C T ∧ @LT.lt Nat _ D T ∧ X) (off : Off3 I C D (own ++ news))
    (hS : S (((T, oT) :: own) ++ news)) (r : R (.ref T) ((T, oT) :: own)) :
    CompEnd h₀ L m s₁ I oI C oC D oD S (fun y news' => ∃ own', news' = own' ++ news ∧ R y own') (.ref T) { s₁ with heap := h', toks := tk } :=
  ⟨h', tk, ((T, oT) :: own) ++ news, rfl, F, fun p hp => N p (by simp only [List.mem_cons, List.mem_append] at hp ⊢; rcases hp with h | h | h | (h | h) | h <;> simp [h]), ⟨⟨Nat.ne_of_gt l9.1, Nat.ne_of_gt l9.2.1, Nat.ne_of_gt l9.2.2.1⟩, off⟩, hS, _, rfl, r⟩
end Mine
namespace Mine
open PySem PySem.Calls PySem.Builtin PyProof.Rows PySem.W LCg
theorem compEnd_perm {h₀ : Heap} {L : Addr} {m : Str → Option Value} {s₁ : Shared} {I C D T : Addr} {oI oC oD oT : Obj} {S : List (Addr × Obj) → Prop} {R : Value → List (Addr × Obj) → Prop} {h' : Heap} {tk : Nat} {own news rest : List (Addr × Obj)} {X : Prop}
    (F : Fr h₀ L h' m) (N : News h₀ L h' ((T, oT) :: (I, oI) :: (C, oC) :: (D, oD) :: rest)) (hsub : ∀ p ∈ own ++ news, p ∈ rest) (l9 : @LT.lt Nat _ I T ∧ @LT.lt Nat _ C T ∧ @LT.lt Nat _ D T ∧ X) (off : Off3 I C D (own ++ news))
    (hS : S (((T, oT) :: own) ++ news)) (r : R (.ref T) ((T, oT) :: own)) :
    CompEnd h₀ L m s₁ I oI C oC D oD S (fun y news' => ∃ own', news' = own' ++ news ∧ R y own') (.ref T) { s₁ with heap := h', toks := tk } :=
  compEnd_obj F (cb_drop N (fun p hp => by
    rcases List.mem_cons.mp hp with h | hp
    · simp [h]
    rcases List.mem_cons.mp hp with h | hp
    · simp [h]
    rcases List.mem_cons.mp hp with h | hp
    · simp [h]
    rcases List.mem_cons.mp hp with h | hp
    · simp [h]
    · exact List.mem_cons_of_mem _ (List.mem_cons_of_mem _ (List.mem_cons_of_mem _ (List.mem_cons_of_mem _ (hsub p hp)))))) l9 off hS r
end Mine
end
section
open PySem PySem.W PyProof.Rows PySem.Calls
namespace Mine
local macro_rules | `(tactic| k_all) => `(tactic| with_reducible assumption)
theorem items_walk {w : World} {loose : List Str} {mean : ExcName → Option Value} {mg mb : Str → Option Value}
  {dp un : Nat} {gd : Option (List Code)} {cn : Str} {csn : List (Str × NameKind)} {csg csc : Bool} {csm : List (Str × Const)} {a : Addr} {ccd : Value} {cl : List (Str × Addr)} {outer : List Env} {A₀ : Around} {base h₀ : Heap} {L : Addr} {m : Str → Option Value} {news : List (Addr × Obj)} {s : Shared} {Q E : Value → Shared → Prop}
  {hA dx l : Addr} {tk nn : Nat} {vs : List Value}
  (B : Below A₀ base outer h₀) (F : Fr h₀ L s.heap m) (X : (hd01.heap_39 w.params).In h₀)
  (N : News h₀ L s.heap ((hA, instObj 182 dx) :: (dx, dictOf [⟨PyData.keyHash w.params "_headers", .str "_headers" tk, .ref l⟩] 1) :: (l, listOf vs.toArray nn) :: news)) (T : Top hd01.view_39 loose mean mg mb h₀)
  (hd : dp + 6 < recursionLimit) (hu : un + 48 < cLine) (hlen : vs.length ≤ 1000)
  (ret : ∀ (D : Addr) (k : Nat) (h' : Heap) (tk' : Nat), Fr h₀ L h' m → News h₀ L h' ((D, listOf vs.toArray k) :: (hA, instObj 182 dx) :: (dx, dictOf [⟨PyData.keyHash w.params "_headers", .str "_headers" tk, .ref l⟩] 1) :: (l, listOf vs.toArray nn) :: news) → Q (.ref D) { s with heap := h', toks := tk' }) :
  wpAny (model PySem.Challenge.rw_sw0068_01.row.prog w) (ktrTop dp un gd cn ⟨.function, csn, csg, csc, csm⟩ L a ccd cl outer) (call (.ref 146) [.ref hA]) Q E s := by
  revert X; k_fill; intro X
  refine wpAny_call ?_
  k_dflt k_enter
  k_steps
  (with_reducible rename News _ _ _ _ => N9)
  rw [PySem.slicePick_all] at N9
  exact ret _ 0 _ _ (by k_asm) (cb_drop N9 (fun p hp => hp))
end Mine
end
section
open PySem PySem.W PyProof.Rows PySem.Calls
namespace Mine
local macro_rules | `(tactic| k_room) => `(tactic| first | exact Nat.le_of_ble_eq_true rfl | ktr_room)
local macro_rules | `(tactic| walk_at "call ref") => `(tactic| (k_here; refine Hold.on ?_))
local macro_rules | `(tactic| walk_at "exec For Tuple Name cons nil") => `(tactic| (k_here; refine Hold.on ?_))
local macro_rules | `(tactic| walk_at "call builtin:bytes.decode") => `(tactic| (k_here; refine Hold.on ?_))
local macro_rules | `(tactic| walk_at "subscriptTail Name Name str int") => `(tactic| (k_here; refine Hold.on ?_))
local macro_rules | `(tactic| walk_at "binaryOp Add str str") => `(tactic| (k_here; refine Hold.on ?_))
local macro_rules | `(tactic| walk_at "subscriptTail Name Constant str int") => `(tactic| (k_here; refine Hold.on ?_))
local macro_rules | `(tactic| walk_at "call builtin:list.append") => `(tactic| (k_here; refine Hold.on ?_))
local macro_rules | `(tactic| kpf_c) => `(tactic| first | with_reducible assumption | with_reducible exact List.mem_cons_self | (with_reducible refine List.mem_cons_of_mem _ ?_; kpf_c) | (refine List.mem_append_left _ ?_; kpf_c) | (refine List.mem_append_right _ ?_; kpf_c))
local macro_rules | `(tactic| kpf_close) => `(tactic| first | exact List.forall_mem_nil _ | (with_reducible refine List.forall_mem_cons.mpr ⟨?_, ?_⟩; (focus kpf_c); kpf_close) | (refine List.forall_mem_append.mpr ⟨?_, ?_⟩; (focus kpf_close); kpf_close) | (intro p hp; kpf_c))
local macro_rules | `(tactic| k_all) => `(tactic| with_reducible assumption)
local macro_rules | `(tactic| walk_at "exec For Name Constant") => `(tactic| (k_here; refine Hold.on ?_))
local macro_rules | `(tactic| walk_at "pyIter str") => `(tactic| (refine Hold.on ?_))
local macro_rules | `(tactic| walk_at "eval ListComp") => `(tactic| (k_here; refine Hold.on ?_))
local macro_rules | `(tactic| walk_at "call builtin:str.upper") => `(tactic| (k_here; refine Hold.on ?_))
local macro_rules | `(tactic| walk_at "binaryOp Add ref ref") => `(tactic| (k_here; refine Hold.on ?_))
local macro_rules | `(tactic| walk_at "exec Assign cons ListComp") => `(tactic| (k_here; refine Hold.on ?_))
local macro_rules | `(tactic| walk_at "call builtin:len") => `(tactic| (k_here; refine Hold.on ?_))
local macro_rules | `(tactic| walk_at "exec For Name Call cons nil") => `(tactic| (k_here; refine Hold.on ?_))
local macro_rules | `(tactic| walk_at "pyIter ref") => `(tactic| (refine Hold.on ?_))
local macro_rules | `(tactic| walk_at "subscriptTail Name Name ref int") => `(tactic| (k_here; refine Hold.on ?_))
local macro_rules | `(tactic| walk_at "compareOp Eq ref ref") => `(tactic| (k_here; refine Hold.on ?_))
theorem withCells {h₀ h : Heap} {L c1 c2 : Addr} {x y : Obj} {own : List (Addr × Obj)} {P : Prop} (N : News h₀ L h (own ++ [(c2, x), (c1, y)])) (k : ∀ x9 y9, x9 = x → y9 = y → News h₀ L h ((c2, x9) :: (c1, y9) :: own) → P) : P :=
  k x y rfl rfl fun p hp => N p (by simp only [List.mem_append, List.mem_cons, List.not_mem_nil, or_false] at hp ⊢; rcases hp with h | h | h <;> simp [h])
theorem withCell {h₀ h : Heap} {L a b c d e f : Addr} {x1 x2 x3 x4 x5 x6 : Obj} {r : List (Addr × Obj)} {P : Prop} (_N : News h₀ L h ((a, x1) :: (b, x2) :: (c, x3) :: (d, x4) :: (e, x5) :: (f, x6) :: r)) (k : ∀ x9, x9 = x6 → P) : P := k x6 rfl
theorem withLt7 {a b c d e f : Prop} {x : Addr} {own : List (Addr × Obj)} {P : Prop} (_ : a ∧ b ∧ c ∧ d ∧ e ∧ f ∧ AllLt x own) (k : ∀ x9, x9 = x → P) : P := k x rfl
theorem withLt11 {a b c d e f g h i j : Prop} {x : Addr} {own : List (Addr × Obj)} {P : Prop} (_ : a ∧ b ∧ c ∧ d ∧ e ∧ f ∧ g ∧ h ∧ i ∧ j ∧ AllLt x own) (k : ∀ x9, x9 = x → P) : P := k x rfl
theorem withHd {h₀ h : Heap} {L a : Addr} {x : Obj} {r : List (Addr × Obj)} {P : Prop} (_N : News h₀ L h ((a, x) :: r)) (k : ∀ x9, x9 = a → P) : P := k a rfl
theorem withLt6 {a b c d e : Prop} {x : Addr} {own : List (Addr × Obj)} {P : Prop} (_ : a ∧ b ∧ c ∧ d ∧ e ∧ AllLt x own) (k : ∀ x9, x9 = x → P) : P := k x rfl
theorem withInts {vs : List Value} {ns : List Int} {P : Prop} (_ : IntsAre vs ns) (k : ∀ x9, x9 = ns → P) : P := k ns rfl
theorem bne_no {a : Str} {P : Prop} (h : (a != a) = true) : P := by simp at h
theorem due_eq (x y x' y' : Int) : ((2 * if (x != x') = true then 1 else 0) + 2 * if (y != y') = true then 1 else 0 : Int) = (if x = x' then 0 else 2) + (if y = y' then 0 else 2) := by
  by_cases h : x = x' <;> by_cases h2 : y = y' <;> simp [h, h2]
theorem told_no1 {told b x y x' y' : Int} {P : Prop} (h : told = (if x = x' then 0 else 2) + (if y = y' then 0 else 2) ∨ (b < (if x = x' then 0 else 2) + (if y = y' then 0 else 2) ∧ b < told)) (h1 : told ≠ (2 * if (x != x') = true then 1 else 0) + 2 * if (y != y') = true then 1 else 0) (h2 : ((2 * if (x != x') = true then 1 else 0) + 2 * if (y != y') = true then 1 else 0 : Int) ≤ b) : P := by
  rw [due_eq] at h1 h2
  rcases h with h | ⟨h, -⟩
  · exact absurd h h1
  · exact absurd h2 (Int.not_le.mpr h)
theorem told_no2 {told b x y x' y' : Int} {P : Prop} (h : told = (if x = x' then 0 else 2) + (if y = y' then 0 else 2) ∨ (b < (if x = x' then 0 else 2) + (if y = y' then 0 else 2) ∧ b < told)) (h1 : told ≠ (2 * if (x != x') = true then 1 else 0) + 2 * if (y != y') = true then 1 else 0) (h2 : told ≤ b) : P := by
  rw [due_eq] at h1
  rcases h with h | ⟨-, h⟩
  · exact absurd h h1
  · exact absurd h2 (Int.not_le.mpr h)
theorem law_walk : PySem.Challenge.rw_sw0068_01.Holds := hd01 (by
  k_go0
  all_goals try k_fold
  (k_steps; repeat' (refine Hold.off ?_; first | ((with_reducible show wpAny _ _ (subscriptTail _ _ (Value.ref _) (Value.int _ _)) _ _ _); k_dflt (refine' PyProof.Rows.item_listL (News.isList (by k_asm) (by k_mem)) ?ilb ?ilc ?ild ?_ ?ile ?ilf; (case ilb => omega); (case ilc => omega); (case ild => with_reducible assumption); (case ile => with_unfolding_all rfl); (case ilf => intro _; with_unfolding_all rfl)); k_steps) | ((with_reducible show wpAny _ _ (binaryOp _ (Value.ref _) (Value.ref _)) _ _ _); k_dflt (refine' kmk_add_lit ?adF ?adN ?ada ?adb ?ade ?_ ?adz; (case adF => k_asm); (case adN => k_asm); (case ada => kmk_list); (case adb => kmk_list); (case ade => ((try dsimp only [List.cons_append, List.nil_append]); (try rfl))); (case adz => rw [sizeLine_eq]; simp only [List.length_cons, List.length_nil]; omega)); intro D' h' F' N' l1; (try k_lt l1); (try k_sweep); k_steps) | ((with_reducible show wpAny _ _ (call (Value.builtin "str.upper") [Value.str _ _]) _ _ _); refine call_upper (by assumption) ?_; (try rw [upS_one]); (try dsimp only); k_steps) | (lct_look; k_dflt (refine LCt.ListComp_T (F₀ := by k_asm) (by with_unfolding_all rfl) (by decide) (by rfl) (by decide) (by rfl) ?_); k_steps) | ((with_reducible show wpAny _ _ (call (Value.builtin "list.append") [Value.ref _, _]) _ _ _); (with_unfolding_all refine' append_K ?apF ?apN ?apU ?_ ?apz; (case apF => k_asm); (case apN => k_asm); (case apU => k_upd); (case apz => rw [sizeLine_eq]; simp only [List.size_toArray]; omega)); intro h' F' N'; (try k_sweep); k_steps) | ((with_reducible show wpAny _ _ (subscriptTail _ _ (Value.str (sL _) _) (Value.int _ _)) _ _ _); k_dflt (refine' sl_itemP ?lei ?leh ?_ ?lej ?lek; (case lei => simp); (case leh => simp); (case lej => with_unfolding_all rfl); (case lek => intro _; with_unfolding_all rfl)); intro t9'; (try simp only [List.getD_cons_zero, List.getD_cons_succ, Int.toNat_zero, Int.toNat_one]); k_steps) | ((with_reducible show wpAny _ _ (binaryOp Operator.Add (Value.str (sL _) _) (Value.str (sL _) _)) _ _ _); refine sL_add (by simp) ?_; intro t9' k9'; dsimp only [List.cons_append, List.nil_append]; k_steps) | ((with_reducible show wpAny _ _ (subscriptTail _ _ (Value.str _ _) (Value.int _ _)) _ _ _); k_dflt (refine' letter_item ?lei ?_ ?lej ?lek; (case lei => omega); (case lej => with_unfolding_all rfl); (case lek => intro _; with_unfolding_all rfl)); intro t9'; (try dsimp only); k_steps) | ((with_reducible show wpAny _ _ (call (Value.builtin "bytes.decode") [Value.bytes _ _]) _ _ _); refine ascii_decode (by with_reducible assumption) (by with_reducible assumption) (by with_reducible assumption) (by simp) ?_; intro t9' k9'; (try dsimp only); k_steps) | ((with_reducible show wpAny _ _ (call (Value.ref 193) _ _) _ _ _); k_dflt (refine' ap_walk ?gak1 ?gak2 ?gak3 ?gak4 ?gak5 ?gad ?gau ?gax ?_; (case gak1 => k_asm); (case gak2 => k_asm); (case gak3 => k_asm); (case gak4 => k_asm); (case gak5 => k_asm); (case gad => exact Nat.le_of_ble_eq_true rfl); (case gau => exact Nat.le_of_ble_eq_true rfl); (case gax => with_reducible assumption)); intro t9' h' tk' F' N'; (try dsimp only); (try k_fold); k_steps)))
  refine Hold.off ?_
  (with_reducible rename IntsAre _ _ => hI0)
  refine withInts hI0 fun w7 e7 => ?_
  subst e7
  (with_reducible rename Heap.IsList _ _ _ => hL0)
  (rename ¬ _ < ((List.length _ : Nat) : Int) => hln0)
  k_dflt (refine' squares_walk ?gak1 ?gak2 ?gak3 ?gak4 ?gak5 ?gad ?gau hL0 hI0 (by omega) ?_; (case gak1 => k_asm); (case gak2 => k_asm); (case gak3 => k_asm); (case gak4 => k_asm); (case gak5 => k_asm); (case gad => exact Nat.le_of_ble_eq_true rfl); (case gau => exact Nat.le_of_ble_eq_true rfl))
  intro D kD ys ts own h1 tk1 F1 N0 hD hT hts hok hown
  refine withCells N0 fun oc2 oc1 e2 e1 N1 => ?_
  subst e2 e1
  (rename Shared => s1)
  (rename World => w)
  have hoc1 : ∀ p ∈ own, @Ne Nat p.1 (s1.heap.objs.size + 1) := fun p hp => news_neD N1 (x := p.2) (y := oc1) (by kpf_c) (by kpf_c) (fun e => (hown p hp).2 _ (e.trans (by assumption)))
  have hoc2 : ∀ p ∈ own, @Ne Nat p.1 (s1.heap.objs.size + 1 + 1) := fun p hp => news_neD N1 (x := p.2) (y := oc2) (by kpf_c) (by kpf_c) (fun e => (hown p hp).2 _ (e.trans (by assumption)))
  clear N0
  (try dsimp only)
  (k_steps; repeat' (refine Hold.off ?_; first | ((with_reducible show wpAny _ _ (subscriptTail _ _ (Value.ref _) (Value.int _ _)) _ _ _); k_dflt (refine' PyProof.Rows.item_listL (News.isList (by k_asm) (by k_mem)) ?ilb ?ilc ?ild ?_ ?ile ?ilf; (case ilb => omega); (case ilc => omega); (case ild => with_reducible assumption); (case ile => with_unfolding_all rfl); (case ilf => intro _; with_unfolding_all rfl)); k_steps) | ((with_reducible show wpAny _ _ (binaryOp _ (Value.ref _) (Value.ref _)) _ _ _); k_dflt (refine' kmk_add_lit ?adF ?adN ?ada ?adb ?ade ?_ ?adz; (case adF => k_asm); (case adN => k_asm); (case ada => kmk_list); (case adb => kmk_list); (case ade => ((try dsimp only [List.cons_append, List.nil_append]); (try rfl))); (case adz => rw [sizeLine_eq]; simp only [List.length_cons, List.length_nil]; omega)); intro D' h' F' N' l1; (try k_lt l1); (try k_sweep); k_steps) | ((with_reducible show wpAny _ _ (call (Value.builtin "str.upper") [Value.str _ _]) _ _ _); refine call_upper (by assumption) ?_; (try rw [upS_one]); (try dsimp only); k_steps) | (lct_look; k_dflt (refine LCt.ListComp_T (F₀ := by k_asm) (by with_unfolding_all rfl) (by decide) (by rfl) (by decide) (by rfl) ?_); k_steps) | ((with_reducible show wpAny _ _ (call (Value.builtin "list.append") [Value.ref _, _]) _ _ _); (with_unfolding_all refine' append_K ?apF ?apN ?apU ?_ ?apz; (case apF => k_asm); (case apN => k_asm); (case apU => k_upd); (case apz => rw [sizeLine_eq]; simp only [List.size_toArray]; omega)); intro h' F' N'; (try k_sweep); k_steps) | ((with_reducible show wpAny _ _ (subscriptTail _ _ (Value.str (sL _) _) (Value.int _ _)) _ _ _); k_dflt (refine' sl_itemP ?lei ?leh ?_ ?lej ?lek; (case lei => simp); (case leh => simp); (case lej => with_unfolding_all rfl); (case lek => intro _; with_unfolding_all rfl)); intro t9'; (try simp only [List.getD_cons_zero, List.getD_cons_succ, Int.toNat_zero, Int.toNat_one]); k_steps) | ((with_reducible show wpAny _ _ (binaryOp Operator.Add (Value.str (sL _) _) (Value.str (sL _) _)) _ _ _); refine sL_add (by simp) ?_; intro t9' k9'; dsimp only [List.cons_append, List.nil_append]; k_steps) | ((with_reducible show wpAny _ _ (subscriptTail _ _ (Value.str _ _) (Value.int _ _)) _ _ _); k_dflt (refine' letter_item ?lei ?_ ?lej ?lek; (case lei => omega); (case lej => with_unfolding_all rfl); (case lek => intro _; with_unfolding_all rfl)); intro t9'; (try dsimp only); k_steps) | ((with_reducible show wpAny _ _ (call (Value.builtin "bytes.decode") [Value.bytes _ _]) _ _ _); refine ascii_decode (by with_reducible assumption) (by with_reducible assumption) (by with_reducible assumption) (by simp) ?_; intro t9' k9'; (try dsimp only); k_steps) | ((with_reducible show wpAny _ _ (call (Value.ref 193) _ _) _ _ _); k_dflt (refine' ap_walk ?gak1 ?gak2 ?gak3 ?gak4 ?gak5 ?gad ?gau ?gax ?_; (case gak1 => k_asm); (case gak2 => k_asm); (case gak3 => k_asm); (case gak4 => k_asm); (case gak5 => k_asm); (case gad => exact Nat.le_of_ble_eq_true rfl); (case gau => exact Nat.le_of_ble_eq_true rfl); (case gax => with_reducible assumption)); intro t9' h' tk' F' N'; (try dsimp only); (try k_fold); k_steps)))
  refine Hold.off ?_
  (rename Addr => bl)
  (rename _ ∧ _ ∧ AllLt bl own => lbl)
  have hbl1 : @LT.lt Nat _ (s1.heap.objs.size + 1) bl := lbl.2.1
  have hbl2 : @LT.lt Nat _ (s1.heap.objs.size + 1 + 1) bl := lbl.1
  have hbl3 : ∀ p ∈ own, @LT.lt Nat _ p.1 bl := allLt_mem lbl.2.2
  (with_reducible rename News _ _ _ _ => N2)
  k_dflt (refine' init_walk ?gak1 ?gak2 ?gak3 N2 ?gak5 ?gad ?gau ?_; (case gak1 => k_asm); (case gak2 => k_asm); (case gak3 => k_asm); (case gak5 => k_asm); (case gad => exact Nat.le_of_ble_eq_true rfl); (case gau => exact Nat.le_of_ble_eq_true rfl))
  intro bA bdx tb h2 tk2 F2 N3
  have hbA1 : @Ne Nat bA (s1.heap.objs.size + 1) := news_neD N3 (x := instObj 182 bdx) (y := oc1) (by kpf_c) (by kpf_c) (fun e => Data.noConfusion (e.trans (by assumption)))
  have hbA2 : @Ne Nat bA (s1.heap.objs.size + 1 + 1) := news_neD N3 (x := instObj 182 bdx) (y := oc2) (by kpf_c) (by kpf_c) (fun e => Data.noConfusion (e.trans (by assumption)))
  have hbd1 : @Ne Nat bdx (s1.heap.objs.size + 1) := news_neD N3 (x := dictOf [⟨PyData.keyHash w.params "_headers", .str "_headers" tb, .ref bl⟩] 1) (y := oc1) (by kpf_c) (by kpf_c) (fun e => Data.noConfusion (e.trans (by assumption)))
  have hbd2 : @Ne Nat bdx (s1.heap.objs.size + 1 + 1) := news_neD N3 (x := dictOf [⟨PyData.keyHash w.params "_headers", .str "_headers" tb, .ref bl⟩] 1) (y := oc2) (by kpf_c) (by kpf_c) (fun e => Data.noConfusion (e.trans (by assumption)))
  have hbAl : @Ne Nat bA bl := news_ne N3 (x := instObj 182 bdx) (y := listOf #[] 0) (.head _) (by kpf_c) (fun e => nomatch e)
  have hbdl : @Ne Nat bdx bl := news_ne N3 (x := dictOf [⟨PyData.keyHash w.params "_headers", .str "_headers" tb, .ref bl⟩] 1) (y := listOf #[] 0) (by kpf_c) (by kpf_c) (by show Value.type "dict" ≠ Value.type "list"; decide)
  clear N2
  (try dsimp only)
  (k_steps; repeat' (refine Hold.off ?_; first | ((with_reducible show wpAny _ _ (subscriptTail _ _ (Value.ref _) (Value.int _ _)) _ _ _); k_dflt (refine' PyProof.Rows.item_listL (News.isList (by k_asm) (by k_mem)) ?ilb ?ilc ?ild ?_ ?ile ?ilf; (case ilb => omega); (case ilc => omega); (case ild => with_reducible assumption); (case ile => with_unfolding_all rfl); (case ilf => intro _; with_unfolding_all rfl)); k_steps) | ((with_reducible show wpAny _ _ (binaryOp _ (Value.ref _) (Value.ref _)) _ _ _); k_dflt (refine' kmk_add_lit ?adF ?adN ?ada ?adb ?ade ?_ ?adz; (case adF => k_asm); (case adN => k_asm); (case ada => kmk_list); (case adb => kmk_list); (case ade => ((try dsimp only [List.cons_append, List.nil_append]); (try rfl))); (case adz => rw [sizeLine_eq]; simp only [List.length_cons, List.length_nil]; omega)); intro D' h' F' N' l1; (try k_lt l1); (try k_sweep); k_steps) | ((with_reducible show wpAny _ _ (call (Value.builtin "str.upper") [Value.str _ _]) _ _ _); refine call_upper (by assumption) ?_; (try rw [upS_one]); (try dsimp only); k_steps) | (lct_look; k_dflt (refine LCt.ListComp_T (F₀ := by k_asm) (by with_unfolding_all rfl) (by decide) (by rfl) (by decide) (by rfl) ?_); k_steps) | ((with_reducible show wpAny _ _ (call (Value.builtin "list.append") [Value.ref _, _]) _ _ _); (with_unfolding_all refine' append_K ?apF ?apN ?apU ?_ ?apz; (case apF => k_asm); (case apN => k_asm); (case apU => k_upd); (case apz => rw [sizeLine_eq]; simp only [List.size_toArray]; omega)); intro h' F' N'; (try k_sweep); k_steps) | ((with_reducible show wpAny _ _ (subscriptTail _ _ (Value.str (sL _) _) (Value.int _ _)) _ _ _); k_dflt (refine' sl_itemP ?lei ?leh ?_ ?lej ?lek; (case lei => simp); (case leh => simp); (case lej => with_unfolding_all rfl); (case lek => intro _; with_unfolding_all rfl)); intro t9'; (try simp only [List.getD_cons_zero, List.getD_cons_succ, Int.toNat_zero, Int.toNat_one]); k_steps) | ((with_reducible show wpAny _ _ (binaryOp Operator.Add (Value.str (sL _) _) (Value.str (sL _) _)) _ _ _); refine sL_add (by simp) ?_; intro t9' k9'; dsimp only [List.cons_append, List.nil_append]; k_steps) | ((with_reducible show wpAny _ _ (subscriptTail _ _ (Value.str _ _) (Value.int _ _)) _ _ _); k_dflt (refine' letter_item ?lei ?_ ?lej ?lek; (case lei => omega); (case lej => with_unfolding_all rfl); (case lek => intro _; with_unfolding_all rfl)); intro t9'; (try dsimp only); k_steps) | ((with_reducible show wpAny _ _ (call (Value.builtin "bytes.decode") [Value.bytes _ _]) _ _ _); refine ascii_decode (by with_reducible assumption) (by with_reducible assumption) (by with_reducible assumption) (by simp) ?_; intro t9' k9'; (try dsimp only); k_steps) | ((with_reducible show wpAny _ _ (call (Value.ref 193) _ _) _ _ _); k_dflt (refine' ap_walk ?gak1 ?gak2 ?gak3 ?gak4 ?gak5 ?gad ?gau ?gax ?_; (case gak1 => k_asm); (case gak2 => k_asm); (case gak3 => k_asm); (case gak4 => k_asm); (case gak5 => k_asm); (case gad => exact Nat.le_of_ble_eq_true rfl); (case gau => exact Nat.le_of_ble_eq_true rfl); (case gax => with_reducible assumption)); intro t9' h' tk' F' N'; (try dsimp only); (try k_fold); k_steps)))
  refine Hold.off ?_
  (rename _ ∧ _ ∧ _ ∧ _ ∧ _ ∧ AllLt _ own => lwl)
  refine withLt6 lwl fun wl hwl => ?_
  subst hwl
  (rename Obj => oc1')
  (rename oc1'.data = _ => hdc1)
  (with_reducible rename Fr _ _ _ _ => F4)
  have hbA1 := hbA1
  (with_unfolding_all refine' For_turns F4 ?_; k_whole)
  (k_steps; repeat' (refine Hold.off ?_; first | ((with_reducible show wpAny _ _ (subscriptTail _ _ (Value.ref _) (Value.int _ _)) _ _ _); k_dflt (refine' PyProof.Rows.item_listL (News.isList (by k_asm) (by k_mem)) ?ilb ?ilc ?ild ?_ ?ile ?ilf; (case ilb => omega); (case ilc => omega); (case ild => with_reducible assumption); (case ile => with_unfolding_all rfl); (case ilf => intro _; with_unfolding_all rfl)); k_steps) | ((with_reducible show wpAny _ _ (binaryOp _ (Value.ref _) (Value.ref _)) _ _ _); k_dflt (refine' kmk_add_lit ?adF ?adN ?ada ?adb ?ade ?_ ?adz; (case adF => k_asm); (case adN => k_asm); (case ada => kmk_list); (case adb => kmk_list); (case ade => ((try dsimp only [List.cons_append, List.nil_append]); (try rfl))); (case adz => rw [sizeLine_eq]; simp only [List.length_cons, List.length_nil]; omega)); intro D' h' F' N' l1; (try k_lt l1); (try k_sweep); k_steps) | ((with_reducible show wpAny _ _ (call (Value.builtin "str.upper") [Value.str _ _]) _ _ _); refine call_upper (by assumption) ?_; (try rw [upS_one]); (try dsimp only); k_steps) | (lct_look; k_dflt (refine LCt.ListComp_T (F₀ := by k_asm) (by with_unfolding_all rfl) (by decide) (by rfl) (by decide) (by rfl) ?_); k_steps) | ((with_reducible show wpAny _ _ (call (Value.builtin "list.append") [Value.ref _, _]) _ _ _); (with_unfolding_all refine' append_K ?apF ?apN ?apU ?_ ?apz; (case apF => k_asm); (case apN => k_asm); (case apU => k_upd); (case apz => rw [sizeLine_eq]; simp only [List.size_toArray]; omega)); intro h' F' N'; (try k_sweep); k_steps) | ((with_reducible show wpAny _ _ (subscriptTail _ _ (Value.str (sL _) _) (Value.int _ _)) _ _ _); k_dflt (refine' sl_itemP ?lei ?leh ?_ ?lej ?lek; (case lei => simp); (case leh => simp); (case lej => with_unfolding_all rfl); (case lek => intro _; with_unfolding_all rfl)); intro t9'; (try simp only [List.getD_cons_zero, List.getD_cons_succ, Int.toNat_zero, Int.toNat_one]); k_steps) | ((with_reducible show wpAny _ _ (binaryOp Operator.Add (Value.str (sL _) _) (Value.str (sL _) _)) _ _ _); refine sL_add (by simp) ?_; intro t9' k9'; dsimp only [List.cons_append, List.nil_append]; k_steps) | ((with_reducible show wpAny _ _ (subscriptTail _ _ (Value.str _ _) (Value.int _ _)) _ _ _); k_dflt (refine' letter_item ?lei ?_ ?lej ?lek; (case lei => omega); (case lej => with_unfolding_all rfl); (case lek => intro _; with_unfolding_all rfl)); intro t9'; (try dsimp only); k_steps) | ((with_reducible show wpAny _ _ (call (Value.builtin "bytes.decode") [Value.bytes _ _]) _ _ _); refine ascii_decode (by with_reducible assumption) (by with_reducible assumption) (by with_reducible assumption) (by simp) ?_; intro t9' k9'; (try dsimp only); k_steps) | ((with_reducible show wpAny _ _ (call (Value.ref 193) _ _) _ _ _); k_dflt (refine' ap_walk ?gak1 ?gak2 ?gak3 ?gak4 ?gak5 ?gad ?gau ?gax ?_; (case gak1 => k_asm); (case gak2 => k_asm); (case gak3 => k_asm); (case gak4 => k_asm); (case gak5 => k_asm); (case gad => exact Nat.le_of_ble_eq_true rfl); (case gau => exact Nat.le_of_ble_eq_true rfl); (case gax => with_reducible assumption)); intro t9' h' tk' F' N'; (try dsimp only); (try k_fold); k_steps)))
  refine Hold.off ?_
  (with_reducible rename News _ _ _ _ => N4)
  have N5 := cb_drop (news := (wl, listOf ([] : List Value).toArray 0) :: hdrO w bA bdx bl tb [] 0 ((s1.heap.objs.size + 1 + 1, oc2) :: (s1.heap.objs.size + 1, oc1') :: ([] ++ own))) N4 (fun p hp => hp)
  refine iter_listTurns (lo := listOf ys.toArray kD) (by rfl) (by k_asm) N5 (by kpf_c) rfl rfl ?_
  intro I hI
  refine itemsRest_blind (fun j m3 n3 => ∃ (wvs bvs : List Value) (wn bn : Nat) (own2 : List (Addr × Obj)) (tl tbo : Tok),
      m3 (Str.ofString "letters") = some (.str (Str.ofString "ABCDEFGHIJKLMNOP") tl) ∧ m3 (Str.ofString "squares") = some (.ref D) ∧ m3 (Str.ofString "bound") = some (.int (2 + (w7.sum).fmod 3) tbo) ∧ m3 (Str.ofString "board") = some (.ref bA) ∧
      n3 = (wl, listOf wvs.toArray wn) :: hdrO w bA bdx bl tb bvs bn ((s1.heap.objs.size + 1 + 1, oc2) :: (s1.heap.objs.size + 1, oc1') :: (own2 ++ own)) ∧ (∀ p ∈ own2, p.2.cls = .type "tuple" ∧ ∀ v, p.2.data ≠ .cell v) ∧ PairsIn (own2 ++ own) bvs ((ts.take j).map pairS) ∧ StrsAre wvs ((ts.take j).map wordS)) ?turnA ?doneA ?zA
  case zA => exact ⟨[], [], 0, 0, [], _, _, by with_unfolding_all rfl, by with_unfolding_all rfl, by with_unfolding_all rfl, by with_unfolding_all rfl, rfl, by simp, .nil, .nil⟩
  case turnA =>
    rintro Q9 j a0 v3 h3 tk3 m3 n3 hx3 hv3 ⟨wvs, bvs, wn, bn, own2, tl, tbo, hk1, hk2, hk3, hk4, rfl, hown2, hps, hws⟩ F3
    obtain ⟨v1, hv1, rfl⟩ : ∃ v1, ys[j]? = some v1 ∧ a0 = .val v1 := by
      rw [List.getElem?_map] at hx3
      cases hq : ys[j]? with
      | none => rw [hq] at hx3; cases hx3
      | some v1 => rw [hq] at hx3; exact ⟨v1, rfl, (Option.some.inj hx3).symm⟩
    have hv' : v3 = v1 := hv3
    subst hv'
    obtain ⟨aP, x1, x2, x3, tA, tB, tC, rfl, hm, hp⟩ := hT.get hv1
    have hok1 : okT (x1, x2, x3) := hok _ (List.mem_of_getElem? hp)
    have hjl : (ts.take j).length ≤ 6 := by rw [List.length_take]; omega
    have hbl9 : bvs.length ≤ 6 := by rw [hps.length, List.length_map]; exact hjl
    have hwl9 : wvs.length ≤ 6 := by rw [hws.length, List.length_map]; exact hjl
    rw [← fr_eq [(_, _), (_, _), (_, _), (_, _)] (List.forall_mem_cons.mpr ⟨hk1, List.forall_mem_cons.mpr ⟨hk2, List.forall_mem_cons.mpr ⟨hk3, List.forall_mem_cons.mpr ⟨hk4, List.forall_mem_nil _⟩⟩⟩⟩)] at F3
    dsimp only [kstB] at F3
    clear hk1 hk2 hk3 hk4
    refine AllObj.cons fun oI hcI => AllObj.nil fun N3 => ?_
    unfold hdrO at N3
    dsimp only [List.cons_append, List.nil_append] at N3
    have N9 := news_more (x := (aP, tripObj x1 x2 x3 tA tB tC)) N3 (by kpf_c)
    clear N3
    have hr1 := hok1.1
    have hr2 := hok1.2.1
    have hr3 := hok1.2.2.1
    have hr4 := hok1.2.2.2.1
    dsimp only at hr1 hr2 hr3 hr4
    have hap := okT_ap hok1
    have hsm := okT_small hok1
    have hne9 : [65 + x1.toNat, 65 + x2.toNat] ≠ [] := fun e => nomatch e
    have has9 : ∀ c ∈ [65 + x1.toNat, 65 + x2.toNat], c < 128 := by intro c hc; simp at hc; omega
    have hlt9 : @LT.lt Nat _ aP bl := hbl3 _ hm
    have hIw : @LT.lt Nat _ wl I := hI _ (.head _)
    have howl : ∀ p ∈ own2 ++ own, p.1 ≠ wl := fun p hp => by
      rcases List.mem_append.mp hp with hp | hp
      · exact news_ne N9 (x := p.2) (y := listOf wvs.toArray wn) (by kpf_c) (by kpf_c) (by rw [(hown2 p hp).1]; show Value.type "tuple" ≠ Value.type "list"; decide)
      · exact Nat.ne_of_lt (allLt_mem lwl.2.2.2.2.2 p hp)
    (k_steps; repeat' (refine Hold.off ?_; first | ((with_reducible show wpAny _ _ (subscriptTail _ _ (Value.ref _) (Value.int _ _)) _ _ _); k_dflt (refine' PyProof.Rows.item_listL (News.isList (by k_asm) (by k_mem)) ?ilb ?ilc ?ild ?_ ?ile ?ilf; (case ilb => omega); (case ilc => omega); (case ild => with_reducible assumption); (case ile => with_unfolding_all rfl); (case ilf => intro _; with_unfolding_all rfl)); k_steps) | ((with_reducible show wpAny _ _ (binaryOp _ (Value.ref _) (Value.ref _)) _ _ _); k_dflt (refine' kmk_add_lit ?adF ?adN ?ada ?adb ?ade ?_ ?adz; (case adF => k_asm); (case adN => k_asm); (case ada => kmk_list); (case adb => kmk_list); (case ade => ((try dsimp only [List.cons_append, List.nil_append]); (try rfl))); (case adz => rw [sizeLine_eq]; simp only [List.length_cons, List.length_nil]; omega)); intro D' h' F' N' l1; (try k_lt l1); (try k_sweep); k_steps) | ((with_reducible show wpAny _ _ (call (Value.builtin "str.upper") [Value.str _ _]) _ _ _); refine call_upper (by assumption) ?_; (try rw [upS_one]); (try dsimp only); k_steps) | (lct_look; k_dflt (refine LCt.ListComp_T (F₀ := by k_asm) (by with_unfolding_all rfl) (by decide) (by rfl) (by decide) (by rfl) ?_); k_steps) | ((with_reducible show wpAny _ _ (call (Value.builtin "list.append") [Value.ref _, _]) _ _ _); (with_unfolding_all refine' append_K ?apF ?apN ?apU ?_ ?apz; (case apF => k_asm); (case apN => k_asm); (case apU => k_upd); (case apz => rw [sizeLine_eq]; simp only [List.size_toArray]; omega)); intro h' F' N'; (try k_sweep); k_steps) | ((with_reducible show wpAny _ _ (subscriptTail _ _ (Value.str (sL _) _) (Value.int _ _)) _ _ _); k_dflt (refine' sl_itemP ?lei ?leh ?_ ?lej ?lek; (case lei => simp); (case leh => simp); (case lej => with_unfolding_all rfl); (case lek => intro _; with_unfolding_all rfl)); intro t9'; (try simp only [List.getD_cons_zero, List.getD_cons_succ, Int.toNat_zero, Int.toNat_one]); k_steps) | ((with_reducible show wpAny _ _ (binaryOp Operator.Add (Value.str (sL _) _) (Value.str (sL _) _)) _ _ _); refine sL_add (by simp) ?_; intro t9' k9'; dsimp only [List.cons_append, List.nil_append]; k_steps) | ((with_reducible show wpAny _ _ (subscriptTail _ _ (Value.str _ _) (Value.int _ _)) _ _ _); k_dflt (refine' letter_item ?lei ?_ ?lej ?lek; (case lei => omega); (case lej => with_unfolding_all rfl); (case lek => intro _; with_unfolding_all rfl)); intro t9'; (try dsimp only); k_steps) | ((with_reducible show wpAny _ _ (call (Value.builtin "bytes.decode") [Value.bytes _ _]) _ _ _); refine ascii_decode (by with_reducible assumption) (by with_reducible assumption) (by with_reducible assumption) (by simp) ?_; intro t9' k9'; (try dsimp only); k_steps) | ((with_reducible show wpAny _ _ (call (Value.ref 193) _ _) _ _ _); k_dflt (refine' ap_walk ?gak1 ?gak2 ?gak3 ?gak4 ?gak5 ?gad ?gau ?gax ?_; (case gak1 => k_asm); (case gak2 => k_asm); (case gak3 => k_asm); (case gak4 => k_asm); (case gak5 => k_asm); (case gad => exact Nat.le_of_ble_eq_true rfl); (case gau => exact Nat.le_of_ble_eq_true rfl); (case gax => with_reducible assumption)); intro t9' h' tk' F' N'; (try dsimp only); (try k_fold); k_steps)))
    all_goals try exact bne_no (by with_reducible assumption)
    refine Hold.off ?_
    (with_reducible rename News _ _ _ _ => N6)
    have N7 := cb_drop (news := hdrO w bA bdx bl tb bvs bn ((I, oI) :: (wl, listOf (wvs ++ [Value.str (sL [65 + x1.toNat, 65 + x2.toNat]) _]).toArray (wn + 1)) :: (s1.heap.objs.size + 1 + 1, oc2) :: (s1.heap.objs.size + 1, oc1') :: (own2 ++ own))) N6 (by unfold hdrO; rw [← List.push_toArray]; kcf_all)
    clear N6
    have hoff7 : ∀ p ∈ own2 ++ own, @Ne Nat p.1 bl := fun p hp => by
      rcases List.mem_append.mp hp with hp | hp
      · exact news_ne N7 (x := p.2) (y := listOf bvs.toArray bn) (by kpf_c) (by kpf_c) (by rw [(hown2 p hp).1]; show Value.type "tuple" ≠ Value.type "list"; decide)
      · exact Nat.ne_of_lt (hbl3 p hp)
    have hIb : @LT.lt Nat _ bl I := hI (bl, listOf #[] 0) (by kpf_c)
    have hwb : @LT.lt Nat _ bl wl := lwl.2.2.1
    unfold hdrO at N7
    k_dflt (refine' add_walk ?gak1 ?gak2 ?gak3 N7 ?gak5 ?gad ?gau ?gax ?gay hbAl hbdl ?gao ?gal ?_; (case gak1 => k_asm); (case gak2 => k_asm); (case gak3 => k_asm); (case gak5 => k_asm); (case gad => exact Nat.le_of_ble_eq_true rfl); (case gau => exact Nat.le_of_ble_eq_true rfl); (case gax => exact okS_one (okc_AP (by omega))); (case gay => exact okS_one (okc_AP (by omega))); (case gao => exact List.forall_mem_cons.mpr ⟨Nat.ne_of_gt hIb, List.forall_mem_cons.mpr ⟨Nat.ne_of_gt hwb, List.forall_mem_cons.mpr ⟨Nat.ne_of_lt hbl2, List.forall_mem_cons.mpr ⟨Nat.ne_of_lt hbl1, hoff7⟩⟩⟩⟩); (case gal => omega))
    clear N7
    intro T7 t71 t72 h7 tk7 F7 N7
    (try dsimp only)
    (k_steps; repeat' (refine Hold.off ?_; first | ((with_reducible show wpAny _ _ (subscriptTail _ _ (Value.ref _) (Value.int _ _)) _ _ _); k_dflt (refine' PyProof.Rows.item_listL (News.isList (by k_asm) (by k_mem)) ?ilb ?ilc ?ild ?_ ?ile ?ilf; (case ilb => omega); (case ilc => omega); (case ild => with_reducible assumption); (case ile => with_unfolding_all rfl); (case ilf => intro _; with_unfolding_all rfl)); k_steps) | ((with_reducible show wpAny _ _ (binaryOp _ (Value.ref _) (Value.ref _)) _ _ _); k_dflt (refine' kmk_add_lit ?adF ?adN ?ada ?adb ?ade ?_ ?adz; (case adF => k_asm); (case adN => k_asm); (case ada => kmk_list); (case adb => kmk_list); (case ade => ((try dsimp only [List.cons_append, List.nil_append]); (try rfl))); (case adz => rw [sizeLine_eq]; simp only [List.length_cons, List.length_nil]; omega)); intro D' h' F' N' l1; (try k_lt l1); (try k_sweep); k_steps) | ((with_reducible show wpAny _ _ (call (Value.builtin "str.upper") [Value.str _ _]) _ _ _); refine call_upper (by assumption) ?_; (try rw [upS_one]); (try dsimp only); k_steps) | (lct_look; k_dflt (refine LCt.ListComp_T (F₀ := by k_asm) (by with_unfolding_all rfl) (by decide) (by rfl) (by decide) (by rfl) ?_); k_steps) | ((with_reducible show wpAny _ _ (call (Value.builtin "list.append") [Value.ref _, _]) _ _ _); (with_unfolding_all refine' append_K ?apF ?apN ?apU ?_ ?apz; (case apF => k_asm); (case apN => k_asm); (case apU => k_upd); (case apz => rw [sizeLine_eq]; simp only [List.size_toArray]; omega)); intro h' F' N'; (try k_sweep); k_steps) | ((with_reducible show wpAny _ _ (subscriptTail _ _ (Value.str (sL _) _) (Value.int _ _)) _ _ _); k_dflt (refine' sl_itemP ?lei ?leh ?_ ?lej ?lek; (case lei => simp); (case leh => simp); (case lej => with_unfolding_all rfl); (case lek => intro _; with_unfolding_all rfl)); intro t9'; (try simp only [List.getD_cons_zero, List.getD_cons_succ, Int.toNat_zero, Int.toNat_one]); k_steps) | ((with_reducible show wpAny _ _ (binaryOp Operator.Add (Value.str (sL _) _) (Value.str (sL _) _)) _ _ _); refine sL_add (by simp) ?_; intro t9' k9'; dsimp only [List.cons_append, List.nil_append]; k_steps) | ((with_reducible show wpAny _ _ (subscriptTail _ _ (Value.str _ _) (Value.int _ _)) _ _ _); k_dflt (refine' letter_item ?lei ?_ ?lej ?lek; (case lei => omega); (case lej => with_unfolding_all rfl); (case lek => intro _; with_unfolding_all rfl)); intro t9'; (try dsimp only); k_steps) | ((with_reducible show wpAny _ _ (call (Value.builtin "bytes.decode") [Value.bytes _ _]) _ _ _); refine ascii_decode (by with_reducible assumption) (by with_reducible assumption) (by with_reducible assumption) (by simp) ?_; intro t9' k9'; (try dsimp only); k_steps) | ((with_reducible show wpAny _ _ (call (Value.ref 193) _ _) _ _ _); k_dflt (refine' ap_walk ?gak1 ?gak2 ?gak3 ?gak4 ?gak5 ?gad ?gau ?gax ?_; (case gak1 => k_asm); (case gak2 => k_asm); (case gak3 => k_asm); (case gak4 => k_asm); (case gak5 => k_asm); (case gad => exact Nat.le_of_ble_eq_true rfl); (case gau => exact Nat.le_of_ble_eq_true rfl); (case gax => with_reducible assumption)); intro t9' h' tk' F' N'; (try dsimp only); (try k_fold); k_steps)))
    all_goals try exact bne_no (by with_reducible assumption)
    (with_reducible rename News _ _ _ _ => N8)
    have hown3 : ∀ p ∈ (T7, pairObj (sL [65 + x1.toNat]) (sL [65 + x2.toNat]) t71 t72) :: own2, p.2.cls = .type "tuple" ∧ ∀ v, p.2.data ≠ .cell v := List.forall_mem_cons.mpr ⟨⟨rfl, fun v e => nomatch e⟩, hown2⟩
    refine unrEnd2 (news := (wl, listOf (wvs ++ [Value.str (sL [65 + x1.toNat, 65 + x2.toNat]) ?tk8]).toArray (wn + 1)) :: hdrO w bA bdx bl tb (bvs ++ [Value.ref T7]) (bn + 1) ((s1.heap.objs.size + 1 + 1, oc2) :: (s1.heap.objs.size + 1, oc1') :: (((T7, pairObj (sL [65 + x1.toNat]) (sL [65 + x2.toNat]) t71 t72) :: own2) ++ own))) (by k_asm) N8 ?hs8 ?hI8 ⟨⟨by simp [hdrO, hD], trivial⟩, _, _, _, _, _, tl, tbo, by with_unfolding_all rfl, by with_unfolding_all rfl, by with_unfolding_all rfl, by with_unfolding_all rfl, rfl, hown3, ?hps8, ?hws8⟩
    case hs8 => unfold hdrO; rw [← List.push_toArray (l := bvs)]; kcf_all
    case hps8 => rw [take_map_next hp]; exact (hps.mono (by (try unfold hdrO); kpf_close)).snoc (.head _)
    case hws8 => rw [take_map_next hp]; exact StrsAre.snoc' hws
    case hI8 =>
      intro p hp
      unfold hdrO at hp
      rw [List.mem_cons, List.mem_cons, List.mem_cons, List.mem_cons, List.mem_cons, List.mem_cons, List.mem_append] at hp
      rcases hp with rfl | rfl | rfl | rfl | rfl | rfl | hp | hp
      · exact Nat.ne_of_lt hIw
      · exact Nat.ne_of_lt (hI (bA, instObj 182 bdx) (by kpf_c))
      · exact Nat.ne_of_lt (hI (bdx, dictOf [⟨PyData.keyHash w.params "_headers", .str "_headers" tb, .ref bl⟩] 1) (by kpf_c))
      · exact Nat.ne_of_lt hIb
      · exact Nat.ne_of_lt (hI (s1.heap.objs.size + 1 + 1, oc2) (by kpf_c))
      · exact Nat.ne_of_lt (hI (s1.heap.objs.size + 1, oc1') (by kpf_c))
      · exact news_ne N8 (x := p.2) (y := oI) (by simp only [List.mem_cons, List.mem_append] at hp ⊢; rcases hp with h | h <;> simp [h]) (by kpf_c) (by rw [(hown3 p hp).1, hcI]; show Value.type "tuple" ≠ Value.type "list_iterator"; decide)
      · exact Nat.ne_of_lt (hI p (by kpf_c))
  case doneA =>
    rintro h3 tk3 m3 n3 ⟨wvs, bvs, wn, bn, own2, tl, tbo, hk1, hk2, hk3, hk4, rfl, hown2, hps, hws⟩ F3 N3
    have hlen6 : (List.map Itm.val ys).length = 6 := by rw [List.length_map, hT.length, hts]
    have htk : ts.take (List.map Itm.val ys).length = ts := List.take_of_length_le (by omega)
    rw [htk] at hps hws
    rw [← fr_eq [(_, _), (_, _), (_, _), (_, _)] (List.forall_mem_cons.mpr ⟨hk1, List.forall_mem_cons.mpr ⟨hk2, List.forall_mem_cons.mpr ⟨hk3, List.forall_mem_cons.mpr ⟨hk4, List.forall_mem_nil _⟩⟩⟩⟩)] at F3
    dsimp only [kstB] at F3
    clear hk1 hk2 hk3 hk4
    unfold hdrO at N3
    have hoB : ∀ p ∈ own2 ++ own, @Ne Nat p.1 bl := fun p hp => by
      rcases List.mem_append.mp hp with hp | hp
      · exact news_ne N3 (x := p.2) (y := listOf bvs.toArray bn) (by kpf_c) (by kpf_c) (by rw [(hown2 p hp).1]; show Value.type "tuple" ≠ Value.type "list"; decide)
      · exact Nat.ne_of_lt (hbl3 p hp)
    have hoC2 : ∀ p ∈ own2 ++ own, p.1 ≠ s1.heap.objs.size + 1 + 1 := fun p hp => by
      rcases List.mem_append.mp hp with hp | hp
      · exact news_neD N3 (x := p.2) (y := oc2) (by kpf_c) (by kpf_c) (fun e => (hown2 p hp).2 _ (e.trans (by assumption)))
      · exact hoc2 p hp
    have hoW : ∀ p ∈ own2 ++ own, @Ne Nat p.1 wl := fun p hp => by
      rcases List.mem_append.mp hp with hp | hp
      · exact news_ne N3 (x := p.2) (y := listOf wvs.toArray wn) (by kpf_c) (by kpf_c) (by rw [(hown2 p hp).1]; show Value.type "tuple" ≠ Value.type "list"; decide)
      · exact Nat.ne_of_lt (allLt_mem lwl.2.2.2.2.2 p hp)
    have hTs : TripsIn (own2 ++ own) ys ts := hT.mono (fun p hp => List.mem_append_right _ hp)
    have hDs : (D, listOf ys.toArray kD) ∈ own2 ++ own := List.mem_append_right _ hD
    have hbl9 : bvs.length = 6 := by rw [hps.length, List.length_map]; exact hts
    have hwl9 : wvs.length = 6 := by rw [hws.length, List.length_map]; exact hts
    have hpok : ∀ p ∈ ts.map pairS, okS p.1 ∧ okS p.2 := by
      intro p hp
      obtain ⟨t, ht, rfl⟩ := List.mem_map.mp hp
      have h9 := hok t ht
      exact ⟨okS_one (okc_AP (by have := h9.1; have := h9.2.1; omega)), okS_one (okc_AP (by have := h9.2.2.1; have := h9.2.2.2.1; omega))⟩
    have hpokS : ∀ p ∈ ts.map pairS, okS p.1 ∧ okS p.2 ∧ p.2 ∈ colsS := by
      intro p hp
      have h8 := hpok p hp
      obtain ⟨t, ht, rfl⟩ := List.mem_map.mp hp
      exact ⟨h8.1, h8.2, cols_in (hok t ht)⟩
    generalize own2 ++ own = ow at N3 hps hoB hoC2 hoW hTs hDs
    (k_steps; repeat' (refine Hold.off ?_; first | ((with_reducible show wpAny _ _ (subscriptTail _ _ (Value.ref _) (Value.int _ _)) _ _ _); k_dflt (refine' PyProof.Rows.item_listL (News.isList (by k_asm) (by k_mem)) ?ilb ?ilc ?ild ?_ ?ile ?ilf; (case ilb => omega); (case ilc => omega); (case ild => with_reducible assumption); (case ile => with_unfolding_all rfl); (case ilf => intro _; with_unfolding_all rfl)); k_steps) | ((with_reducible show wpAny _ _ (binaryOp _ (Value.ref _) (Value.ref _)) _ _ _); k_dflt (refine' kmk_add_lit ?adF ?adN ?ada ?adb ?ade ?_ ?adz; (case adF => k_asm); (case adN => k_asm); (case ada => kmk_list); (case adb => kmk_list); (case ade => ((try dsimp only [List.cons_append, List.nil_append]); (try rfl))); (case adz => rw [sizeLine_eq]; simp only [List.length_cons, List.length_nil]; omega)); intro D' h' F' N' l1; (try k_lt l1); (try k_sweep); k_steps) | ((with_reducible show wpAny _ _ (call (Value.builtin "str.upper") [Value.str _ _]) _ _ _); refine call_upper (by assumption) ?_; (try rw [upS_one]); (try dsimp only); k_steps) | (lct_look; k_dflt (refine LCt.ListComp_T (F₀ := by k_asm) (by with_unfolding_all rfl) (by decide) (by rfl) (by decide) (by rfl) ?_); k_steps) | ((with_reducible show wpAny _ _ (call (Value.builtin "list.append") [Value.ref _, _]) _ _ _); (with_unfolding_all refine' append_K ?apF ?apN ?apU ?_ ?apz; (case apF => k_asm); (case apN => k_asm); (case apU => k_upd); (case apz => rw [sizeLine_eq]; simp only [List.size_toArray]; omega)); intro h' F' N'; (try k_sweep); k_steps) | ((with_reducible show wpAny _ _ (subscriptTail _ _ (Value.str (sL _) _) (Value.int _ _)) _ _ _); k_dflt (refine' sl_itemP ?lei ?leh ?_ ?lej ?lek; (case lei => simp); (case leh => simp); (case lej => with_unfolding_all rfl); (case lek => intro _; with_unfolding_all rfl)); intro t9'; (try simp only [List.getD_cons_zero, List.getD_cons_succ, Int.toNat_zero, Int.toNat_one]); k_steps) | ((with_reducible show wpAny _ _ (binaryOp Operator.Add (Value.str (sL _) _) (Value.str (sL _) _)) _ _ _); refine sL_add (by simp) ?_; intro t9' k9'; dsimp only [List.cons_append, List.nil_append]; k_steps) | ((with_reducible show wpAny _ _ (subscriptTail _ _ (Value.str _ _) (Value.int _ _)) _ _ _); k_dflt (refine' letter_item ?lei ?_ ?lej ?lek; (case lei => omega); (case lej => with_unfolding_all rfl); (case lek => intro _; with_unfolding_all rfl)); intro t9'; (try dsimp only); k_steps) | ((with_reducible show wpAny _ _ (call (Value.builtin "bytes.decode") [Value.bytes _ _]) _ _ _); refine ascii_decode (by with_reducible assumption) (by with_reducible assumption) (by with_reducible assumption) (by simp) ?_; intro t9' k9'; (try dsimp only); k_steps) | ((with_reducible show wpAny _ _ (call (Value.ref 193) _ _) _ _ _); k_dflt (refine' ap_walk ?gak1 ?gak2 ?gak3 ?gak4 ?gak5 ?gad ?gau ?gax ?_; (case gak1 => k_asm); (case gak2 => k_asm); (case gak3 => k_asm); (case gak4 => k_asm); (case gak5 => k_asm); (case gad => exact Nat.le_of_ble_eq_true rfl); (case gau => exact Nat.le_of_ble_eq_true rfl); (case gax => with_reducible assumption)); intro t9' h' tk' F' N'; (try dsimp only); (try k_fold); k_steps)))
    refine Hold.off ?_
    (with_reducible rename Fr _ _ _ _ => F4)
    (with_unfolding_all refine' For_turns F4 ?_; k_whole)
    (k_steps; repeat' (refine Hold.off ?_; first | ((with_reducible show wpAny _ _ (subscriptTail _ _ (Value.ref _) (Value.int _ _)) _ _ _); k_dflt (refine' PyProof.Rows.item_listL (News.isList (by k_asm) (by k_mem)) ?ilb ?ilc ?ild ?_ ?ile ?ilf; (case ilb => omega); (case ilc => omega); (case ild => with_reducible assumption); (case ile => with_unfolding_all rfl); (case ilf => intro _; with_unfolding_all rfl)); k_steps) | ((with_reducible show wpAny _ _ (binaryOp _ (Value.ref _) (Value.ref _)) _ _ _); k_dflt (refine' kmk_add_lit ?adF ?adN ?ada ?adb ?ade ?_ ?adz; (case adF => k_asm); (case adN => k_asm); (case ada => kmk_list); (case adb => kmk_list); (case ade => ((try dsimp only [List.cons_append, List.nil_append]); (try rfl))); (case adz => rw [sizeLine_eq]; simp only [List.length_cons, List.length_nil]; omega)); intro D' h' F' N' l1; (try k_lt l1); (try k_sweep); k_steps) | ((with_reducible show wpAny _ _ (call (Value.builtin "str.upper") [Value.str _ _]) _ _ _); refine call_upper (by assumption) ?_; (try rw [upS_one]); (try dsimp only); k_steps) | (lct_look; k_dflt (refine LCt.ListComp_T (F₀ := by k_asm) (by with_unfolding_all rfl) (by decide) (by rfl) (by decide) (by rfl) ?_); k_steps) | ((with_reducible show wpAny _ _ (call (Value.builtin "list.append") [Value.ref _, _]) _ _ _); (with_unfolding_all refine' append_K ?apF ?apN ?apU ?_ ?apz; (case apF => k_asm); (case apN => k_asm); (case apU => k_upd); (case apz => rw [sizeLine_eq]; simp only [List.size_toArray]; omega)); intro h' F' N'; (try k_sweep); k_steps) | ((with_reducible show wpAny _ _ (subscriptTail _ _ (Value.str (sL _) _) (Value.int _ _)) _ _ _); k_dflt (refine' sl_itemP ?lei ?leh ?_ ?lej ?lek; (case lei => simp); (case leh => simp); (case lej => with_unfolding_all rfl); (case lek => intro _; with_unfolding_all rfl)); intro t9'; (try simp only [List.getD_cons_zero, List.getD_cons_succ, Int.toNat_zero, Int.toNat_one]); k_steps) | ((with_reducible show wpAny _ _ (binaryOp Operator.Add (Value.str (sL _) _) (Value.str (sL _) _)) _ _ _); refine sL_add (by simp) ?_; intro t9' k9'; dsimp only [List.cons_append, List.nil_append]; k_steps) | ((with_reducible show wpAny _ _ (subscriptTail _ _ (Value.str _ _) (Value.int _ _)) _ _ _); k_dflt (refine' letter_item ?lei ?_ ?lej ?lek; (case lei => omega); (case lej => with_unfolding_all rfl); (case lek => intro _; with_unfolding_all rfl)); intro t9'; (try dsimp only); k_steps) | ((with_reducible show wpAny _ _ (call (Value.builtin "bytes.decode") [Value.bytes _ _]) _ _ _); refine ascii_decode (by with_reducible assumption) (by with_reducible assumption) (by with_reducible assumption) (by simp) ?_; intro t9' k9'; (try dsimp only); k_steps) | ((with_reducible show wpAny _ _ (call (Value.ref 193) _ _) _ _ _); k_dflt (refine' ap_walk ?gak1 ?gak2 ?gak3 ?gak4 ?gak5 ?gad ?gau ?gax ?_; (case gak1 => k_asm); (case gak2 => k_asm); (case gak3 => k_asm); (case gak4 => k_asm); (case gak5 => k_asm); (case gad => exact Nat.le_of_ble_eq_true rfl); (case gau => exact Nat.le_of_ble_eq_true rfl); (case gax => with_reducible assumption)); intro t9' h' tk' F' N'; (try dsimp only); (try k_fold); k_steps)))
    refine Hold.off ?_
    have N5 := N3
    refine iter_strTurns (by rfl) (by decide +kernel) signs_text (by k_asm) N5 ?_
    intro I2 hI2
    clear hI
    have hI2' : ∀ o : Obj, ∀ p ∈ (wl, listOf wvs.toArray wn) :: hdrO w bA bdx bl tb bvs bn ((s1.heap.objs.size + 1 + 1, o) :: (s1.heap.objs.size + 1, oc1') :: ow), @Ne Nat p.1 I2 := fun o p hp => by
      unfold hdrO at hp
      rw [List.mem_cons, List.mem_cons, List.mem_cons, List.mem_cons, List.mem_cons] at hp
      rcases hp with rfl | rfl | rfl | rfl | rfl | hp
      · exact Nat.ne_of_lt (hI2 (wl, listOf wvs.toArray wn) (by kpf_c))
      · exact Nat.ne_of_lt (hI2 (bA, instObj 182 bdx) (by kpf_c))
      · exact Nat.ne_of_lt (hI2 (bdx, dictOf [⟨PyData.keyHash w.params "_headers", .str "_headers" tb, .ref bl⟩] 1) (by kpf_c))
      · exact Nat.ne_of_lt (hI2 (bl, listOf bvs.toArray bn) (by kpf_c))
      · exact Nat.ne_of_lt (hI2 (s1.heap.objs.size + 1 + 1, oc2) (by kpf_c))
      · exact Nat.ne_of_lt (hI2 p (List.mem_cons_of_mem _ (List.mem_cons_of_mem _ (List.mem_cons_of_mem _ (List.mem_cons_of_mem _ (List.mem_cons_of_mem _ hp))))))
    refine itemsRest_blind (fun j m3 n3 => ∃ (ocs : Obj) (vs0 : Option Value) (tbo : Tok), ocs.data = .cell vs0 ∧
      m3 (Str.ofString "squares") = some (.ref D) ∧ m3 (Str.ofString "bound") = some (.int (2 + (w7.sum).fmod 3) tbo) ∧ m3 (Str.ofString "board") = some (.ref bA) ∧
      n3 = (wl, listOf wvs.toArray wn) :: hdrO w bA bdx bl tb bvs bn ((s1.heap.objs.size + 1 + 1, ocs) :: (s1.heap.objs.size + 1, oc1') :: ow)) ?turnB ?doneB ?zB
    case zB => exact ⟨oc2, _, tbo, by assumption, by with_unfolding_all rfl, by with_unfolding_all rfl, by with_unfolding_all rfl, rfl⟩
    case turnB =>
      rintro Q9 j a0 v3 h3 tk3 m3 n3 hx3 hv3 ⟨ocs, vs0, tbo, hocs, hk2, hk3, hk4, rfl⟩ F3
      obtain ⟨n, hn, rfl⟩ : ∃ n ∈ signL, a0 = Itm.tok (fun t => Value.str (sL [n]) t) := by
        have h9 := List.mem_of_getElem? hx3
        rw [List.map_map] at h9
        obtain ⟨n, hn, e⟩ := List.mem_map.mp h9
        exact ⟨n, hn, e.symm⟩
      obtain ⟨t9, rfl⟩ := hv3
      rw [← fr_eq [(_, _), (_, _), (_, _)] (List.forall_mem_cons.mpr ⟨hk2, List.forall_mem_cons.mpr ⟨hk3, List.forall_mem_cons.mpr ⟨hk4, List.forall_mem_nil _⟩⟩⟩)] at F3
      dsimp only [kstB] at F3
      clear hk2 hk3 hk4
      refine AllObj.cons fun oI hcI => AllObj.nil fun N3 => ?_
      unfold hdrO at N3
      dsimp only [List.cons_append, List.nil_append] at N3
      have hI3 : @LT.lt Nat _ (s1.heap.objs.size + 1 + 1) I2 := hI2 (s1.heap.objs.size + 1 + 1, oc2) (by kpf_c)
      have hIw : @LT.lt Nat _ wl I2 := hI2 _ (.head _)
      have hokn : okS (sL [n]) := okS_one (sign_okc hn)
      dsimp only
      (k_steps; repeat' (refine Hold.off ?_; first | ((with_reducible show wpAny _ _ (subscriptTail _ _ (Value.ref _) (Value.int _ _)) _ _ _); k_dflt (refine' PyProof.Rows.item_listL (News.isList (by k_asm) (by k_mem)) ?ilb ?ilc ?ild ?_ ?ile ?ilf; (case ilb => omega); (case ilc => omega); (case ild => with_reducible assumption); (case ile => with_unfolding_all rfl); (case ilf => intro _; with_unfolding_all rfl)); k_steps) | ((with_reducible show wpAny _ _ (binaryOp _ (Value.ref _) (Value.ref _)) _ _ _); k_dflt (refine' kmk_add_lit ?adF ?adN ?ada ?adb ?ade ?_ ?adz; (case adF => k_asm); (case adN => k_asm); (case ada => kmk_list); (case adb => kmk_list); (case ade => ((try dsimp only [List.cons_append, List.nil_append]); (try rfl))); (case adz => rw [sizeLine_eq]; simp only [List.length_cons, List.length_nil]; omega)); intro D' h' F' N' l1; (try k_lt l1); (try k_sweep); k_steps) | ((with_reducible show wpAny _ _ (call (Value.builtin "str.upper") [Value.str _ _]) _ _ _); refine call_upper (by assumption) ?_; (try rw [upS_one]); (try dsimp only); k_steps) | (lct_look; k_dflt (refine LCt.ListComp_T (F₀ := by k_asm) (by with_unfolding_all rfl) (by decide) (by rfl) (by decide) (by rfl) ?_); k_steps) | ((with_reducible show wpAny _ _ (call (Value.builtin "list.append") [Value.ref _, _]) _ _ _); (with_unfolding_all refine' append_K ?apF ?apN ?apU ?_ ?apz; (case apF => k_asm); (case apN => k_asm); (case apU => k_upd); (case apz => rw [sizeLine_eq]; simp only [List.size_toArray]; omega)); intro h' F' N'; (try k_sweep); k_steps) | ((with_reducible show wpAny _ _ (subscriptTail _ _ (Value.str (sL _) _) (Value.int _ _)) _ _ _); k_dflt (refine' sl_itemP ?lei ?leh ?_ ?lej ?lek; (case lei => simp); (case leh => simp); (case lej => with_unfolding_all rfl); (case lek => intro _; with_unfolding_all rfl)); intro t9'; (try simp only [List.getD_cons_zero, List.getD_cons_succ, Int.toNat_zero, Int.toNat_one]); k_steps) | ((with_reducible show wpAny _ _ (binaryOp Operator.Add (Value.str (sL _) _) (Value.str (sL _) _)) _ _ _); refine sL_add (by simp) ?_; intro t9' k9'; dsimp only [List.cons_append, List.nil_append]; k_steps) | ((with_reducible show wpAny _ _ (subscriptTail _ _ (Value.str _ _) (Value.int _ _)) _ _ _); k_dflt (refine' letter_item ?lei ?_ ?lej ?lek; (case lei => omega); (case lej => with_unfolding_all rfl); (case lek => intro _; with_unfolding_all rfl)); intro t9'; (try dsimp only); k_steps) | ((with_reducible show wpAny _ _ (call (Value.builtin "bytes.decode") [Value.bytes _ _]) _ _ _); refine ascii_decode (by with_reducible assumption) (by with_reducible assumption) (by with_reducible assumption) (by simp) ?_; intro t9' k9'; (try dsimp only); k_steps) | ((with_reducible show wpAny _ _ (call (Value.ref 193) _ _) _ _ _); k_dflt (refine' ap_walk ?gak1 ?gak2 ?gak3 ?gak4 ?gak5 ?gad ?gau ?gax ?_; (case gak1 => k_asm); (case gak2 => k_asm); (case gak3 => k_asm); (case gak4 => k_asm); (case gak5 => k_asm); (case gad => exact Nat.le_of_ble_eq_true rfl); (case gau => exact Nat.le_of_ble_eq_true rfl); (case gax => with_reducible assumption)); intro t9' h' tk' F' N'; (try dsimp only); (try k_fold); k_steps)))
      all_goals try exact bne_no (by with_reducible assumption)
      refine Hold.off ?_
      (with_reducible rename News _ _ _ _ => N6)
      refine withCell N6 fun ocs2 e9 => ?_
      subst e9
      have N7 := cb_drop (news := hdrO w bA bdx bl tb bvs bn ((I2, oI) :: (wl, listOf wvs.toArray wn) :: (s1.heap.objs.size + 1 + 1, ocs2) :: (s1.heap.objs.size + 1, oc1') :: ow)) N6 (by unfold hdrO; kcf_all)
      clear N6
      unfold hdrO at N7
      k_dflt (refine' get2_walk (ps := ts.map pairS) ?gak1 ?gak2 ?gak3 N7 ?gak5 ?gad ?gau ?gax ?gal ?gap ?gao ?_; (case gak1 => k_asm); (case gak2 => k_asm); (case gak3 => k_asm); (case gak5 => k_asm); (case gad => exact Nat.le_of_ble_eq_true rfl); (case gau => exact Nat.le_of_ble_eq_true rfl); (case gax => exact hokn); (case gal => omega); (case gap => exact hps.mono (by kcf_all)); (case gao => exact fun p hp => (hpok p hp).1))
      clear N7
      intro v5 h5 tk5 F5 N5 hv5
      rw [sign_find hn hok] at hv5
      (try dsimp only)
      (k_steps; repeat' (refine Hold.off ?_; first | ((with_reducible show wpAny _ _ (subscriptTail _ _ (Value.ref _) (Value.int _ _)) _ _ _); k_dflt (refine' PyProof.Rows.item_listL (News.isList (by k_asm) (by k_mem)) ?ilb ?ilc ?ild ?_ ?ile ?ilf; (case ilb => omega); (case ilc => omega); (case ild => with_reducible assumption); (case ile => with_unfolding_all rfl); (case ilf => intro _; with_unfolding_all rfl)); k_steps) | ((with_reducible show wpAny _ _ (binaryOp _ (Value.ref _) (Value.ref _)) _ _ _); k_dflt (refine' kmk_add_lit ?adF ?adN ?ada ?adb ?ade ?_ ?adz; (case adF => k_asm); (case adN => k_asm); (case ada => kmk_list); (case adb => kmk_list); (case ade => ((try dsimp only [List.cons_append, List.nil_append]); (try rfl))); (case adz => rw [sizeLine_eq]; simp only [List.length_cons, List.length_nil]; omega)); intro D' h' F' N' l1; (try k_lt l1); (try k_sweep); k_steps) | ((with_reducible show wpAny _ _ (call (Value.builtin "str.upper") [Value.str _ _]) _ _ _); refine call_upper (by assumption) ?_; (try rw [upS_one]); (try dsimp only); k_steps) | (lct_look; k_dflt (refine LCt.ListComp_T (F₀ := by k_asm) (by with_unfolding_all rfl) (by decide) (by rfl) (by decide) (by rfl) ?_); k_steps) | ((with_reducible show wpAny _ _ (call (Value.builtin "list.append") [Value.ref _, _]) _ _ _); (with_unfolding_all refine' append_K ?apF ?apN ?apU ?_ ?apz; (case apF => k_asm); (case apN => k_asm); (case apU => k_upd); (case apz => rw [sizeLine_eq]; simp only [List.size_toArray]; omega)); intro h' F' N'; (try k_sweep); k_steps) | ((with_reducible show wpAny _ _ (subscriptTail _ _ (Value.str (sL _) _) (Value.int _ _)) _ _ _); k_dflt (refine' sl_itemP ?lei ?leh ?_ ?lej ?lek; (case lei => simp); (case leh => simp); (case lej => with_unfolding_all rfl); (case lek => intro _; with_unfolding_all rfl)); intro t9'; (try simp only [List.getD_cons_zero, List.getD_cons_succ, Int.toNat_zero, Int.toNat_one]); k_steps) | ((with_reducible show wpAny _ _ (binaryOp Operator.Add (Value.str (sL _) _) (Value.str (sL _) _)) _ _ _); refine sL_add (by simp) ?_; intro t9' k9'; dsimp only [List.cons_append, List.nil_append]; k_steps) | ((with_reducible show wpAny _ _ (subscriptTail _ _ (Value.str _ _) (Value.int _ _)) _ _ _); k_dflt (refine' letter_item ?lei ?_ ?lej ?lek; (case lei => omega); (case lej => with_unfolding_all rfl); (case lek => intro _; with_unfolding_all rfl)); intro t9'; (try dsimp only); k_steps) | ((with_reducible show wpAny _ _ (call (Value.builtin "bytes.decode") [Value.bytes _ _]) _ _ _); refine ascii_decode (by with_reducible assumption) (by with_reducible assumption) (by with_reducible assumption) (by simp) ?_; intro t9' k9'; (try dsimp only); k_steps) | ((with_reducible show wpAny _ _ (call (Value.ref 193) _ _) _ _ _); k_dflt (refine' ap_walk ?gak1 ?gak2 ?gak3 ?gak4 ?gak5 ?gad ?gau ?gax ?_; (case gak1 => k_asm); (case gak2 => k_asm); (case gak3 => k_asm); (case gak4 => k_asm); (case gak5 => k_asm); (case gad => exact Nat.le_of_ble_eq_true rfl); (case gau => exact Nat.le_of_ble_eq_true rfl); (case gax => with_reducible assumption)); intro t9' h' tk' F' N'; (try dsimp only); (try k_fold); k_steps)))
      all_goals try exact bne_no (by with_reducible assumption)
      refine LCt.CompSrcT.ledger (by rfl) (by k_asm) (by k_asm) (by k_mem) (by rw [sizeLine_eq]; simp only [List.size_toArray]; omega) ?_
      intro g'
      refine restT_of (J := fun i ys => StrsAre ys (((ts.take i).filter (rowIs n)).map colS)) ?fin2 ?turn2 _ _ _ (Nat.zero_add _) .nil
      case turn2 =>
        intro i v ys2 I3 oI3 C oC D2 m₂ h tk E' hi hv hJ hC' hx' F' N' off' ne'
        obtain ⟨y9, t9b, rfl, hy9⟩ := hws.item i v (by simpa using hv)
        rw [List.getElem?_map] at hy9
        obtain ⟨t, ht, rfl⟩ := Option.map_eq_some_iff.mp hy9
        have hx2 : m₂ (Str.ofString "word") = some (Value.str (sL [65 + t.1.toNat, 65 + t.2.1.toNat]) t9b) := hx'
        clear hx'
        (k_steps; repeat' (refine Hold.off ?_; first | ((with_reducible show wpAny _ _ (subscriptTail _ _ (Value.ref _) (Value.int _ _)) _ _ _); k_dflt (refine' PyProof.Rows.item_listL (News.isList (by k_asm) (by k_mem)) ?ilb ?ilc ?ild ?_ ?ile ?ilf; (case ilb => omega); (case ilc => omega); (case ild => with_reducible assumption); (case ile => with_unfolding_all rfl); (case ilf => intro _; with_unfolding_all rfl)); k_steps) | ((with_reducible show wpAny _ _ (binaryOp _ (Value.ref _) (Value.ref _)) _ _ _); k_dflt (refine' kmk_add_lit ?adF ?adN ?ada ?adb ?ade ?_ ?adz; (case adF => k_asm); (case adN => k_asm); (case ada => kmk_list); (case adb => kmk_list); (case ade => ((try dsimp only [List.cons_append, List.nil_append]); (try rfl))); (case adz => rw [sizeLine_eq]; simp only [List.length_cons, List.length_nil]; omega)); intro D' h' F' N' l1; (try k_lt l1); (try k_sweep); k_steps) | ((with_reducible show wpAny _ _ (call (Value.builtin "str.upper") [Value.str _ _]) _ _ _); refine call_upper (by assumption) ?_; (try rw [upS_one]); (try dsimp only); k_steps) | (lct_look; k_dflt (refine LCt.ListComp_T (F₀ := by k_asm) (by with_unfolding_all rfl) (by decide) (by rfl) (by decide) (by rfl) ?_); k_steps) | ((with_reducible show wpAny _ _ (call (Value.builtin "list.append") [Value.ref _, _]) _ _ _); (with_unfolding_all refine' append_K ?apF ?apN ?apU ?_ ?apz; (case apF => k_asm); (case apN => k_asm); (case apU => k_upd); (case apz => rw [sizeLine_eq]; simp only [List.size_toArray]; omega)); intro h' F' N'; (try k_sweep); k_steps) | ((with_reducible show wpAny _ _ (subscriptTail _ _ (Value.str (sL _) _) (Value.int _ _)) _ _ _); k_dflt (refine' sl_itemP ?lei ?leh ?_ ?lej ?lek; (case lei => simp); (case leh => simp); (case lej => with_unfolding_all rfl); (case lek => intro _; with_unfolding_all rfl)); intro t9'; (try simp only [List.getD_cons_zero, List.getD_cons_succ, Int.toNat_zero, Int.toNat_one]); k_steps) | ((with_reducible show wpAny _ _ (binaryOp Operator.Add (Value.str (sL _) _) (Value.str (sL _) _)) _ _ _); refine sL_add (by simp) ?_; intro t9' k9'; dsimp only [List.cons_append, List.nil_append]; k_steps) | ((with_reducible show wpAny _ _ (subscriptTail _ _ (Value.str _ _) (Value.int _ _)) _ _ _); k_dflt (refine' letter_item ?lei ?_ ?lej ?lek; (case lei => omega); (case lej => with_unfolding_all rfl); (case lek => intro _; with_unfolding_all rfl)); intro t9'; (try dsimp only); k_steps) | ((with_reducible show wpAny _ _ (call (Value.builtin "bytes.decode") [Value.bytes _ _]) _ _ _); refine ascii_decode (by with_reducible assumption) (by with_reducible assumption) (by with_reducible assumption) (by simp) ?_; intro t9' k9'; (try dsimp only); k_steps) | ((with_reducible show wpAny _ _ (call (Value.ref 193) _ _) _ _ _); k_dflt (refine' ap_walk ?gak1 ?gak2 ?gak3 ?gak4 ?gak5 ?gad ?gau ?gax ?_; (case gak1 => k_asm); (case gak2 => k_asm); (case gak3 => k_asm); (case gak4 => k_asm); (case gak5 => k_asm); (case gad => exact Nat.le_of_ble_eq_true rfl); (case gau => exact Nat.le_of_ble_eq_true rfl); (case gax => with_reducible assumption)); intro t9' h' tk' F' N'; (try dsimp only); (try k_fold); k_steps)))
        all_goals (refine LCg.CompEnd.intro (by k_asm) (by assumption) _ (by kcf_all) off' (.inr ⟨_, by k_mem, rfl, _, rfl⟩) ⟨rfl, ?_⟩)
        · exact row_pos hJ ht (rowIs_eq (by assumption))
        · exact row_neg hJ ht (rowIs_eq (by assumption))
      case fin2 =>
        intro ys2 hJ
        rw [show ts.take wvs.toArray.size = ts from List.take_of_length_le (by simp only [List.size_toArray]; omega)] at hJ
        cases hft : ts.filter (rowIs n) with
        | nil =>
          rw [hft] at hJ hv5
          have hys2 := StrsAre.nil_inv hJ
          subst hys2
          have hv6 : v5 = .str (Str.ofString "-") _ := hv5
          subst hv6
          (k_steps; repeat' (refine Hold.off ?_; first | ((with_reducible show wpAny _ _ (subscriptTail _ _ (Value.ref _) (Value.int _ _)) _ _ _); k_dflt (refine' PyProof.Rows.item_listL (News.isList (by k_asm) (by k_mem)) ?ilb ?ilc ?ild ?_ ?ile ?ilf; (case ilb => omega); (case ilc => omega); (case ild => with_reducible assumption); (case ile => with_unfolding_all rfl); (case ilf => intro _; with_unfolding_all rfl)); k_steps) | ((with_reducible show wpAny _ _ (binaryOp _ (Value.ref _) (Value.ref _)) _ _ _); k_dflt (refine' kmk_add_lit ?adF ?adN ?ada ?adb ?ade ?_ ?adz; (case adF => k_asm); (case adN => k_asm); (case ada => kmk_list); (case adb => kmk_list); (case ade => ((try dsimp only [List.cons_append, List.nil_append]); (try rfl))); (case adz => rw [sizeLine_eq]; simp only [List.length_cons, List.length_nil]; omega)); intro D' h' F' N' l1; (try k_lt l1); (try k_sweep); k_steps) | ((with_reducible show wpAny _ _ (call (Value.builtin "str.upper") [Value.str _ _]) _ _ _); refine call_upper (by assumption) ?_; (try rw [upS_one]); (try dsimp only); k_steps) | (lct_look; k_dflt (refine LCt.ListComp_T (F₀ := by k_asm) (by with_unfolding_all rfl) (by decide) (by rfl) (by decide) (by rfl) ?_); k_steps) | ((with_reducible show wpAny _ _ (call (Value.builtin "list.append") [Value.ref _, _]) _ _ _); (with_unfolding_all refine' append_K ?apF ?apN ?apU ?_ ?apz; (case apF => k_asm); (case apN => k_asm); (case apU => k_upd); (case apz => rw [sizeLine_eq]; simp only [List.size_toArray]; omega)); intro h' F' N'; (try k_sweep); k_steps) | ((with_reducible show wpAny _ _ (subscriptTail _ _ (Value.str (sL _) _) (Value.int _ _)) _ _ _); k_dflt (refine' sl_itemP ?lei ?leh ?_ ?lej ?lek; (case lei => simp); (case leh => simp); (case lej => with_unfolding_all rfl); (case lek => intro _; with_unfolding_all rfl)); intro t9'; (try simp only [List.getD_cons_zero, List.getD_cons_succ, Int.toNat_zero, Int.toNat_one]); k_steps) | ((with_reducible show wpAny _ _ (binaryOp Operator.Add (Value.str (sL _) _) (Value.str (sL _) _)) _ _ _); refine sL_add (by simp) ?_; intro t9' k9'; dsimp only [List.cons_append, List.nil_append]; k_steps) | ((with_reducible show wpAny _ _ (subscriptTail _ _ (Value.str _ _) (Value.int _ _)) _ _ _); k_dflt (refine' letter_item ?lei ?_ ?lej ?lek; (case lei => omega); (case lej => with_unfolding_all rfl); (case lek => intro _; with_unfolding_all rfl)); intro t9'; (try dsimp only); k_steps) | ((with_reducible show wpAny _ _ (call (Value.builtin "bytes.decode") [Value.bytes _ _]) _ _ _); refine ascii_decode (by with_reducible assumption) (by with_reducible assumption) (by with_reducible assumption) (by simp) ?_; intro t9' k9'; (try dsimp only); k_steps) | ((with_reducible show wpAny _ _ (call (Value.ref 193) _ _) _ _ _); k_dflt (refine' ap_walk ?gak1 ?gak2 ?gak3 ?gak4 ?gak5 ?gad ?gau ?gax ?_; (case gak1 => k_asm); (case gak2 => k_asm); (case gak3 => k_asm); (case gak4 => k_asm); (case gak5 => k_asm); (case gad => exact Nat.le_of_ble_eq_true rfl); (case gau => exact Nat.le_of_ble_eq_true rfl); (case gax => with_reducible assumption)); intro t9' h' tk' F' N'; (try dsimp only); (try k_fold); k_steps)))
          all_goals try exact bne_no (by with_reducible assumption)
          (with_reducible rename News _ _ _ _ => N8)
          refine unrEnd2 (news := (wl, listOf wvs.toArray wn) :: hdrO w bA bdx bl tb bvs bn ((s1.heap.objs.size + 1 + 1, ocs2) :: (s1.heap.objs.size + 1, oc1') :: ow)) (by k_asm) N8 (by unfold hdrO; kcf_all) (hI2' ocs2) ⟨trivial, ocs2, _, tbo, by assumption, by with_unfolding_all rfl, by with_unfolding_all rfl, by with_unfolding_all rfl, rfl⟩
        | cons t r =>
          rw [hft] at hJ hv5
          obtain ⟨t6, vs6, rfl, -⟩ := StrsAre.cons_inv hJ
          obtain ⟨t7, rfl⟩ : ∃ t, v5 = .str (colS _) t := hv5
          have hl6 : vs6.length ≤ 6 := by
            have h1 := hJ.length
            have h2 : (ts.filter (rowIs n)).length ≤ ts.length := List.length_filter_le _ _
            rw [hft] at h2
            simp only [List.length_cons, List.length_map] at h1 h2
            omega
          (k_steps; repeat' (refine Hold.off ?_; first | ((with_reducible show wpAny _ _ (subscriptTail _ _ (Value.ref _) (Value.int _ _)) _ _ _); k_dflt (refine' PyProof.Rows.item_listL (News.isList (by k_asm) (by k_mem)) ?ilb ?ilc ?ild ?_ ?ile ?ilf; (case ilb => omega); (case ilc => omega); (case ild => with_reducible assumption); (case ile => with_unfolding_all rfl); (case ilf => intro _; with_unfolding_all rfl)); k_steps) | ((with_reducible show wpAny _ _ (binaryOp _ (Value.ref _) (Value.ref _)) _ _ _); k_dflt (refine' kmk_add_lit ?adF ?adN ?ada ?adb ?ade ?_ ?adz; (case adF => k_asm); (case adN => k_asm); (case ada => kmk_list); (case adb => kmk_list); (case ade => ((try dsimp only [List.cons_append, List.nil_append]); (try rfl))); (case adz => rw [sizeLine_eq]; simp only [List.length_cons, List.length_nil]; omega)); intro D' h' F' N' l1; (try k_lt l1); (try k_sweep); k_steps) | ((with_reducible show wpAny _ _ (call (Value.builtin "str.upper") [Value.str _ _]) _ _ _); refine call_upper (by assumption) ?_; (try rw [upS_one]); (try dsimp only); k_steps) | (lct_look; k_dflt (refine LCt.ListComp_T (F₀ := by k_asm) (by with_unfolding_all rfl) (by decide) (by rfl) (by decide) (by rfl) ?_); k_steps) | ((with_reducible show wpAny _ _ (call (Value.builtin "list.append") [Value.ref _, _]) _ _ _); (with_unfolding_all refine' append_K ?apF ?apN ?apU ?_ ?apz; (case apF => k_asm); (case apN => k_asm); (case apU => k_upd); (case apz => rw [sizeLine_eq]; simp only [List.size_toArray]; omega)); intro h' F' N'; (try k_sweep); k_steps) | ((with_reducible show wpAny _ _ (subscriptTail _ _ (Value.str (sL _) _) (Value.int _ _)) _ _ _); k_dflt (refine' sl_itemP ?lei ?leh ?_ ?lej ?lek; (case lei => simp); (case leh => simp); (case lej => with_unfolding_all rfl); (case lek => intro _; with_unfolding_all rfl)); intro t9'; (try simp only [List.getD_cons_zero, List.getD_cons_succ, Int.toNat_zero, Int.toNat_one]); k_steps) | ((with_reducible show wpAny _ _ (binaryOp Operator.Add (Value.str (sL _) _) (Value.str (sL _) _)) _ _ _); refine sL_add (by simp) ?_; intro t9' k9'; dsimp only [List.cons_append, List.nil_append]; k_steps) | ((with_reducible show wpAny _ _ (subscriptTail _ _ (Value.str _ _) (Value.int _ _)) _ _ _); k_dflt (refine' letter_item ?lei ?_ ?lej ?lek; (case lei => omega); (case lej => with_unfolding_all rfl); (case lek => intro _; with_unfolding_all rfl)); intro t9'; (try dsimp only); k_steps) | ((with_reducible show wpAny _ _ (call (Value.builtin "bytes.decode") [Value.bytes _ _]) _ _ _); refine ascii_decode (by with_reducible assumption) (by with_reducible assumption) (by with_reducible assumption) (by simp) ?_; intro t9' k9'; (try dsimp only); k_steps) | ((with_reducible show wpAny _ _ (call (Value.ref 193) _ _) _ _ _); k_dflt (refine' ap_walk ?gak1 ?gak2 ?gak3 ?gak4 ?gak5 ?gad ?gau ?gax ?_; (case gak1 => k_asm); (case gak2 => k_asm); (case gak3 => k_asm); (case gak4 => k_asm); (case gak5 => k_asm); (case gad => exact Nat.le_of_ble_eq_true rfl); (case gau => exact Nat.le_of_ble_eq_true rfl); (case gax => with_reducible assumption)); intro t9' h' tk' F' N'; (try dsimp only); (try k_fold); k_steps)))
          all_goals try exact bne_no (by with_reducible assumption)
          (with_reducible rename News _ _ _ _ => N8)
          refine unrEnd2 (news := (wl, listOf wvs.toArray wn) :: hdrO w bA bdx bl tb bvs bn ((s1.heap.objs.size + 1 + 1, ocs2) :: (s1.heap.objs.size + 1, oc1') :: ow)) (by k_asm) N8 (by unfold hdrO; kcf_all) (hI2' ocs2) ⟨trivial, ocs2, _, tbo, by assumption, by with_unfolding_all rfl, by with_unfolding_all rfl, by with_unfolding_all rfl, rfl⟩
    case doneB =>
      rintro h3 tk3 m3 n3 ⟨ocs, vs0, tbo, hocs, hk2, hk3, hk4, rfl⟩ F3 N3
      rw [← fr_eq [(_, _), (_, _), (_, _)] (List.forall_mem_cons.mpr ⟨hk2, List.forall_mem_cons.mpr ⟨hk3, List.forall_mem_cons.mpr ⟨hk4, List.forall_mem_nil _⟩⟩⟩)] at F3
      dsimp only [kstB] at F3
      clear hk2 hk3 hk4
      unfold hdrO at N3
      (k_steps; repeat' (refine Hold.off ?_; first | ((with_reducible show wpAny _ _ (subscriptTail _ _ (Value.ref _) (Value.int _ _)) _ _ _); k_dflt (refine' PyProof.Rows.item_listL (News.isList (by k_asm) (by k_mem)) ?ilb ?ilc ?ild ?_ ?ile ?ilf; (case ilb => omega); (case ilc => omega); (case ild => with_reducible assumption); (case ile => with_unfolding_all rfl); (case ilf => intro _; with_unfolding_all rfl)); k_steps) | ((with_reducible show wpAny _ _ (binaryOp _ (Value.ref _) (Value.ref _)) _ _ _); k_dflt (refine' kmk_add_lit ?adF ?adN ?ada ?adb ?ade ?_ ?adz; (case adF => k_asm); (case adN => k_asm); (case ada => kmk_list); (case adb => kmk_list); (case ade => ((try dsimp only [List.cons_append, List.nil_append]); (try rfl))); (case adz => rw [sizeLine_eq]; simp only [List.length_cons, List.length_nil]; omega)); intro D' h' F' N' l1; (try k_lt l1); (try k_sweep); k_steps) | ((with_reducible show wpAny _ _ (call (Value.builtin "str.upper") [Value.str _ _]) _ _ _); refine call_upper (by assumption) ?_; (try rw [upS_one]); (try dsimp only); k_steps) | (lct_look; k_dflt (refine LCt.ListComp_T (F₀ := by k_asm) (by with_unfolding_all rfl) (by decide) (by rfl) (by decide) (by rfl) ?_); k_steps) | ((with_reducible show wpAny _ _ (call (Value.builtin "list.append") [Value.ref _, _]) _ _ _); (with_unfolding_all refine' append_K ?apF ?apN ?apU ?_ ?apz; (case apF => k_asm); (case apN => k_asm); (case apU => k_upd); (case apz => rw [sizeLine_eq]; simp only [List.size_toArray]; omega)); intro h' F' N'; (try k_sweep); k_steps) | ((with_reducible show wpAny _ _ (subscriptTail _ _ (Value.str (sL _) _) (Value.int _ _)) _ _ _); k_dflt (refine' sl_itemP ?lei ?leh ?_ ?lej ?lek; (case lei => simp); (case leh => simp); (case lej => with_unfolding_all rfl); (case lek => intro _; with_unfolding_all rfl)); intro t9'; (try simp only [List.getD_cons_zero, List.getD_cons_succ, Int.toNat_zero, Int.toNat_one]); k_steps) | ((with_reducible show wpAny _ _ (binaryOp Operator.Add (Value.str (sL _) _) (Value.str (sL _) _)) _ _ _); refine sL_add (by simp) ?_; intro t9' k9'; dsimp only [List.cons_append, List.nil_append]; k_steps) | ((with_reducible show wpAny _ _ (subscriptTail _ _ (Value.str _ _) (Value.int _ _)) _ _ _); k_dflt (refine' letter_item ?lei ?_ ?lej ?lek; (case lei => omega); (case lej => with_unfolding_all rfl); (case lek => intro _; with_unfolding_all rfl)); intro t9'; (try dsimp only); k_steps) | ((with_reducible show wpAny _ _ (call (Value.builtin "bytes.decode") [Value.bytes _ _]) _ _ _); refine ascii_decode (by with_reducible assumption) (by with_reducible assumption) (by with_reducible assumption) (by simp) ?_; intro t9' k9'; (try dsimp only); k_steps) | ((with_reducible show wpAny _ _ (call (Value.ref 193) _ _) _ _ _); k_dflt (refine' ap_walk ?gak1 ?gak2 ?gak3 ?gak4 ?gak5 ?gad ?gau ?gax ?_; (case gak1 => k_asm); (case gak2 => k_asm); (case gak3 => k_asm); (case gak4 => k_asm); (case gak5 => k_asm); (case gad => exact Nat.le_of_ble_eq_true rfl); (case gau => exact Nat.le_of_ble_eq_true rfl); (case gax => with_reducible assumption)); intro t9' h' tk' F' N'; (try dsimp only); (try k_fold); k_steps)))
      refine Hold.off ?_
      (with_reducible rename News _ _ _ _ => N4)
      (rename _ ∧ _ ∧ _ ∧ _ ∧ _ ∧ _ ∧ AllLt _ ow => lml)
      refine withLt7 lml fun ml hml => ?_
      subst hml
      k_dflt (refine' init_walk ?gak1 ?gak2 ?gak3 N4 ?gak5 ?gad ?gau ?_; (case gak1 => k_asm); (case gak2 => k_asm); (case gak3 => k_asm); (case gak5 => k_asm); (case gad => exact Nat.le_of_ble_eq_true rfl); (case gau => exact Nat.le_of_ble_eq_true rfl))
      clear N4
      intro mA mdx tm h4 tk4 F5 N5
      (try dsimp only)
      have hmAl : @Ne Nat mA ml := news_ne N5 (x := instObj 182 mdx) (y := listOf #[] 0) (.head _) (by kpf_c) (fun e => nomatch e)
      have hmdl : @Ne Nat mdx ml := news_ne N5 (x := dictOf [⟨PyData.keyHash w.params "_headers", .str "_headers" tm, .ref ml⟩] 1) (y := listOf #[] 0) (by kpf_c) (by kpf_c) (by show Value.type "dict" ≠ Value.type "list"; decide)
      (k_steps; repeat' (refine Hold.off ?_; first | ((with_reducible show wpAny _ _ (subscriptTail _ _ (Value.ref _) (Value.int _ _)) _ _ _); k_dflt (refine' PyProof.Rows.item_listL (News.isList (by k_asm) (by k_mem)) ?ilb ?ilc ?ild ?_ ?ile ?ilf; (case ilb => omega); (case ilc => omega); (case ild => with_reducible assumption); (case ile => with_unfolding_all rfl); (case ilf => intro _; with_unfolding_all rfl)); k_steps) | ((with_reducible show wpAny _ _ (binaryOp _ (Value.ref _) (Value.ref _)) _ _ _); k_dflt (refine' kmk_add_lit ?adF ?adN ?ada ?adb ?ade ?_ ?adz; (case adF => k_asm); (case adN => k_asm); (case ada => kmk_list); (case adb => kmk_list); (case ade => ((try dsimp only [List.cons_append, List.nil_append]); (try rfl))); (case adz => rw [sizeLine_eq]; simp only [List.length_cons, List.length_nil]; omega)); intro D' h' F' N' l1; (try k_lt l1); (try k_sweep); k_steps) | ((with_reducible show wpAny _ _ (call (Value.builtin "str.upper") [Value.str _ _]) _ _ _); refine call_upper (by assumption) ?_; (try rw [upS_one]); (try dsimp only); k_steps) | (lct_look; k_dflt (refine LCt.ListComp_T (F₀ := by k_asm) (by with_unfolding_all rfl) (by decide) (by rfl) (by decide) (by rfl) ?_); k_steps) | ((with_reducible show wpAny _ _ (call (Value.builtin "list.append") [Value.ref _, _]) _ _ _); (with_unfolding_all refine' append_K ?apF ?apN ?apU ?_ ?apz; (case apF => k_asm); (case apN => k_asm); (case apU => k_upd); (case apz => rw [sizeLine_eq]; simp only [List.size_toArray]; omega)); intro h' F' N'; (try k_sweep); k_steps) | ((with_reducible show wpAny _ _ (subscriptTail _ _ (Value.str (sL _) _) (Value.int _ _)) _ _ _); k_dflt (refine' sl_itemP ?lei ?leh ?_ ?lej ?lek; (case lei => simp); (case leh => simp); (case lej => with_unfolding_all rfl); (case lek => intro _; with_unfolding_all rfl)); intro t9'; (try simp only [List.getD_cons_zero, List.getD_cons_succ, Int.toNat_zero, Int.toNat_one]); k_steps) | ((with_reducible show wpAny _ _ (binaryOp Operator.Add (Value.str (sL _) _) (Value.str (sL _) _)) _ _ _); refine sL_add (by simp) ?_; intro t9' k9'; dsimp only [List.cons_append, List.nil_append]; k_steps) | ((with_reducible show wpAny _ _ (subscriptTail _ _ (Value.str _ _) (Value.int _ _)) _ _ _); k_dflt (refine' letter_item ?lei ?_ ?lej ?lek; (case lei => omega); (case lej => with_unfolding_all rfl); (case lek => intro _; with_unfolding_all rfl)); intro t9'; (try dsimp only); k_steps) | ((with_reducible show wpAny _ _ (call (Value.builtin "bytes.decode") [Value.bytes _ _]) _ _ _); refine ascii_decode (by with_reducible assumption) (by with_reducible assumption) (by with_reducible assumption) (by simp) ?_; intro t9' k9'; (try dsimp only); k_steps) | ((with_reducible show wpAny _ _ (call (Value.ref 193) _ _) _ _ _); k_dflt (refine' ap_walk ?gak1 ?gak2 ?gak3 ?gak4 ?gak5 ?gad ?gau ?gax ?_; (case gak1 => k_asm); (case gak2 => k_asm); (case gak3 => k_asm); (case gak4 => k_asm); (case gak5 => k_asm); (case gad => exact Nat.le_of_ble_eq_true rfl); (case gau => exact Nat.le_of_ble_eq_true rfl); (case gax => with_reducible assumption)); intro t9' h' tk' F' N'; (try dsimp only); (try k_fold); k_steps)))
      refine Hold.off ?_
      (with_reducible rename Fr _ _ _ _ => F6)
      (with_unfolding_all refine' For_turns F6 ?_; k_whole)
      (k_steps; repeat' (refine Hold.off ?_; first | ((with_reducible show wpAny _ _ (subscriptTail _ _ (Value.ref _) (Value.int _ _)) _ _ _); k_dflt (refine' PyProof.Rows.item_listL (News.isList (by k_asm) (by k_mem)) ?ilb ?ilc ?ild ?_ ?ile ?ilf; (case ilb => omega); (case ilc => omega); (case ild => with_reducible assumption); (case ile => with_unfolding_all rfl); (case ilf => intro _; with_unfolding_all rfl)); k_steps) | ((with_reducible show wpAny _ _ (binaryOp _ (Value.ref _) (Value.ref _)) _ _ _); k_dflt (refine' kmk_add_lit ?adF ?adN ?ada ?adb ?ade ?_ ?adz; (case adF => k_asm); (case adN => k_asm); (case ada => kmk_list); (case adb => kmk_list); (case ade => ((try dsimp only [List.cons_append, List.nil_append]); (try rfl))); (case adz => rw [sizeLine_eq]; simp only [List.length_cons, List.length_nil]; omega)); intro D' h' F' N' l1; (try k_lt l1); (try k_sweep); k_steps) | ((with_reducible show wpAny _ _ (call (Value.builtin "str.upper") [Value.str _ _]) _ _ _); refine call_upper (by assumption) ?_; (try rw [upS_one]); (try dsimp only); k_steps) | (lct_look; k_dflt (refine LCt.ListComp_T (F₀ := by k_asm) (by with_unfolding_all rfl) (by decide) (by rfl) (by decide) (by rfl) ?_); k_steps) | ((with_reducible show wpAny _ _ (call (Value.builtin "list.append") [Value.ref _, _]) _ _ _); (with_unfolding_all refine' append_K ?apF ?apN ?apU ?_ ?apz; (case apF => k_asm); (case apN => k_asm); (case apU => k_upd); (case apz => rw [sizeLine_eq]; simp only [List.size_toArray]; omega)); intro h' F' N'; (try k_sweep); k_steps) | ((with_reducible show wpAny _ _ (subscriptTail _ _ (Value.str (sL _) _) (Value.int _ _)) _ _ _); k_dflt (refine' sl_itemP ?lei ?leh ?_ ?lej ?lek; (case lei => simp); (case leh => simp); (case lej => with_unfolding_all rfl); (case lek => intro _; with_unfolding_all rfl)); intro t9'; (try simp only [List.getD_cons_zero, List.getD_cons_succ, Int.toNat_zero, Int.toNat_one]); k_steps) | ((with_reducible show wpAny _ _ (binaryOp Operator.Add (Value.str (sL _) _) (Value.str (sL _) _)) _ _ _); refine sL_add (by simp) ?_; intro t9' k9'; dsimp only [List.cons_append, List.nil_append]; k_steps) | ((with_reducible show wpAny _ _ (subscriptTail _ _ (Value.str _ _) (Value.int _ _)) _ _ _); k_dflt (refine' letter_item ?lei ?_ ?lej ?lek; (case lei => omega); (case lej => with_unfolding_all rfl); (case lek => intro _; with_unfolding_all rfl)); intro t9'; (try dsimp only); k_steps) | ((with_reducible show wpAny _ _ (call (Value.builtin "bytes.decode") [Value.bytes _ _]) _ _ _); refine ascii_decode (by with_reducible assumption) (by with_reducible assumption) (by with_reducible assumption) (by simp) ?_; intro t9' k9'; (try dsimp only); k_steps) | ((with_reducible show wpAny _ _ (call (Value.ref 193) _ _) _ _ _); k_dflt (refine' ap_walk ?gak1 ?gak2 ?gak3 ?gak4 ?gak5 ?gad ?gau ?gax ?_; (case gak1 => k_asm); (case gak2 => k_asm); (case gak3 => k_asm); (case gak4 => k_asm); (case gak5 => k_asm); (case gad => exact Nat.le_of_ble_eq_true rfl); (case gau => exact Nat.le_of_ble_eq_true rfl); (case gax => with_reducible assumption)); intro t9' h' tk' F' N'; (try dsimp only); (try k_fold); k_steps)))
      refine Hold.off ?_
      (with_reducible rename News _ _ _ _ => N6)
      have N7 := cb_drop (news := hdrO w mA mdx ml tm [] 0 (hdrO w bA bdx bl tb bvs bn ((wl, listOf wvs.toArray wn) :: (s1.heap.objs.size + 1 + 1, ocs) :: (s1.heap.objs.size + 1, oc1') :: ([] ++ ow)))) N6 (by unfold hdrO; dsimp only [List.nil_append]; kcf_all)
      refine iter_strTurns (by rfl) (by decide +kernel) names_text (by k_asm) N7 ?_
      intro I3 hI3
      refine itemsRest_blind (fun j m3 n3 => ∃ (mvs : List Value) (mn : Nat) (own3 : List (Addr × Obj)) (tbo : Tok),
        m3 (Str.ofString "squares") = some (.ref D) ∧ m3 (Str.ofString "bound") = some (.int (2 + (w7.sum).fmod 3) tbo) ∧ m3 (Str.ofString "board") = some (.ref bA) ∧ m3 (Str.ofString "mates") = some (.ref mA) ∧
        n3 = hdrO w mA mdx ml tm mvs mn (hdrO w bA bdx bl tb bvs bn ((wl, listOf wvs.toArray wn) :: (s1.heap.objs.size + 1 + 1, ocs) :: (s1.heap.objs.size + 1, oc1') :: (own3 ++ ow))) ∧ (∀ p ∈ own3, p.2.cls = .type "tuple") ∧ PairsIn (own3 ++ ow) mvs (matesS (ts.map pairS) j)) ?turnC ?doneC ?zC
      case zC => exact ⟨[], 0, [], tbo, by with_unfolding_all rfl, by with_unfolding_all rfl, by with_unfolding_all rfl, by with_unfolding_all rfl, rfl, by simp, .nil⟩
      case turnC =>
        rintro Q9 j a0 v3 h3 tk3 m3 n3 hx3 hv3 ⟨mvs, mn, own3, tbo, hk2, hk3, hk4, hk5, rfl, hown3, hmp⟩ F3
        obtain ⟨n, hn, rfl⟩ : ∃ n, namesL[j]? = some n ∧ a0 = Itm.tok (fun t => Value.str (sL [n]) t) := by
          rw [List.map_map, List.getElem?_map] at hx3
          obtain ⟨n, hn, e⟩ := Option.map_eq_some_iff.mp hx3
          exact ⟨n, hn, e.symm⟩
        obtain ⟨t9, rfl⟩ := hv3
        rw [← fr_eq [(_, _), (_, _), (_, _), (_, _)] (List.forall_mem_cons.mpr ⟨hk2, List.forall_mem_cons.mpr ⟨hk3, List.forall_mem_cons.mpr ⟨hk4, List.forall_mem_cons.mpr ⟨hk5, List.forall_mem_nil _⟩⟩⟩⟩)] at F3
        dsimp only [kstB] at F3
        clear hk2 hk3 hk4 hk5
        refine AllObj.cons fun oI hcI => AllObj.nil fun N3 => ?_
        unfold hdrO at N3
        dsimp only [List.cons_append, List.nil_append] at N3
        have hmk := mates_ok (ps := ts.map pairS) hpokS j
        have hokn : okS (sL [n]) := okS_one (names_okc (List.mem_of_getElem? hn))
        have hI3m : @LT.lt Nat _ ml I3 := hI3 (ml, listOf ([] : List Value).toArray 0) (by kpf_c)
        have ho3 : ∀ p ∈ own3 ++ ow, @Ne Nat p.1 ml := fun p hp => by
          rcases List.mem_append.mp hp with hp | hp
          · exact news_ne N3 (x := p.2) (y := listOf mvs.toArray mn) (by kpf_c) (by kpf_c) (by rw [hown3 p hp]; show Value.type "tuple" ≠ Value.type "list"; decide)
          · exact Nat.ne_of_lt (allLt_mem lml.2.2.2.2.2.2 p hp)
        dsimp only
        (k_steps; repeat' (refine Hold.off ?_; first | ((with_reducible show wpAny _ _ (subscriptTail _ _ (Value.ref _) (Value.int _ _)) _ _ _); k_dflt (refine' PyProof.Rows.item_listL (News.isList (by k_asm) (by k_mem)) ?ilb ?ilc ?ild ?_ ?ile ?ilf; (case ilb => omega); (case ilc => omega); (case ild => with_reducible assumption); (case ile => with_unfolding_all rfl); (case ilf => intro _; with_unfolding_all rfl)); k_steps) | ((with_reducible show wpAny _ _ (binaryOp _ (Value.ref _) (Value.ref _)) _ _ _); k_dflt (refine' kmk_add_lit ?adF ?adN ?ada ?adb ?ade ?_ ?adz; (case adF => k_asm); (case adN => k_asm); (case ada => kmk_list); (case adb => kmk_list); (case ade => ((try dsimp only [List.cons_append, List.nil_append]); (try rfl))); (case adz => rw [sizeLine_eq]; simp only [List.length_cons, List.length_nil]; omega)); intro D' h' F' N' l1; (try k_lt l1); (try k_sweep); k_steps) | ((with_reducible show wpAny _ _ (call (Value.builtin "str.upper") [Value.str _ _]) _ _ _); refine call_upper (by assumption) ?_; (try rw [upS_one]); (try dsimp only); k_steps) | (lct_look; k_dflt (refine LCt.ListComp_T (F₀ := by k_asm) (by with_unfolding_all rfl) (by decide) (by rfl) (by decide) (by rfl) ?_); k_steps) | ((with_reducible show wpAny _ _ (call (Value.builtin "list.append") [Value.ref _, _]) _ _ _); (with_unfolding_all refine' append_K ?apF ?apN ?apU ?_ ?apz; (case apF => k_asm); (case apN => k_asm); (case apU => k_upd); (case apz => rw [sizeLine_eq]; simp only [List.size_toArray]; omega)); intro h' F' N'; (try k_sweep); k_steps) | ((with_reducible show wpAny _ _ (subscriptTail _ _ (Value.str (sL _) _) (Value.int _ _)) _ _ _); k_dflt (refine' sl_itemP ?lei ?leh ?_ ?lej ?lek; (case lei => simp); (case leh => simp); (case lej => with_unfolding_all rfl); (case lek => intro _; with_unfolding_all rfl)); intro t9'; (try simp only [List.getD_cons_zero, List.getD_cons_succ, Int.toNat_zero, Int.toNat_one]); k_steps) | ((with_reducible show wpAny _ _ (binaryOp Operator.Add (Value.str (sL _) _) (Value.str (sL _) _)) _ _ _); refine sL_add (by simp) ?_; intro t9' k9'; dsimp only [List.cons_append, List.nil_append]; k_steps) | ((with_reducible show wpAny _ _ (subscriptTail _ _ (Value.str _ _) (Value.int _ _)) _ _ _); k_dflt (refine' letter_item ?lei ?_ ?lej ?lek; (case lei => omega); (case lej => with_unfolding_all rfl); (case lek => intro _; with_unfolding_all rfl)); intro t9'; (try dsimp only); k_steps) | ((with_reducible show wpAny _ _ (call (Value.builtin "bytes.decode") [Value.bytes _ _]) _ _ _); refine ascii_decode (by with_reducible assumption) (by with_reducible assumption) (by with_reducible assumption) (by simp) ?_; intro t9' k9'; (try dsimp only); k_steps) | ((with_reducible show wpAny _ _ (call (Value.ref 193) _ _) _ _ _); k_dflt (refine' ap_walk ?gak1 ?gak2 ?gak3 ?gak4 ?gak5 ?gad ?gau ?gax ?_; (case gak1 => k_asm); (case gak2 => k_asm); (case gak3 => k_asm); (case gak4 => k_asm); (case gak5 => k_asm); (case gad => exact Nat.le_of_ble_eq_true rfl); (case gau => exact Nat.le_of_ble_eq_true rfl); (case gax => with_reducible assumption)); intro t9' h' tk' F' N'; (try dsimp only); (try k_fold); k_steps)))
        refine Hold.off ?_
        (rename _ ∧ _ ∧ _ ∧ _ ∧ _ ∧ _ ∧ _ ∧ _ ∧ _ ∧ _ ∧ AllLt _ (own3 ++ ow) => laA)
        refine withLt11 laA fun aA haA => ?_
        subst haA
        (with_reducible rename News _ _ _ _ => N4)
        have N5 := cb_drop (news := hdrO w mA mdx ml tm mvs mn ((aA, listOf ([] : List Value).toArray 0) :: hdrO w bA bdx bl tb bvs bn ((I3, oI) :: (wl, listOf wvs.toArray wn) :: (s1.heap.objs.size + 1 + 1, ocs) :: (s1.heap.objs.size + 1, oc1') :: (own3 ++ ow)))) N4 (by unfold hdrO; kcf_all)
        clear N4
        obtain ⟨la1, la2, la3, la4, la5, la6, la7, la8, la9, la10, la11⟩ := laA
        obtain ⟨lm1, lm2, lm3, lm4, lm5, lm6, lm7⟩ := id lml
        unfold hdrO at N5
        k_dflt (refine' seat_walk 6 (row := sL [n]) (asked := []) (ms := matesS (ts.map pairS) j) (ps := ts.map pairS) (S := colsS) (news := (I3, oI) :: (wl, listOf wvs.toArray wn) :: (s1.heap.objs.size + 1 + 1, ocs) :: (s1.heap.objs.size + 1, oc1') :: (own3 ++ ow)) ?gak1 ?gak2 ?gak3 N5 ?gak5 ?gad ?gau ?ga1 ?ga2 ?ga3 ?ga4 ?ga5 ?ga6 ?ga7 ?ga8 ?ga9 ?ga10 hmAl hmdl ?e3 ?e4 ?e5 ?e6 ?e7 ?e8 ?e9 ?e10 ?e11 ?gb1 ?gb2 ?_; (case gak1 => k_asm); (case gak2 => k_asm); (case gak3 => k_asm); (case gak5 => k_asm); (case gad => exact Nat.le_of_ble_eq_true rfl); (case gau => exact Nat.le_of_ble_eq_true rfl); (case ga1 => exact hokn); (case ga2 => exact hps.mono (by kcf_all)); (case ga3 => exact hmp.mono (by kcf_all)); (case ga4 => exact hpokS); (case ga5 => exact .nil); (case ga6 => exact hmk.1); (case ga7 => decide); (case ga8 => simp); (case ga9 => have := hmk.2; have := (List.getElem?_eq_some_iff.mp hn).1; have : namesL.length = 4 := rfl; omega); (case ga10 => rw [List.length_map]; omega); (case e3 => omega); (case e4 => omega); (case e5 => omega); (case e6 => omega); (case e7 => omega); (case e8 => omega); (case e9 => omega); (case e10 => omega); (case e11 => omega); (case gb1 => exact List.forall_mem_cons.mpr ⟨Nat.ne_of_gt hI3m, List.forall_mem_cons.mpr ⟨Nat.ne_of_lt lm1, List.forall_mem_cons.mpr ⟨Nat.ne_of_lt lm5, List.forall_mem_cons.mpr ⟨Nat.ne_of_lt lm6, ho3⟩⟩⟩⟩); (case gb2 => exact List.forall_mem_cons.mpr ⟨Nat.ne_of_lt la1, List.forall_mem_cons.mpr ⟨Nat.ne_of_lt la8, List.forall_mem_cons.mpr ⟨Nat.ne_of_lt la9, List.forall_mem_cons.mpr ⟨Nat.ne_of_lt la10, fun p hp => Nat.ne_of_lt (allLt_mem la11 p hp)⟩⟩⟩⟩))
        clear N5
        intro mvs2 avs2 mn2 an2 own4 h6 tk6 F6 N6 hown4 hm6 ha6
        rw [← mates_next hn] at hm6
        (try dsimp only)
        (k_steps; repeat' (refine Hold.off ?_; first | ((with_reducible show wpAny _ _ (subscriptTail _ _ (Value.ref _) (Value.int _ _)) _ _ _); k_dflt (refine' PyProof.Rows.item_listL (News.isList (by k_asm) (by k_mem)) ?ilb ?ilc ?ild ?_ ?ile ?ilf; (case ilb => omega); (case ilc => omega); (case ild => with_reducible assumption); (case ile => with_unfolding_all rfl); (case ilf => intro _; with_unfolding_all rfl)); k_steps) | ((with_reducible show wpAny _ _ (binaryOp _ (Value.ref _) (Value.ref _)) _ _ _); k_dflt (refine' kmk_add_lit ?adF ?adN ?ada ?adb ?ade ?_ ?adz; (case adF => k_asm); (case adN => k_asm); (case ada => kmk_list); (case adb => kmk_list); (case ade => ((try dsimp only [List.cons_append, List.nil_append]); (try rfl))); (case adz => rw [sizeLine_eq]; simp only [List.length_cons, List.length_nil]; omega)); intro D' h' F' N' l1; (try k_lt l1); (try k_sweep); k_steps) | ((with_reducible show wpAny _ _ (call (Value.builtin "str.upper") [Value.str _ _]) _ _ _); refine call_upper (by assumption) ?_; (try rw [upS_one]); (try dsimp only); k_steps) | (lct_look; k_dflt (refine LCt.ListComp_T (F₀ := by k_asm) (by with_unfolding_all rfl) (by decide) (by rfl) (by decide) (by rfl) ?_); k_steps) | ((with_reducible show wpAny _ _ (call (Value.builtin "list.append") [Value.ref _, _]) _ _ _); (with_unfolding_all refine' append_K ?apF ?apN ?apU ?_ ?apz; (case apF => k_asm); (case apN => k_asm); (case apU => k_upd); (case apz => rw [sizeLine_eq]; simp only [List.size_toArray]; omega)); intro h' F' N'; (try k_sweep); k_steps) | ((with_reducible show wpAny _ _ (subscriptTail _ _ (Value.str (sL _) _) (Value.int _ _)) _ _ _); k_dflt (refine' sl_itemP ?lei ?leh ?_ ?lej ?lek; (case lei => simp); (case leh => simp); (case lej => with_unfolding_all rfl); (case lek => intro _; with_unfolding_all rfl)); intro t9'; (try simp only [List.getD_cons_zero, List.getD_cons_succ, Int.toNat_zero, Int.toNat_one]); k_steps) | ((with_reducible show wpAny _ _ (binaryOp Operator.Add (Value.str (sL _) _) (Value.str (sL _) _)) _ _ _); refine sL_add (by simp) ?_; intro t9' k9'; dsimp only [List.cons_append, List.nil_append]; k_steps) | ((with_reducible show wpAny _ _ (subscriptTail _ _ (Value.str _ _) (Value.int _ _)) _ _ _); k_dflt (refine' letter_item ?lei ?_ ?lej ?lek; (case lei => omega); (case lej => with_unfolding_all rfl); (case lek => intro _; with_unfolding_all rfl)); intro t9'; (try dsimp only); k_steps) | ((with_reducible show wpAny _ _ (call (Value.builtin "bytes.decode") [Value.bytes _ _]) _ _ _); refine ascii_decode (by with_reducible assumption) (by with_reducible assumption) (by with_reducible assumption) (by simp) ?_; intro t9' k9'; (try dsimp only); k_steps) | ((with_reducible show wpAny _ _ (call (Value.ref 193) _ _) _ _ _); k_dflt (refine' ap_walk ?gak1 ?gak2 ?gak3 ?gak4 ?gak5 ?gad ?gau ?gax ?_; (case gak1 => k_asm); (case gak2 => k_asm); (case gak3 => k_asm); (case gak4 => k_asm); (case gak5 => k_asm); (case gad => exact Nat.le_of_ble_eq_true rfl); (case gau => exact Nat.le_of_ble_eq_true rfl); (case gax => with_reducible assumption)); intro t9' h' tk' F' N'; (try dsimp only); (try k_fold); k_steps)))
        (with_reducible rename News _ _ _ _ => N8)
        have hown5 : ∀ p ∈ own4 ++ own3, p.2.cls = .type "tuple" := fun p hp => by
          rcases List.mem_append.mp hp with h | h
          · exact hown4 p h
          · exact hown3 p h
        have hm7 : PairsIn ((own4 ++ own3) ++ ow) mvs2 (matesS (ts.map pairS) (j + 1)) := hm6.sub2 (fun p hp hc hd => by
          simp only [List.mem_cons, List.mem_append] at hp ⊢
          rcases hp with h | h | h | h | h | h | h
          · simp [h]
          · subst h; exact absurd hc (by rw [hcI]; show ¬ (Value.type "str_ascii_iterator" = Value.type "tuple"); decide)
          · subst h; exact absurd hc (by show ¬ (Value.type "list" = Value.type "tuple"); decide)
          · subst h; exact absurd (by assumption) (hd _)
          · subst h; exact absurd (by assumption) (hd _)
          · simp [h]
          · simp [h])
        refine unrEnd2 (news := hdrO w mA mdx ml tm mvs2 mn2 (hdrO w bA bdx bl tb bvs bn ((wl, listOf wvs.toArray wn) :: (s1.heap.objs.size + 1 + 1, ocs) :: (s1.heap.objs.size + 1, oc1') :: ((own4 ++ own3) ++ ow)))) (by k_asm) N8 (by (try unfold hdrO); kpf_close) (fun p hp => ?_) ⟨trivial, mvs2, mn2, own4 ++ own3, tbo, by with_unfolding_all rfl, by with_unfolding_all rfl, by with_unfolding_all rfl, by with_unfolding_all rfl, rfl, hown5, hm7⟩
        simp only [hdrO, List.mem_cons, List.mem_append] at hp
        rcases hp with rfl | rfl | rfl | rfl | rfl | rfl | rfl | rfl | rfl | hp | hp
        · exact Nat.ne_of_lt (hI3 (mA, instObj 182 mdx) (by kpf_c))
        · exact Nat.ne_of_lt (hI3 (mdx, dictOf [⟨PyData.keyHash w.params "_headers", .str "_headers" tm, .ref ml⟩] 1) (by kpf_c))
        · exact Nat.ne_of_lt hI3m
        · exact Nat.ne_of_lt (hI3 (bA, instObj 182 bdx) (by kpf_c))
        · exact Nat.ne_of_lt (hI3 (bdx, dictOf [⟨PyData.keyHash w.params "_headers", .str "_headers" tb, .ref bl⟩] 1) (by kpf_c))
        · exact Nat.ne_of_lt (hI3 (bl, listOf bvs.toArray bn) (by kpf_c))
        · exact Nat.ne_of_lt (hI3 (wl, listOf wvs.toArray wn) (by kpf_c))
        · exact Nat.ne_of_lt (hI3 (s1.heap.objs.size + 1 + 1, ocs) (by kpf_c))
        · exact Nat.ne_of_lt (hI3 (s1.heap.objs.size + 1, oc1') (by kpf_c))
        · exact news_ne N8 (x := p.2) (y := oI) (by simp only [List.mem_cons, List.mem_append]; rcases hp with h | h <;> simp [h]) (by kpf_c) (by rw [hown5 p (List.mem_append.mpr hp), hcI]; show Value.type "tuple" ≠ Value.type "str_ascii_iterator"; decide)
        · exact Nat.ne_of_lt (hI3 p (by simp [hdrO, hp]))
      case doneC =>
        rintro h3 tk3 m3 n3 ⟨mvs, mn, own3, tbo, hk2, hk3, hk4, hk5, rfl, hown3, hmp⟩ F3 N3
        rw [← fr_eq [(_, _), (_, _), (_, _), (_, _)] (List.forall_mem_cons.mpr ⟨hk2, List.forall_mem_cons.mpr ⟨hk3, List.forall_mem_cons.mpr ⟨hk4, List.forall_mem_cons.mpr ⟨hk5, List.forall_mem_nil _⟩⟩⟩⟩)] at F3
        dsimp only [kstB] at F3
        clear hk2 hk3 hk4 hk5
        unfold hdrO at N3
        have hps2 : PairsIn (own3 ++ ow) bvs (ts.map pairS) := hps.mono (fun p hp => List.mem_append_right _ hp)
        have hTs2 : TripsIn (own3 ++ ow) ys ts := hTs.mono (fun p hp => List.mem_append_right _ hp)
        have hDs2 : (D, listOf ys.toArray kD) ∈ own3 ++ ow := List.mem_append_right _ hDs
        generalize own3 ++ ow = ox at N3 hmp hps2 hTs2 hDs2
        obtain ⟨mt, hmt, hmr, hmn1, hmn2, hmi, hml4⟩ := mates_num hok
        have hmp4 : PairsIn ox mvs (mt.map mateP) := hmt ▸ hmp
        have hmk := mates_ok (ps := ts.map pairS) hpokS 4
        rw [hmt, List.length_map] at hmk
        have hmtl : mt.length ≤ 24 := hmk.2
        have hbo : (2 : Int) ≤ 2 + (w7.sum).fmod 3 ∧ 2 + (w7.sum).fmod 3 ≤ 4 := by rw [Int.fmod_eq_emod_of_nonneg _ (by decide)]; omega
        have hmvl : mvs.length = mt.length := by rw [hmp4.length, List.length_map]
        clear hmp
        (k_steps; repeat' (refine Hold.off ?_; first | ((with_reducible show wpAny _ _ (subscriptTail _ _ (Value.ref _) (Value.int _ _)) _ _ _); k_dflt (refine' PyProof.Rows.item_listL (News.isList (by k_asm) (by k_mem)) ?ilb ?ilc ?ild ?_ ?ile ?ilf; (case ilb => omega); (case ilc => omega); (case ild => with_reducible assumption); (case ile => with_unfolding_all rfl); (case ilf => intro _; with_unfolding_all rfl)); k_steps) | ((with_reducible show wpAny _ _ (binaryOp _ (Value.ref _) (Value.ref _)) _ _ _); k_dflt (refine' kmk_add_lit ?adF ?adN ?ada ?adb ?ade ?_ ?adz; (case adF => k_asm); (case adN => k_asm); (case ada => kmk_list); (case adb => kmk_list); (case ade => ((try dsimp only [List.cons_append, List.nil_append]); (try rfl))); (case adz => rw [sizeLine_eq]; simp only [List.length_cons, List.length_nil]; omega)); intro D' h' F' N' l1; (try k_lt l1); (try k_sweep); k_steps) | ((with_reducible show wpAny _ _ (call (Value.builtin "str.upper") [Value.str _ _]) _ _ _); refine call_upper (by assumption) ?_; (try rw [upS_one]); (try dsimp only); k_steps) | (lct_look; k_dflt (refine LCt.ListComp_T (F₀ := by k_asm) (by with_unfolding_all rfl) (by decide) (by rfl) (by decide) (by rfl) ?_); k_steps) | ((with_reducible show wpAny _ _ (call (Value.builtin "list.append") [Value.ref _, _]) _ _ _); (with_unfolding_all refine' append_K ?apF ?apN ?apU ?_ ?apz; (case apF => k_asm); (case apN => k_asm); (case apU => k_upd); (case apz => rw [sizeLine_eq]; simp only [List.size_toArray]; omega)); intro h' F' N'; (try k_sweep); k_steps) | ((with_reducible show wpAny _ _ (subscriptTail _ _ (Value.str (sL _) _) (Value.int _ _)) _ _ _); k_dflt (refine' sl_itemP ?lei ?leh ?_ ?lej ?lek; (case lei => simp); (case leh => simp); (case lej => with_unfolding_all rfl); (case lek => intro _; with_unfolding_all rfl)); intro t9'; (try simp only [List.getD_cons_zero, List.getD_cons_succ, Int.toNat_zero, Int.toNat_one]); k_steps) | ((with_reducible show wpAny _ _ (binaryOp Operator.Add (Value.str (sL _) _) (Value.str (sL _) _)) _ _ _); refine sL_add (by simp) ?_; intro t9' k9'; dsimp only [List.cons_append, List.nil_append]; k_steps) | ((with_reducible show wpAny _ _ (subscriptTail _ _ (Value.str _ _) (Value.int _ _)) _ _ _); k_dflt (refine' letter_item ?lei ?_ ?lej ?lek; (case lei => omega); (case lej => with_unfolding_all rfl); (case lek => intro _; with_unfolding_all rfl)); intro t9'; (try dsimp only); k_steps) | ((with_reducible show wpAny _ _ (call (Value.builtin "bytes.decode") [Value.bytes _ _]) _ _ _); refine ascii_decode (by with_reducible assumption) (by with_reducible assumption) (by with_reducible assumption) (by simp) ?_; intro t9' k9'; (try dsimp only); k_steps) | ((with_reducible show wpAny _ _ (call (Value.ref 193) _ _) _ _ _); k_dflt (refine' ap_walk ?gak1 ?gak2 ?gak3 ?gak4 ?gak5 ?gad ?gau ?gax ?_; (case gak1 => k_asm); (case gak2 => k_asm); (case gak3 => k_asm); (case gak4 => k_asm); (case gak5 => k_asm); (case gad => exact Nat.le_of_ble_eq_true rfl); (case gau => exact Nat.le_of_ble_eq_true rfl); (case gax => with_reducible assumption)); intro t9' h' tk' F' N'; (try dsimp only); (try k_fold); k_steps)))
        refine Hold.off ?_
        k_dflt (refine LCp.Assign_ListComp_P (F₀ := by k_asm) (by rfl) (by with_unfolding_all rfl) (by with_unfolding_all rfl) (by decide) (by rfl) (by decide) (by rfl) (by rfl) (by decide) (by rfl) (by rfl) ?_)
        (k_steps; repeat' (refine Hold.off ?_; first | ((with_reducible show wpAny _ _ (subscriptTail _ _ (Value.ref _) (Value.int _ _)) _ _ _); k_dflt (refine' PyProof.Rows.item_listL (News.isList (by k_asm) (by k_mem)) ?ilb ?ilc ?ild ?_ ?ile ?ilf; (case ilb => omega); (case ilc => omega); (case ild => with_reducible assumption); (case ile => with_unfolding_all rfl); (case ilf => intro _; with_unfolding_all rfl)); k_steps) | ((with_reducible show wpAny _ _ (binaryOp _ (Value.ref _) (Value.ref _)) _ _ _); k_dflt (refine' kmk_add_lit ?adF ?adN ?ada ?adb ?ade ?_ ?adz; (case adF => k_asm); (case adN => k_asm); (case ada => kmk_list); (case adb => kmk_list); (case ade => ((try dsimp only [List.cons_append, List.nil_append]); (try rfl))); (case adz => rw [sizeLine_eq]; simp only [List.length_cons, List.length_nil]; omega)); intro D' h' F' N' l1; (try k_lt l1); (try k_sweep); k_steps) | ((with_reducible show wpAny _ _ (call (Value.builtin "str.upper") [Value.str _ _]) _ _ _); refine call_upper (by assumption) ?_; (try rw [upS_one]); (try dsimp only); k_steps) | (lct_look; k_dflt (refine LCt.ListComp_T (F₀ := by k_asm) (by with_unfolding_all rfl) (by decide) (by rfl) (by decide) (by rfl) ?_); k_steps) | ((with_reducible show wpAny _ _ (call (Value.builtin "list.append") [Value.ref _, _]) _ _ _); (with_unfolding_all refine' append_K ?apF ?apN ?apU ?_ ?apz; (case apF => k_asm); (case apN => k_asm); (case apU => k_upd); (case apz => rw [sizeLine_eq]; simp only [List.size_toArray]; omega)); intro h' F' N'; (try k_sweep); k_steps) | ((with_reducible show wpAny _ _ (subscriptTail _ _ (Value.str (sL _) _) (Value.int _ _)) _ _ _); k_dflt (refine' sl_itemP ?lei ?leh ?_ ?lej ?lek; (case lei => simp); (case leh => simp); (case lej => with_unfolding_all rfl); (case lek => intro _; with_unfolding_all rfl)); intro t9'; (try simp only [List.getD_cons_zero, List.getD_cons_succ, Int.toNat_zero, Int.toNat_one]); k_steps) | ((with_reducible show wpAny _ _ (binaryOp Operator.Add (Value.str (sL _) _) (Value.str (sL _) _)) _ _ _); refine sL_add (by simp) ?_; intro t9' k9'; dsimp only [List.cons_append, List.nil_append]; k_steps) | ((with_reducible show wpAny _ _ (subscriptTail _ _ (Value.str _ _) (Value.int _ _)) _ _ _); k_dflt (refine' letter_item ?lei ?_ ?lej ?lek; (case lei => omega); (case lej => with_unfolding_all rfl); (case lek => intro _; with_unfolding_all rfl)); intro t9'; (try dsimp only); k_steps) | ((with_reducible show wpAny _ _ (call (Value.builtin "bytes.decode") [Value.bytes _ _]) _ _ _); refine ascii_decode (by with_reducible assumption) (by with_reducible assumption) (by with_reducible assumption) (by simp) ?_; intro t9' k9'; (try dsimp only); k_steps) | ((with_reducible show wpAny _ _ (call (Value.ref 193) _ _) _ _ _); k_dflt (refine' ap_walk ?gak1 ?gak2 ?gak3 ?gak4 ?gak5 ?gad ?gau ?gax ?_; (case gak1 => k_asm); (case gak2 => k_asm); (case gak3 => k_asm); (case gak4 => k_asm); (case gak5 => k_asm); (case gad => exact Nat.le_of_ble_eq_true rfl); (case gau => exact Nat.le_of_ble_eq_true rfl); (case gax => with_reducible assumption)); intro t9' h' tk' F' N'; (try dsimp only); (try k_fold); k_steps)))
        refine Hold.off ?_
        (with_reducible rename News _ _ _ _ => N4)
        k_dflt (refine' items_walk ?gak1 ?gak2 ?gak3 N4 ?gak5 ?gad ?gau ?gal ?_; (case gak1 => k_asm); (case gak2 => k_asm); (case gak3 => k_asm); (case gak5 => k_asm); (case gad => exact Nat.le_of_ble_eq_true rfl); (case gau => exact Nat.le_of_ble_eq_true rfl); (case gal => omega))
        clear N4
        intro DI kI h7 tk7 F7 N7
        (try dsimp only)
        refine LCp.SrcLP.ledger (by rfl) (by k_asm) (by k_asm) (by k_mem) (by rw [sizeLine_eq]; simp only [List.size_toArray]; omega) ?_
        intro g'
        refine restP_of (J := fun i ys => StrsAre ys ((mt.take i).map rookS)) ?fin3 ?turn3 _ _ _ (Nat.zero_add _) .nil
        case turn3 =>
          intro i v hi hv
          obtain ⟨aP, kP, xP, tA, tB, rfl, hm, hp⟩ := hmp4.get (by simpa using hv)
          rw [List.getElem?_map] at hp
          obtain ⟨p, hp1, hp2⟩ := Option.map_eq_some_iff.mp hp
          obtain ⟨rfl, rfl⟩ := Prod.mk.inj hp2
          have hpr := hmr p (List.mem_of_getElem? hp1)
          have hokn : okS (sL [nameN p.2]) := okS_one (nameN_okc _)
          refine ⟨aP, pairObj (sL [65 + p.1]) (sL [nameN p.2]) tA tB, _, _, _, rfl, by simp [hm], rfl, rfl, ?_⟩
          intro ys2 I4 oI4 C oC D2 m₂ h tk E' hJ hC' hx1 hx2 F' N' off' ne'
          (k_steps; repeat' (refine Hold.off ?_; first | ((with_reducible show wpAny _ _ (subscriptTail _ _ (Value.ref _) (Value.int _ _)) _ _ _); k_dflt (refine' PyProof.Rows.item_listL (News.isList (by k_asm) (by k_mem)) ?ilb ?ilc ?ild ?_ ?ile ?ilf; (case ilb => omega); (case ilc => omega); (case ild => with_reducible assumption); (case ile => with_unfolding_all rfl); (case ilf => intro _; with_unfolding_all rfl)); k_steps) | ((with_reducible show wpAny _ _ (binaryOp _ (Value.ref _) (Value.ref _)) _ _ _); k_dflt (refine' kmk_add_lit ?adF ?adN ?ada ?adb ?ade ?_ ?adz; (case adF => k_asm); (case adN => k_asm); (case ada => kmk_list); (case adb => kmk_list); (case ade => ((try dsimp only [List.cons_append, List.nil_append]); (try rfl))); (case adz => rw [sizeLine_eq]; simp only [List.length_cons, List.length_nil]; omega)); intro D' h' F' N' l1; (try k_lt l1); (try k_sweep); k_steps) | ((with_reducible show wpAny _ _ (call (Value.builtin "str.upper") [Value.str _ _]) _ _ _); refine call_upper (by assumption) ?_; (try rw [upS_one]); (try dsimp only); k_steps) | (lct_look; k_dflt (refine LCt.ListComp_T (F₀ := by k_asm) (by with_unfolding_all rfl) (by decide) (by rfl) (by decide) (by rfl) ?_); k_steps) | ((with_reducible show wpAny _ _ (call (Value.builtin "list.append") [Value.ref _, _]) _ _ _); (with_unfolding_all refine' append_K ?apF ?apN ?apU ?_ ?apz; (case apF => k_asm); (case apN => k_asm); (case apU => k_upd); (case apz => rw [sizeLine_eq]; simp only [List.size_toArray]; omega)); intro h' F' N'; (try k_sweep); k_steps) | ((with_reducible show wpAny _ _ (subscriptTail _ _ (Value.str (sL _) _) (Value.int _ _)) _ _ _); k_dflt (refine' sl_itemP ?lei ?leh ?_ ?lej ?lek; (case lei => simp); (case leh => simp); (case lej => with_unfolding_all rfl); (case lek => intro _; with_unfolding_all rfl)); intro t9'; (try simp only [List.getD_cons_zero, List.getD_cons_succ, Int.toNat_zero, Int.toNat_one]); k_steps) | ((with_reducible show wpAny _ _ (binaryOp Operator.Add (Value.str (sL _) _) (Value.str (sL _) _)) _ _ _); refine sL_add (by simp) ?_; intro t9' k9'; dsimp only [List.cons_append, List.nil_append]; k_steps) | ((with_reducible show wpAny _ _ (subscriptTail _ _ (Value.str _ _) (Value.int _ _)) _ _ _); k_dflt (refine' letter_item ?lei ?_ ?lej ?lek; (case lei => omega); (case lej => with_unfolding_all rfl); (case lek => intro _; with_unfolding_all rfl)); intro t9'; (try dsimp only); k_steps) | ((with_reducible show wpAny _ _ (call (Value.builtin "bytes.decode") [Value.bytes _ _]) _ _ _); refine ascii_decode (by with_reducible assumption) (by with_reducible assumption) (by with_reducible assumption) (by simp) ?_; intro t9' k9'; (try dsimp only); k_steps) | ((with_reducible show wpAny _ _ (call (Value.ref 193) _ _) _ _ _); k_dflt (refine' ap_walk ?gak1 ?gak2 ?gak3 ?gak4 ?gak5 ?gad ?gau ?gax ?_; (case gak1 => k_asm); (case gak2 => k_asm); (case gak3 => k_asm); (case gak4 => k_asm); (case gak5 => k_asm); (case gad => exact Nat.le_of_ble_eq_true rfl); (case gau => exact Nat.le_of_ble_eq_true rfl); (case gax => with_reducible assumption)); intro t9' h' tk' F' N'; (try dsimp only); (try k_fold); k_steps)))
          refine LCg.CompEnd.intro (by k_asm) (by assumption) _ (by kcf_all) off' (.inr ⟨_, by k_mem, rfl, _, rfl⟩) ⟨rfl, ?_⟩
          rw [take_map_next hp1, nameN_up hpr.2.1 hpr.2.2]
          exact StrsAre.snoc' hJ
        case fin3 =>
          intro rs hJ
          have hrs : StrsAre rs (mt.map rookS) := by
            rw [show mt.take mvs.toArray.size = mt from List.take_of_length_le (by simp only [List.size_toArray]; omega)] at hJ
            exact hJ
          have hrl : rs.length = mt.length := by rw [hrs.length, List.length_map]
          clear hJ
          (k_steps; repeat' (refine Hold.off ?_; first | ((with_reducible show wpAny _ _ (subscriptTail _ _ (Value.ref _) (Value.int _ _)) _ _ _); k_dflt (refine' PyProof.Rows.item_listL (News.isList (by k_asm) (by k_mem)) ?ilb ?ilc ?ild ?_ ?ile ?ilf; (case ilb => omega); (case ilc => omega); (case ild => with_reducible assumption); (case ile => with_unfolding_all rfl); (case ilf => intro _; with_unfolding_all rfl)); k_steps) | ((with_reducible show wpAny _ _ (binaryOp _ (Value.ref _) (Value.ref _)) _ _ _); k_dflt (refine' kmk_add_lit ?adF ?adN ?ada ?adb ?ade ?_ ?adz; (case adF => k_asm); (case adN => k_asm); (case ada => kmk_list); (case adb => kmk_list); (case ade => ((try dsimp only [List.cons_append, List.nil_append]); (try rfl))); (case adz => rw [sizeLine_eq]; simp only [List.length_cons, List.length_nil]; omega)); intro D' h' F' N' l1; (try k_lt l1); (try k_sweep); k_steps) | ((with_reducible show wpAny _ _ (call (Value.builtin "str.upper") [Value.str _ _]) _ _ _); refine call_upper (by assumption) ?_; (try rw [upS_one]); (try dsimp only); k_steps) | (lct_look; k_dflt (refine LCt.ListComp_T (F₀ := by k_asm) (by with_unfolding_all rfl) (by decide) (by rfl) (by decide) (by rfl) ?_); k_steps) | ((with_reducible show wpAny _ _ (call (Value.builtin "list.append") [Value.ref _, _]) _ _ _); (with_unfolding_all refine' append_K ?apF ?apN ?apU ?_ ?apz; (case apF => k_asm); (case apN => k_asm); (case apU => k_upd); (case apz => rw [sizeLine_eq]; simp only [List.size_toArray]; omega)); intro h' F' N'; (try k_sweep); k_steps) | ((with_reducible show wpAny _ _ (subscriptTail _ _ (Value.str (sL _) _) (Value.int _ _)) _ _ _); k_dflt (refine' sl_itemP ?lei ?leh ?_ ?lej ?lek; (case lei => simp); (case leh => simp); (case lej => with_unfolding_all rfl); (case lek => intro _; with_unfolding_all rfl)); intro t9'; (try simp only [List.getD_cons_zero, List.getD_cons_succ, Int.toNat_zero, Int.toNat_one]); k_steps) | ((with_reducible show wpAny _ _ (binaryOp Operator.Add (Value.str (sL _) _) (Value.str (sL _) _)) _ _ _); refine sL_add (by simp) ?_; intro t9' k9'; dsimp only [List.cons_append, List.nil_append]; k_steps) | ((with_reducible show wpAny _ _ (subscriptTail _ _ (Value.str _ _) (Value.int _ _)) _ _ _); k_dflt (refine' letter_item ?lei ?_ ?lej ?lek; (case lei => omega); (case lej => with_unfolding_all rfl); (case lek => intro _; with_unfolding_all rfl)); intro t9'; (try dsimp only); k_steps) | ((with_reducible show wpAny _ _ (call (Value.builtin "bytes.decode") [Value.bytes _ _]) _ _ _); refine ascii_decode (by with_reducible assumption) (by with_reducible assumption) (by with_reducible assumption) (by simp) ?_; intro t9' k9'; (try dsimp only); k_steps) | ((with_reducible show wpAny _ _ (call (Value.ref 193) _ _) _ _ _); k_dflt (refine' ap_walk ?gak1 ?gak2 ?gak3 ?gak4 ?gak5 ?gad ?gau ?gax ?_; (case gak1 => k_asm); (case gak2 => k_asm); (case gak3 => k_asm); (case gak4 => k_asm); (case gak5 => k_asm); (case gad => exact Nat.le_of_ble_eq_true rfl); (case gau => exact Nat.le_of_ble_eq_true rfl); (case gax => with_reducible assumption)); intro t9' h' tk' F' N'; (try dsimp only); (try k_fold); k_steps)))
          refine Hold.off ?_
          (with_reducible rename News _ _ _ ((_, LCg.lst rs) :: _) => N8)
          refine withHd N8 fun RL hRL => ?_
          subst hRL
          refine PyProof.Rows.len_list (items := rs.toArray) (News.isList (by k_asm) (by k_mem)) (by simp only [List.size_toArray]; omega) ?_
          rw [show ((rs.toArray.size : Nat) : Int) = (mt.length : Int) by rw [List.size_toArray, hrl]]
          (try dsimp only)
          (k_steps; repeat' (refine Hold.off ?_; first | ((with_reducible show wpAny _ _ (subscriptTail _ _ (Value.ref _) (Value.int _ _)) _ _ _); k_dflt (refine' PyProof.Rows.item_listL (News.isList (by k_asm) (by k_mem)) ?ilb ?ilc ?ild ?_ ?ile ?ilf; (case ilb => omega); (case ilc => omega); (case ild => with_reducible assumption); (case ile => with_unfolding_all rfl); (case ilf => intro _; with_unfolding_all rfl)); k_steps) | ((with_reducible show wpAny _ _ (binaryOp _ (Value.ref _) (Value.ref _)) _ _ _); k_dflt (refine' kmk_add_lit ?adF ?adN ?ada ?adb ?ade ?_ ?adz; (case adF => k_asm); (case adN => k_asm); (case ada => kmk_list); (case adb => kmk_list); (case ade => ((try dsimp only [List.cons_append, List.nil_append]); (try rfl))); (case adz => rw [sizeLine_eq]; simp only [List.length_cons, List.length_nil]; omega)); intro D' h' F' N' l1; (try k_lt l1); (try k_sweep); k_steps) | ((with_reducible show wpAny _ _ (call (Value.builtin "str.upper") [Value.str _ _]) _ _ _); refine call_upper (by assumption) ?_; (try rw [upS_one]); (try dsimp only); k_steps) | (lct_look; k_dflt (refine LCt.ListComp_T (F₀ := by k_asm) (by with_unfolding_all rfl) (by decide) (by rfl) (by decide) (by rfl) ?_); k_steps) | ((with_reducible show wpAny _ _ (call (Value.builtin "list.append") [Value.ref _, _]) _ _ _); (with_unfolding_all refine' append_K ?apF ?apN ?apU ?_ ?apz; (case apF => k_asm); (case apN => k_asm); (case apU => k_upd); (case apz => rw [sizeLine_eq]; simp only [List.size_toArray]; omega)); intro h' F' N'; (try k_sweep); k_steps) | ((with_reducible show wpAny _ _ (subscriptTail _ _ (Value.str (sL _) _) (Value.int _ _)) _ _ _); k_dflt (refine' sl_itemP ?lei ?leh ?_ ?lej ?lek; (case lei => simp); (case leh => simp); (case lej => with_unfolding_all rfl); (case lek => intro _; with_unfolding_all rfl)); intro t9'; (try simp only [List.getD_cons_zero, List.getD_cons_succ, Int.toNat_zero, Int.toNat_one]); k_steps) | ((with_reducible show wpAny _ _ (binaryOp Operator.Add (Value.str (sL _) _) (Value.str (sL _) _)) _ _ _); refine sL_add (by simp) ?_; intro t9' k9'; dsimp only [List.cons_append, List.nil_append]; k_steps) | ((with_reducible show wpAny _ _ (subscriptTail _ _ (Value.str _ _) (Value.int _ _)) _ _ _); k_dflt (refine' letter_item ?lei ?_ ?lej ?lek; (case lei => omega); (case lej => with_unfolding_all rfl); (case lek => intro _; with_unfolding_all rfl)); intro t9'; (try dsimp only); k_steps) | ((with_reducible show wpAny _ _ (call (Value.builtin "bytes.decode") [Value.bytes _ _]) _ _ _); refine ascii_decode (by with_reducible assumption) (by with_reducible assumption) (by with_reducible assumption) (by simp) ?_; intro t9' k9'; (try dsimp only); k_steps) | ((with_reducible show wpAny _ _ (call (Value.ref 193) _ _) _ _ _); k_dflt (refine' ap_walk ?gak1 ?gak2 ?gak3 ?gak4 ?gak5 ?gad ?gau ?gax ?_; (case gak1 => k_asm); (case gak2 => k_asm); (case gak3 => k_asm); (case gak4 => k_asm); (case gak5 => k_asm); (case gad => exact Nat.le_of_ble_eq_true rfl); (case gau => exact Nat.le_of_ble_eq_true rfl); (case gax => with_reducible assumption)); intro t9' h' tk' F' N'; (try dsimp only); (try k_fold); k_steps)))
          refine Hold.off ?_
          k_dflt (refine' fewest_walk (ts := ts) (ys := ys) (kk := kD) ?gak1 ?gak2 ?gak3 ?gak4 ?gak5 ?gad ?gau ?gal ?gam hts ?_; (case gak1 => k_asm); (case gak2 => k_asm); (case gak3 => k_asm); (case gak4 => k_asm); (case gak5 => k_asm); (case gad => exact Nat.le_of_ble_eq_true rfl); (case gau => exact Nat.le_of_ble_eq_true rfl); (case gal => simp [hDs2]); (case gam => exact hTs2.mono (by kcf_all)))
          intro t8 h8 tk8 F8 N8
          rw [← hml4]
          (try dsimp only)
          (k_steps; repeat' (refine Hold.off ?_; first | ((with_reducible show wpAny _ _ (subscriptTail _ _ (Value.ref _) (Value.int _ _)) _ _ _); k_dflt (refine' PyProof.Rows.item_listL (News.isList (by k_asm) (by k_mem)) ?ilb ?ilc ?ild ?_ ?ile ?ilf; (case ilb => omega); (case ilc => omega); (case ild => with_reducible assumption); (case ile => with_unfolding_all rfl); (case ilf => intro _; with_unfolding_all rfl)); k_steps) | ((with_reducible show wpAny _ _ (binaryOp _ (Value.ref _) (Value.ref _)) _ _ _); k_dflt (refine' kmk_add_lit ?adF ?adN ?ada ?adb ?ade ?_ ?adz; (case adF => k_asm); (case adN => k_asm); (case ada => kmk_list); (case adb => kmk_list); (case ade => ((try dsimp only [List.cons_append, List.nil_append]); (try rfl))); (case adz => rw [sizeLine_eq]; simp only [List.length_cons, List.length_nil]; omega)); intro D' h' F' N' l1; (try k_lt l1); (try k_sweep); k_steps) | ((with_reducible show wpAny _ _ (call (Value.builtin "str.upper") [Value.str _ _]) _ _ _); refine call_upper (by assumption) ?_; (try rw [upS_one]); (try dsimp only); k_steps) | (lct_look; k_dflt (refine LCt.ListComp_T (F₀ := by k_asm) (by with_unfolding_all rfl) (by decide) (by rfl) (by decide) (by rfl) ?_); k_steps) | ((with_reducible show wpAny _ _ (call (Value.builtin "list.append") [Value.ref _, _]) _ _ _); (with_unfolding_all refine' append_K ?apF ?apN ?apU ?_ ?apz; (case apF => k_asm); (case apN => k_asm); (case apU => k_upd); (case apz => rw [sizeLine_eq]; simp only [List.size_toArray]; omega)); intro h' F' N'; (try k_sweep); k_steps) | ((with_reducible show wpAny _ _ (subscriptTail _ _ (Value.str (sL _) _) (Value.int _ _)) _ _ _); k_dflt (refine' sl_itemP ?lei ?leh ?_ ?lej ?lek; (case lei => simp); (case leh => simp); (case lej => with_unfolding_all rfl); (case lek => intro _; with_unfolding_all rfl)); intro t9'; (try simp only [List.getD_cons_zero, List.getD_cons_succ, Int.toNat_zero, Int.toNat_one]); k_steps) | ((with_reducible show wpAny _ _ (binaryOp Operator.Add (Value.str (sL _) _) (Value.str (sL _) _)) _ _ _); refine sL_add (by simp) ?_; intro t9' k9'; dsimp only [List.cons_append, List.nil_append]; k_steps) | ((with_reducible show wpAny _ _ (subscriptTail _ _ (Value.str _ _) (Value.int _ _)) _ _ _); k_dflt (refine' letter_item ?lei ?_ ?lej ?lek; (case lei => omega); (case lej => with_unfolding_all rfl); (case lek => intro _; with_unfolding_all rfl)); intro t9'; (try dsimp only); k_steps) | ((with_reducible show wpAny _ _ (call (Value.builtin "bytes.decode") [Value.bytes _ _]) _ _ _); refine ascii_decode (by with_reducible assumption) (by with_reducible assumption) (by with_reducible assumption) (by simp) ?_; intro t9' k9'; (try dsimp only); k_steps) | ((with_reducible show wpAny _ _ (call (Value.ref 193) _ _) _ _ _); k_dflt (refine' ap_walk ?gak1 ?gak2 ?gak3 ?gak4 ?gak5 ?gad ?gau ?gax ?_; (case gak1 => k_asm); (case gak2 => k_asm); (case gak3 => k_asm); (case gak4 => k_asm); (case gak5 => k_asm); (case gad => exact Nat.le_of_ble_eq_true rfl); (case gau => exact Nat.le_of_ble_eq_true rfl); (case gax => with_reducible assumption)); intro t9' h' tk' F' N'; (try dsimp only); (try k_fold); k_steps)))
          refine LCt.CompSrcT.ledger (by rfl) (by k_asm) (by k_asm) (by k_mem) (by rw [sizeLine_eq]; simp only [List.size_toArray]; omega) ?_
          intro g2
          refine restT_of (J := fun _ ys => ys = []) ?fin4 ?turn4 _ _ _ (Nat.zero_add _) rfl
          case turn4 =>
            intro i v ys2 I4 oI4 C oC D2 m₂ h tk E' hi hv hJ hC' hx' F' N' off' ne'
            obtain ⟨y9, t9b, rfl, hy9⟩ := hrs.item i v (by simpa using hv)
            have hy8 := List.mem_of_getElem? hy9
            obtain ⟨p, hpm, rfl⟩ := List.mem_map.mp hy8
            have hin := rook_in hmi hpm
            (k_steps; repeat' (refine Hold.off ?_; first | ((with_reducible show wpAny _ _ (subscriptTail _ _ (Value.ref _) (Value.int _ _)) _ _ _); k_dflt (refine' PyProof.Rows.item_listL (News.isList (by k_asm) (by k_mem)) ?ilb ?ilc ?ild ?_ ?ile ?ilf; (case ilb => omega); (case ilc => omega); (case ild => with_reducible assumption); (case ile => with_unfolding_all rfl); (case ilf => intro _; with_unfolding_all rfl)); k_steps) | ((with_reducible show wpAny _ _ (binaryOp _ (Value.ref _) (Value.ref _)) _ _ _); k_dflt (refine' kmk_add_lit ?adF ?adN ?ada ?adb ?ade ?_ ?adz; (case adF => k_asm); (case adN => k_asm); (case ada => kmk_list); (case adb => kmk_list); (case ade => ((try dsimp only [List.cons_append, List.nil_append]); (try rfl))); (case adz => rw [sizeLine_eq]; simp only [List.length_cons, List.length_nil]; omega)); intro D' h' F' N' l1; (try k_lt l1); (try k_sweep); k_steps) | ((with_reducible show wpAny _ _ (call (Value.builtin "str.upper") [Value.str _ _]) _ _ _); refine call_upper (by assumption) ?_; (try rw [upS_one]); (try dsimp only); k_steps) | (lct_look; k_dflt (refine LCt.ListComp_T (F₀ := by k_asm) (by with_unfolding_all rfl) (by decide) (by rfl) (by decide) (by rfl) ?_); k_steps) | ((with_reducible show wpAny _ _ (call (Value.builtin "list.append") [Value.ref _, _]) _ _ _); (with_unfolding_all refine' append_K ?apF ?apN ?apU ?_ ?apz; (case apF => k_asm); (case apN => k_asm); (case apU => k_upd); (case apz => rw [sizeLine_eq]; simp only [List.size_toArray]; omega)); intro h' F' N'; (try k_sweep); k_steps) | ((with_reducible show wpAny _ _ (subscriptTail _ _ (Value.str (sL _) _) (Value.int _ _)) _ _ _); k_dflt (refine' sl_itemP ?lei ?leh ?_ ?lej ?lek; (case lei => simp); (case leh => simp); (case lej => with_unfolding_all rfl); (case lek => intro _; with_unfolding_all rfl)); intro t9'; (try simp only [List.getD_cons_zero, List.getD_cons_succ, Int.toNat_zero, Int.toNat_one]); k_steps) | ((with_reducible show wpAny _ _ (binaryOp Operator.Add (Value.str (sL _) _) (Value.str (sL _) _)) _ _ _); refine sL_add (by simp) ?_; intro t9' k9'; dsimp only [List.cons_append, List.nil_append]; k_steps) | ((with_reducible show wpAny _ _ (subscriptTail _ _ (Value.str _ _) (Value.int _ _)) _ _ _); k_dflt (refine' letter_item ?lei ?_ ?lej ?lek; (case lei => omega); (case lej => with_unfolding_all rfl); (case lek => intro _; with_unfolding_all rfl)); intro t9'; (try dsimp only); k_steps) | ((with_reducible show wpAny _ _ (call (Value.builtin "bytes.decode") [Value.bytes _ _]) _ _ _); refine ascii_decode (by with_reducible assumption) (by with_reducible assumption) (by with_reducible assumption) (by simp) ?_; intro t9' k9'; (try dsimp only); k_steps) | ((with_reducible show wpAny _ _ (call (Value.ref 193) _ _) _ _ _); k_dflt (refine' ap_walk ?gak1 ?gak2 ?gak3 ?gak4 ?gak5 ?gad ?gau ?gax ?_; (case gak1 => k_asm); (case gak2 => k_asm); (case gak3 => k_asm); (case gak4 => k_asm); (case gak5 => k_asm); (case gad => exact Nat.le_of_ble_eq_true rfl); (case gau => exact Nat.le_of_ble_eq_true rfl); (case gax => with_reducible assumption)); intro t9' h' tk' F' N'; (try dsimp only); (try k_fold); k_steps)))
            refine LCg.CompEnd.intro (by k_asm) (by assumption) _ (by kcf_all) off' (.inr ⟨_, by k_mem, rfl, _, rfl⟩) ⟨rfl, hJ⟩
          case fin4 =>
            intro ys2 hJ
            subst hJ
            (k_steps; repeat' (refine Hold.off ?_; first | ((with_reducible show wpAny _ _ (subscriptTail _ _ (Value.ref _) (Value.int _ _)) _ _ _); k_dflt (refine' PyProof.Rows.item_listL (News.isList (by k_asm) (by k_mem)) ?ilb ?ilc ?ild ?_ ?ile ?ilf; (case ilb => omega); (case ilc => omega); (case ild => with_reducible assumption); (case ile => with_unfolding_all rfl); (case ilf => intro _; with_unfolding_all rfl)); k_steps) | ((with_reducible show wpAny _ _ (binaryOp _ (Value.ref _) (Value.ref _)) _ _ _); k_dflt (refine' kmk_add_lit ?adF ?adN ?ada ?adb ?ade ?_ ?adz; (case adF => k_asm); (case adN => k_asm); (case ada => kmk_list); (case adb => kmk_list); (case ade => ((try dsimp only [List.cons_append, List.nil_append]); (try rfl))); (case adz => rw [sizeLine_eq]; simp only [List.length_cons, List.length_nil]; omega)); intro D' h' F' N' l1; (try k_lt l1); (try k_sweep); k_steps) | ((with_reducible show wpAny _ _ (call (Value.builtin "str.upper") [Value.str _ _]) _ _ _); refine call_upper (by assumption) ?_; (try rw [upS_one]); (try dsimp only); k_steps) | (lct_look; k_dflt (refine LCt.ListComp_T (F₀ := by k_asm) (by with_unfolding_all rfl) (by decide) (by rfl) (by decide) (by rfl) ?_); k_steps) | ((with_reducible show wpAny _ _ (call (Value.builtin "list.append") [Value.ref _, _]) _ _ _); (with_unfolding_all refine' append_K ?apF ?apN ?apU ?_ ?apz; (case apF => k_asm); (case apN => k_asm); (case apU => k_upd); (case apz => rw [sizeLine_eq]; simp only [List.size_toArray]; omega)); intro h' F' N'; (try k_sweep); k_steps) | ((with_reducible show wpAny _ _ (subscriptTail _ _ (Value.str (sL _) _) (Value.int _ _)) _ _ _); k_dflt (refine' sl_itemP ?lei ?leh ?_ ?lej ?lek; (case lei => simp); (case leh => simp); (case lej => with_unfolding_all rfl); (case lek => intro _; with_unfolding_all rfl)); intro t9'; (try simp only [List.getD_cons_zero, List.getD_cons_succ, Int.toNat_zero, Int.toNat_one]); k_steps) | ((with_reducible show wpAny _ _ (binaryOp Operator.Add (Value.str (sL _) _) (Value.str (sL _) _)) _ _ _); refine sL_add (by simp) ?_; intro t9' k9'; dsimp only [List.cons_append, List.nil_append]; k_steps) | ((with_reducible show wpAny _ _ (subscriptTail _ _ (Value.str _ _) (Value.int _ _)) _ _ _); k_dflt (refine' letter_item ?lei ?_ ?lej ?lek; (case lei => omega); (case lej => with_unfolding_all rfl); (case lek => intro _; with_unfolding_all rfl)); intro t9'; (try dsimp only); k_steps) | ((with_reducible show wpAny _ _ (call (Value.builtin "bytes.decode") [Value.bytes _ _]) _ _ _); refine ascii_decode (by with_reducible assumption) (by with_reducible assumption) (by with_reducible assumption) (by simp) ?_; intro t9' k9'; (try dsimp only); k_steps) | ((with_reducible show wpAny _ _ (call (Value.ref 193) _ _) _ _ _); k_dflt (refine' ap_walk ?gak1 ?gak2 ?gak3 ?gak4 ?gak5 ?gad ?gau ?gax ?_; (case gak1 => k_asm); (case gak2 => k_asm); (case gak3 => k_asm); (case gak4 => k_asm); (case gak5 => k_asm); (case gad => exact Nat.le_of_ble_eq_true rfl); (case gau => exact Nat.le_of_ble_eq_true rfl); (case gax => with_reducible assumption)); intro t9' h' tk' F' N'; (try dsimp only); (try k_fold); k_steps)))
            refine Hold.off ?_
            (with_reducible rename Fr _ _ _ _ => F9)
            (with_unfolding_all refine' For_turns F9 ?_; k_whole)
            (k_steps; repeat' (refine Hold.off ?_; first | ((with_reducible show wpAny _ _ (subscriptTail _ _ (Value.ref _) (Value.int _ _)) _ _ _); k_dflt (refine' PyProof.Rows.item_listL (News.isList (by k_asm) (by k_mem)) ?ilb ?ilc ?ild ?_ ?ile ?ilf; (case ilb => omega); (case ilc => omega); (case ild => with_reducible assumption); (case ile => with_unfolding_all rfl); (case ilf => intro _; with_unfolding_all rfl)); k_steps) | ((with_reducible show wpAny _ _ (binaryOp _ (Value.ref _) (Value.ref _)) _ _ _); k_dflt (refine' kmk_add_lit ?adF ?adN ?ada ?adb ?ade ?_ ?adz; (case adF => k_asm); (case adN => k_asm); (case ada => kmk_list); (case adb => kmk_list); (case ade => ((try dsimp only [List.cons_append, List.nil_append]); (try rfl))); (case adz => rw [sizeLine_eq]; simp only [List.length_cons, List.length_nil]; omega)); intro D' h' F' N' l1; (try k_lt l1); (try k_sweep); k_steps) | ((with_reducible show wpAny _ _ (call (Value.builtin "str.upper") [Value.str _ _]) _ _ _); refine call_upper (by assumption) ?_; (try rw [upS_one]); (try dsimp only); k_steps) | (lct_look; k_dflt (refine LCt.ListComp_T (F₀ := by k_asm) (by with_unfolding_all rfl) (by decide) (by rfl) (by decide) (by rfl) ?_); k_steps) | ((with_reducible show wpAny _ _ (call (Value.builtin "list.append") [Value.ref _, _]) _ _ _); (with_unfolding_all refine' append_K ?apF ?apN ?apU ?_ ?apz; (case apF => k_asm); (case apN => k_asm); (case apU => k_upd); (case apz => rw [sizeLine_eq]; simp only [List.size_toArray]; omega)); intro h' F' N'; (try k_sweep); k_steps) | ((with_reducible show wpAny _ _ (subscriptTail _ _ (Value.str (sL _) _) (Value.int _ _)) _ _ _); k_dflt (refine' sl_itemP ?lei ?leh ?_ ?lej ?lek; (case lei => simp); (case leh => simp); (case lej => with_unfolding_all rfl); (case lek => intro _; with_unfolding_all rfl)); intro t9'; (try simp only [List.getD_cons_zero, List.getD_cons_succ, Int.toNat_zero, Int.toNat_one]); k_steps) | ((with_reducible show wpAny _ _ (binaryOp Operator.Add (Value.str (sL _) _) (Value.str (sL _) _)) _ _ _); refine sL_add (by simp) ?_; intro t9' k9'; dsimp only [List.cons_append, List.nil_append]; k_steps) | ((with_reducible show wpAny _ _ (subscriptTail _ _ (Value.str _ _) (Value.int _ _)) _ _ _); k_dflt (refine' letter_item ?lei ?_ ?lej ?lek; (case lei => omega); (case lej => with_unfolding_all rfl); (case lek => intro _; with_unfolding_all rfl)); intro t9'; (try dsimp only); k_steps) | ((with_reducible show wpAny _ _ (call (Value.builtin "bytes.decode") [Value.bytes _ _]) _ _ _); refine ascii_decode (by with_reducible assumption) (by with_reducible assumption) (by with_reducible assumption) (by simp) ?_; intro t9' k9'; (try dsimp only); k_steps) | ((with_reducible show wpAny _ _ (call (Value.ref 193) _ _) _ _ _); k_dflt (refine' ap_walk ?gak1 ?gak2 ?gak3 ?gak4 ?gak5 ?gad ?gau ?gax ?_; (case gak1 => k_asm); (case gak2 => k_asm); (case gak3 => k_asm); (case gak4 => k_asm); (case gak5 => k_asm); (case gad => exact Nat.le_of_ble_eq_true rfl); (case gau => exact Nat.le_of_ble_eq_true rfl); (case gax => with_reducible assumption)); intro t9' h' tk' F' N'; (try dsimp only); (try k_fold); k_steps)))
            refine Hold.off ?_
            refine PyProof.Rows.len_list (items := rs.toArray) (News.isList (by k_asm) (by k_mem)) (by simp only [List.size_toArray]; omega) ?_
            rw [show ((rs.toArray.size : Nat) : Int) = (mt.length : Int) by rw [List.size_toArray, hrl]]
            (try dsimp only)
            (k_steps; repeat' (refine Hold.off ?_; first | ((with_reducible show wpAny _ _ (subscriptTail _ _ (Value.ref _) (Value.int _ _)) _ _ _); k_dflt (refine' PyProof.Rows.item_listL (News.isList (by k_asm) (by k_mem)) ?ilb ?ilc ?ild ?_ ?ile ?ilf; (case ilb => omega); (case ilc => omega); (case ild => with_reducible assumption); (case ile => with_unfolding_all rfl); (case ilf => intro _; with_unfolding_all rfl)); k_steps) | ((with_reducible show wpAny _ _ (binaryOp _ (Value.ref _) (Value.ref _)) _ _ _); k_dflt (refine' kmk_add_lit ?adF ?adN ?ada ?adb ?ade ?_ ?adz; (case adF => k_asm); (case adN => k_asm); (case ada => kmk_list); (case adb => kmk_list); (case ade => ((try dsimp only [List.cons_append, List.nil_append]); (try rfl))); (case adz => rw [sizeLine_eq]; simp only [List.length_cons, List.length_nil]; omega)); intro D' h' F' N' l1; (try k_lt l1); (try k_sweep); k_steps) | ((with_reducible show wpAny _ _ (call (Value.builtin "str.upper") [Value.str _ _]) _ _ _); refine call_upper (by assumption) ?_; (try rw [upS_one]); (try dsimp only); k_steps) | (lct_look; k_dflt (refine LCt.ListComp_T (F₀ := by k_asm) (by with_unfolding_all rfl) (by decide) (by rfl) (by decide) (by rfl) ?_); k_steps) | ((with_reducible show wpAny _ _ (call (Value.builtin "list.append") [Value.ref _, _]) _ _ _); (with_unfolding_all refine' append_K ?apF ?apN ?apU ?_ ?apz; (case apF => k_asm); (case apN => k_asm); (case apU => k_upd); (case apz => rw [sizeLine_eq]; simp only [List.size_toArray]; omega)); intro h' F' N'; (try k_sweep); k_steps) | ((with_reducible show wpAny _ _ (subscriptTail _ _ (Value.str (sL _) _) (Value.int _ _)) _ _ _); k_dflt (refine' sl_itemP ?lei ?leh ?_ ?lej ?lek; (case lei => simp); (case leh => simp); (case lej => with_unfolding_all rfl); (case lek => intro _; with_unfolding_all rfl)); intro t9'; (try simp only [List.getD_cons_zero, List.getD_cons_succ, Int.toNat_zero, Int.toNat_one]); k_steps) | ((with_reducible show wpAny _ _ (binaryOp Operator.Add (Value.str (sL _) _) (Value.str (sL _) _)) _ _ _); refine sL_add (by simp) ?_; intro t9' k9'; dsimp only [List.cons_append, List.nil_append]; k_steps) | ((with_reducible show wpAny _ _ (subscriptTail _ _ (Value.str _ _) (Value.int _ _)) _ _ _); k_dflt (refine' letter_item ?lei ?_ ?lej ?lek; (case lei => omega); (case lej => with_unfolding_all rfl); (case lek => intro _; with_unfolding_all rfl)); intro t9'; (try dsimp only); k_steps) | ((with_reducible show wpAny _ _ (call (Value.builtin "bytes.decode") [Value.bytes _ _]) _ _ _); refine ascii_decode (by with_reducible assumption) (by with_reducible assumption) (by with_reducible assumption) (by simp) ?_; intro t9' k9'; (try dsimp only); k_steps) | ((with_reducible show wpAny _ _ (call (Value.ref 193) _ _) _ _ _); k_dflt (refine' ap_walk ?gak1 ?gak2 ?gak3 ?gak4 ?gak5 ?gad ?gau ?gax ?_; (case gak1 => k_asm); (case gak2 => k_asm); (case gak3 => k_asm); (case gak4 => k_asm); (case gak5 => k_asm); (case gad => exact Nat.le_of_ble_eq_true rfl); (case gau => exact Nat.le_of_ble_eq_true rfl); (case gax => with_reducible assumption)); intro t9' h' tk' F' N'; (try dsimp only); (try k_fold); k_steps)))
            refine Hold.off ?_
            (with_reducible rename IsRange _ _ _ _ _ _ _ _ => hR)
            (with_unfolding_all refine iter_rangeTurns (n := mt.length) (by rfl) hR (up_small (by omega)) (up_size _) (by k_asm) (cb_drop (news := (RL, LCg.lst rs) :: (wl, listOf wvs.toArray wn) :: hdrO w bA bdx bl tb bvs bn ((s1.heap.objs.size + 1, oc1') :: ox)) (by k_asm) (by unfold hdrO; kcf_all)) ?_)
            intro I5 hI5
            refine itemsRest_blind (fun i m3 n3 => ∃ (tbo : Tok), m3 (Str.ofString "squares") = some (.ref D) ∧ m3 (Str.ofString "bound") = some (.int (2 + (w7.sum).fmod 3) tbo) ∧ m3 (Str.ofString "board") = some (.ref bA) ∧ m3 (Str.ofString "rooks") = some (.ref RL) ∧
              n3 = (RL, LCg.lst rs) :: (wl, listOf wvs.toArray wn) :: hdrO w bA bdx bl tb bvs bn ((s1.heap.objs.size + 1, oc1') :: ox)) ?turnD ?doneD ?zD
            case zD => exact ⟨_, by with_unfolding_all rfl, by with_unfolding_all rfl, by with_unfolding_all rfl, by with_unfolding_all rfl, rfl⟩
            case turnD =>
              rintro Q9 i a0 v3 h3 tk3 m3 n3 hx3 hv3 ⟨tbo, hk2, hk3, hk4, hk5, rfl⟩ F3
              obtain ⟨hi, rfl⟩ := rangeItems_get hx3
              obtain ⟨t9, rfl⟩ := hv3
              obtain ⟨ti, hri⟩ := hrs.at (show (mt.map rookS)[i]? = some (rookS mt[i]) by rw [List.getElem?_map, List.getElem?_eq_getElem hi]; rfl)
              have hri2 : rs[((0 : Int) + (i : Int)).toNat]? = some (.str (sL [65 + mt[i].2, 65 + mt[i].1]) ti) := by rw [show ((0 : Int) + (i : Int)).toNat = i by omega]; exact hri
              rw [← fr_eq [(_, _), (_, _), (_, _), (_, _)] (List.forall_mem_cons.mpr ⟨hk2, List.forall_mem_cons.mpr ⟨hk3, List.forall_mem_cons.mpr ⟨hk4, List.forall_mem_cons.mpr ⟨hk5, List.forall_mem_nil _⟩⟩⟩⟩)] at F3
              dsimp only [kstB] at F3
              clear hk2 hk3 hk4 hk5
              refine AllObj.cons fun oI hcI => AllObj.nil fun N3 => ?_
              unfold hdrO at N3
              dsimp only [List.cons_append, List.nil_append] at N3
              dsimp only
              (k_steps; repeat' (refine Hold.off ?_; first | ((with_reducible show wpAny _ _ (subscriptTail _ _ (Value.ref _) (Value.int _ _)) _ _ _); k_dflt (refine' PyProof.Rows.item_listL (News.isList (by k_asm) (by k_mem)) ?ilb ?ilc ?ild ?_ ?ile ?ilf; (case ilb => omega); (case ilc => omega); (case ild => with_reducible assumption); (case ile => with_unfolding_all rfl); (case ilf => intro _; with_unfolding_all rfl)); k_steps) | ((with_reducible show wpAny _ _ (binaryOp _ (Value.ref _) (Value.ref _)) _ _ _); k_dflt (refine' kmk_add_lit ?adF ?adN ?ada ?adb ?ade ?_ ?adz; (case adF => k_asm); (case adN => k_asm); (case ada => kmk_list); (case adb => kmk_list); (case ade => ((try dsimp only [List.cons_append, List.nil_append]); (try rfl))); (case adz => rw [sizeLine_eq]; simp only [List.length_cons, List.length_nil]; omega)); intro D' h' F' N' l1; (try k_lt l1); (try k_sweep); k_steps) | ((with_reducible show wpAny _ _ (call (Value.builtin "str.upper") [Value.str _ _]) _ _ _); refine call_upper (by assumption) ?_; (try rw [upS_one]); (try dsimp only); k_steps) | (lct_look; k_dflt (refine LCt.ListComp_T (F₀ := by k_asm) (by with_unfolding_all rfl) (by decide) (by rfl) (by decide) (by rfl) ?_); k_steps) | ((with_reducible show wpAny _ _ (call (Value.builtin "list.append") [Value.ref _, _]) _ _ _); (with_unfolding_all refine' append_K ?apF ?apN ?apU ?_ ?apz; (case apF => k_asm); (case apN => k_asm); (case apU => k_upd); (case apz => rw [sizeLine_eq]; simp only [List.size_toArray]; omega)); intro h' F' N'; (try k_sweep); k_steps) | ((with_reducible show wpAny _ _ (subscriptTail _ _ (Value.str (sL _) _) (Value.int _ _)) _ _ _); k_dflt (refine' sl_itemP ?lei ?leh ?_ ?lej ?lek; (case lei => simp); (case leh => simp); (case lej => with_unfolding_all rfl); (case lek => intro _; with_unfolding_all rfl)); intro t9'; (try simp only [List.getD_cons_zero, List.getD_cons_succ, Int.toNat_zero, Int.toNat_one]); k_steps) | ((with_reducible show wpAny _ _ (binaryOp Operator.Add (Value.str (sL _) _) (Value.str (sL _) _)) _ _ _); refine sL_add (by simp) ?_; intro t9' k9'; dsimp only [List.cons_append, List.nil_append]; k_steps) | ((with_reducible show wpAny _ _ (subscriptTail _ _ (Value.str _ _) (Value.int _ _)) _ _ _); k_dflt (refine' letter_item ?lei ?_ ?lej ?lek; (case lei => omega); (case lej => with_unfolding_all rfl); (case lek => intro _; with_unfolding_all rfl)); intro t9'; (try dsimp only); k_steps) | ((with_reducible show wpAny _ _ (call (Value.builtin "bytes.decode") [Value.bytes _ _]) _ _ _); refine ascii_decode (by with_reducible assumption) (by with_reducible assumption) (by with_reducible assumption) (by simp) ?_; intro t9' k9'; (try dsimp only); k_steps) | ((with_reducible show wpAny _ _ (call (Value.ref 193) _ _) _ _ _); k_dflt (refine' ap_walk ?gak1 ?gak2 ?gak3 ?gak4 ?gak5 ?gad ?gau ?gax ?_; (case gak1 => k_asm); (case gak2 => k_asm); (case gak3 => k_asm); (case gak4 => k_asm); (case gak5 => k_asm); (case gad => exact Nat.le_of_ble_eq_true rfl); (case gau => exact Nat.le_of_ble_eq_true rfl); (case gax => with_reducible assumption)); intro t9' h' tk' F' N'; (try dsimp only); (try k_fold); k_steps)))
              refine Hold.off ?_
              (with_reducible rename Fr _ _ _ _ => F9)
              (with_unfolding_all refine' For_turns F9 ?_; k_whole)
              (k_steps; repeat' (refine Hold.off ?_; first | ((with_reducible show wpAny _ _ (subscriptTail _ _ (Value.ref _) (Value.int _ _)) _ _ _); k_dflt (refine' PyProof.Rows.item_listL (News.isList (by k_asm) (by k_mem)) ?ilb ?ilc ?ild ?_ ?ile ?ilf; (case ilb => omega); (case ilc => omega); (case ild => with_reducible assumption); (case ile => with_unfolding_all rfl); (case ilf => intro _; with_unfolding_all rfl)); k_steps) | ((with_reducible show wpAny _ _ (binaryOp _ (Value.ref _) (Value.ref _)) _ _ _); k_dflt (refine' kmk_add_lit ?adF ?adN ?ada ?adb ?ade ?_ ?adz; (case adF => k_asm); (case adN => k_asm); (case ada => kmk_list); (case adb => kmk_list); (case ade => ((try dsimp only [List.cons_append, List.nil_append]); (try rfl))); (case adz => rw [sizeLine_eq]; simp only [List.length_cons, List.length_nil]; omega)); intro D' h' F' N' l1; (try k_lt l1); (try k_sweep); k_steps) | ((with_reducible show wpAny _ _ (call (Value.builtin "str.upper") [Value.str _ _]) _ _ _); refine call_upper (by assumption) ?_; (try rw [upS_one]); (try dsimp only); k_steps) | (lct_look; k_dflt (refine LCt.ListComp_T (F₀ := by k_asm) (by with_unfolding_all rfl) (by decide) (by rfl) (by decide) (by rfl) ?_); k_steps) | ((with_reducible show wpAny _ _ (call (Value.builtin "list.append") [Value.ref _, _]) _ _ _); (with_unfolding_all refine' append_K ?apF ?apN ?apU ?_ ?apz; (case apF => k_asm); (case apN => k_asm); (case apU => k_upd); (case apz => rw [sizeLine_eq]; simp only [List.size_toArray]; omega)); intro h' F' N'; (try k_sweep); k_steps) | ((with_reducible show wpAny _ _ (subscriptTail _ _ (Value.str (sL _) _) (Value.int _ _)) _ _ _); k_dflt (refine' sl_itemP ?lei ?leh ?_ ?lej ?lek; (case lei => simp); (case leh => simp); (case lej => with_unfolding_all rfl); (case lek => intro _; with_unfolding_all rfl)); intro t9'; (try simp only [List.getD_cons_zero, List.getD_cons_succ, Int.toNat_zero, Int.toNat_one]); k_steps) | ((with_reducible show wpAny _ _ (binaryOp Operator.Add (Value.str (sL _) _) (Value.str (sL _) _)) _ _ _); refine sL_add (by simp) ?_; intro t9' k9'; dsimp only [List.cons_append, List.nil_append]; k_steps) | ((with_reducible show wpAny _ _ (subscriptTail _ _ (Value.str _ _) (Value.int _ _)) _ _ _); k_dflt (refine' letter_item ?lei ?_ ?lej ?lek; (case lei => omega); (case lej => with_unfolding_all rfl); (case lek => intro _; with_unfolding_all rfl)); intro t9'; (try dsimp only); k_steps) | ((with_reducible show wpAny _ _ (call (Value.builtin "bytes.decode") [Value.bytes _ _]) _ _ _); refine ascii_decode (by with_reducible assumption) (by with_reducible assumption) (by with_reducible assumption) (by simp) ?_; intro t9' k9'; (try dsimp only); k_steps) | ((with_reducible show wpAny _ _ (call (Value.ref 193) _ _) _ _ _); k_dflt (refine' ap_walk ?gak1 ?gak2 ?gak3 ?gak4 ?gak5 ?gad ?gau ?gax ?_; (case gak1 => k_asm); (case gak2 => k_asm); (case gak3 => k_asm); (case gak4 => k_asm); (case gak5 => k_asm); (case gad => exact Nat.le_of_ble_eq_true rfl); (case gau => exact Nat.le_of_ble_eq_true rfl); (case gax => with_reducible assumption)); intro t9' h' tk' F' N'; (try dsimp only); (try k_fold); k_steps)))
              refine Hold.off ?_
              (with_reducible rename IsRange _ _ _ _ _ _ _ _ => hR2)
              (with_unfolding_all refine iter_rangeTurns (n := i) (by rfl) hR2 (by rw [Int.zero_add]; exact up_small (by omega)) (by rw [Int.zero_add]; exact up_size _) (by k_asm) (cb_drop (news := (I5, oI) :: (RL, LCg.lst rs) :: (wl, listOf wvs.toArray wn) :: hdrO w bA bdx bl tb bvs bn ((s1.heap.objs.size + 1, oc1') :: ox)) (by k_asm) (by unfold hdrO; kcf_all)) ?_)
              intro I6 hI6
              refine itemsRest_blind (fun j m3 n3 => ∃ (tbo tit : Tok), m3 (Str.ofString "squares") = some (.ref D) ∧ m3 (Str.ofString "bound") = some (.int (2 + (w7.sum).fmod 3) tbo) ∧ m3 (Str.ofString "board") = some (.ref bA) ∧ m3 (Str.ofString "rooks") = some (.ref RL) ∧ m3 (Str.ofString "i") = some (.int (0 + (i : Int)) tit) ∧
                n3 = (I5, oI) :: (RL, LCg.lst rs) :: (wl, listOf wvs.toArray wn) :: hdrO w bA bdx bl tb bvs bn ((s1.heap.objs.size + 1, oc1') :: ox)) ?turnE ?doneE ?zE
              case zE => exact ⟨_, _, by with_unfolding_all rfl, by with_unfolding_all rfl, by with_unfolding_all rfl, by with_unfolding_all rfl, by with_unfolding_all rfl, rfl⟩
              case turnE =>
                rintro Q9 j a0 v3 h3 tk3 m3 n3 hx3 hv3 ⟨tbo, tit, hk2, hk3, hk4, hk5, hk6, rfl⟩ F3
                obtain ⟨hj, rfl⟩ := rangeItems_get hx3
                obtain ⟨t8, rfl⟩ := hv3
                have hjm : j < mt.length := by omega
                obtain ⟨tj, hrj⟩ := hrs.at (show (mt.map rookS)[j]? = some (rookS mt[j]) by rw [List.getElem?_map, List.getElem?_eq_getElem hjm]; rfl)
                have hrj2 : rs[((0 : Int) + (j : Int)).toNat]? = some (.str (sL [65 + mt[j].2, 65 + mt[j].1]) tj) := by rw [show ((0 : Int) + (j : Int)).toNat = j by omega]; exact hrj
                have hlev := lev_rook hmr hmn1 hmn2 hi hj
                rw [← fr_eq [(_, _), (_, _), (_, _), (_, _), (_, _)] (List.forall_mem_cons.mpr ⟨hk2, List.forall_mem_cons.mpr ⟨hk3, List.forall_mem_cons.mpr ⟨hk4, List.forall_mem_cons.mpr ⟨hk5, List.forall_mem_cons.mpr ⟨hk6, List.forall_mem_nil _⟩⟩⟩⟩⟩)] at F3
                dsimp only [kstB] at F3
                clear hk2 hk3 hk4 hk5 hk6
                refine AllObj.cons fun oJ hcJ => AllObj.nil fun N3 => ?_
                unfold hdrO at N3
                dsimp only [List.cons_append, List.nil_append] at N3
                dsimp only
                (k_steps; repeat' (refine Hold.off ?_; first | ((with_reducible show wpAny _ _ (subscriptTail _ _ (Value.ref _) (Value.int _ _)) _ _ _); k_dflt (refine' PyProof.Rows.item_listL (News.isList (by k_asm) (by k_mem)) ?ilb ?ilc ?ild ?_ ?ile ?ilf; (case ilb => omega); (case ilc => omega); (case ild => with_reducible assumption); (case ile => with_unfolding_all rfl); (case ilf => intro _; with_unfolding_all rfl)); k_steps) | ((with_reducible show wpAny _ _ (binaryOp _ (Value.ref _) (Value.ref _)) _ _ _); k_dflt (refine' kmk_add_lit ?adF ?adN ?ada ?adb ?ade ?_ ?adz; (case adF => k_asm); (case adN => k_asm); (case ada => kmk_list); (case adb => kmk_list); (case ade => ((try dsimp only [List.cons_append, List.nil_append]); (try rfl))); (case adz => rw [sizeLine_eq]; simp only [List.length_cons, List.length_nil]; omega)); intro D' h' F' N' l1; (try k_lt l1); (try k_sweep); k_steps) | ((with_reducible show wpAny _ _ (call (Value.builtin "str.upper") [Value.str _ _]) _ _ _); refine call_upper (by assumption) ?_; (try rw [upS_one]); (try dsimp only); k_steps) | (lct_look; k_dflt (refine LCt.ListComp_T (F₀ := by k_asm) (by with_unfolding_all rfl) (by decide) (by rfl) (by decide) (by rfl) ?_); k_steps) | ((with_reducible show wpAny _ _ (call (Value.builtin "list.append") [Value.ref _, _]) _ _ _); (with_unfolding_all refine' append_K ?apF ?apN ?apU ?_ ?apz; (case apF => k_asm); (case apN => k_asm); (case apU => k_upd); (case apz => rw [sizeLine_eq]; simp only [List.size_toArray]; omega)); intro h' F' N'; (try k_sweep); k_steps) | ((with_reducible show wpAny _ _ (subscriptTail _ _ (Value.str (sL _) _) (Value.int _ _)) _ _ _); k_dflt (refine' sl_itemP ?lei ?leh ?_ ?lej ?lek; (case lei => simp); (case leh => simp); (case lej => with_unfolding_all rfl); (case lek => intro _; with_unfolding_all rfl)); intro t9'; (try simp only [List.getD_cons_zero, List.getD_cons_succ, Int.toNat_zero, Int.toNat_one]); k_steps) | ((with_reducible show wpAny _ _ (binaryOp Operator.Add (Value.str (sL _) _) (Value.str (sL _) _)) _ _ _); refine sL_add (by simp) ?_; intro t9' k9'; dsimp only [List.cons_append, List.nil_append]; k_steps) | ((with_reducible show wpAny _ _ (subscriptTail _ _ (Value.str _ _) (Value.int _ _)) _ _ _); k_dflt (refine' letter_item ?lei ?_ ?lej ?lek; (case lei => omega); (case lej => with_unfolding_all rfl); (case lek => intro _; with_unfolding_all rfl)); intro t9'; (try dsimp only); k_steps) | ((with_reducible show wpAny _ _ (call (Value.builtin "bytes.decode") [Value.bytes _ _]) _ _ _); refine ascii_decode (by with_reducible assumption) (by with_reducible assumption) (by with_reducible assumption) (by simp) ?_; intro t9' k9'; (try dsimp only); k_steps) | ((with_reducible show wpAny _ _ (call (Value.ref 193) _ _) _ _ _); k_dflt (refine' ap_walk ?gak1 ?gak2 ?gak3 ?gak4 ?gak5 ?gad ?gau ?gax ?_; (case gak1 => k_asm); (case gak2 => k_asm); (case gak3 => k_asm); (case gak4 => k_asm); (case gak5 => k_asm); (case gad => exact Nat.le_of_ble_eq_true rfl); (case gau => exact Nat.le_of_ble_eq_true rfl); (case gax => with_reducible assumption)); intro t9' h' tk' F' N'; (try dsimp only); (try k_fold); k_steps)))
                all_goals try exact bne_no (by with_reducible assumption)
                refine Hold.off ?_
                have hia : ∀ c ∈ [65 + mt[i].2, 65 + mt[i].1], okc c = true := rook_okc (hmr _ (List.getElem_mem hi))
                have hja : ∀ c ∈ [65 + mt[j].2, 65 + mt[j].1], okc c = true := rook_okc (hmr _ (List.getElem_mem hjm))
                k_dflt (refine' lev_walk ?gak1 ?gak2 ?gak3 ?gak4 ?gak5 ?gad ?gau hia hja ?gal ?gam ?gan ?_; (case gak1 => k_asm); (case gak2 => k_asm); (case gak3 => k_asm); (case gak4 => k_asm); (case gak5 => k_asm); (case gad => exact Nat.le_of_ble_eq_true rfl); (case gau => exact Nat.le_of_ble_eq_true rfl); (case gal => simp); (case gam => simp); (case gan => omega))
                intro t7 h7 tk7 F7 N7
                rw [hlev]
                (try dsimp only)
                (k_steps; repeat' (refine Hold.off ?_; first | ((with_reducible show wpAny _ _ (subscriptTail _ _ (Value.ref _) (Value.int _ _)) _ _ _); k_dflt (refine' PyProof.Rows.item_listL (News.isList (by k_asm) (by k_mem)) ?ilb ?ilc ?ild ?_ ?ile ?ilf; (case ilb => omega); (case ilc => omega); (case ild => with_reducible assumption); (case ile => with_unfolding_all rfl); (case ilf => intro _; with_unfolding_all rfl)); k_steps) | ((with_reducible show wpAny _ _ (binaryOp _ (Value.ref _) (Value.ref _)) _ _ _); k_dflt (refine' kmk_add_lit ?adF ?adN ?ada ?adb ?ade ?_ ?adz; (case adF => k_asm); (case adN => k_asm); (case ada => kmk_list); (case adb => kmk_list); (case ade => ((try dsimp only [List.cons_append, List.nil_append]); (try rfl))); (case adz => rw [sizeLine_eq]; simp only [List.length_cons, List.length_nil]; omega)); intro D' h' F' N' l1; (try k_lt l1); (try k_sweep); k_steps) | ((with_reducible show wpAny _ _ (call (Value.builtin "str.upper") [Value.str _ _]) _ _ _); refine call_upper (by assumption) ?_; (try rw [upS_one]); (try dsimp only); k_steps) | (lct_look; k_dflt (refine LCt.ListComp_T (F₀ := by k_asm) (by with_unfolding_all rfl) (by decide) (by rfl) (by decide) (by rfl) ?_); k_steps) | ((with_reducible show wpAny _ _ (call (Value.builtin "list.append") [Value.ref _, _]) _ _ _); (with_unfolding_all refine' append_K ?apF ?apN ?apU ?_ ?apz; (case apF => k_asm); (case apN => k_asm); (case apU => k_upd); (case apz => rw [sizeLine_eq]; simp only [List.size_toArray]; omega)); intro h' F' N'; (try k_sweep); k_steps) | ((with_reducible show wpAny _ _ (subscriptTail _ _ (Value.str (sL _) _) (Value.int _ _)) _ _ _); k_dflt (refine' sl_itemP ?lei ?leh ?_ ?lej ?lek; (case lei => simp); (case leh => simp); (case lej => with_unfolding_all rfl); (case lek => intro _; with_unfolding_all rfl)); intro t9'; (try simp only [List.getD_cons_zero, List.getD_cons_succ, Int.toNat_zero, Int.toNat_one]); k_steps) | ((with_reducible show wpAny _ _ (binaryOp Operator.Add (Value.str (sL _) _) (Value.str (sL _) _)) _ _ _); refine sL_add (by simp) ?_; intro t9' k9'; dsimp only [List.cons_append, List.nil_append]; k_steps) | ((with_reducible show wpAny _ _ (subscriptTail _ _ (Value.str _ _) (Value.int _ _)) _ _ _); k_dflt (refine' letter_item ?lei ?_ ?lej ?lek; (case lei => omega); (case lej => with_unfolding_all rfl); (case lek => intro _; with_unfolding_all rfl)); intro t9'; (try dsimp only); k_steps) | ((with_reducible show wpAny _ _ (call (Value.builtin "bytes.decode") [Value.bytes _ _]) _ _ _); refine ascii_decode (by with_reducible assumption) (by with_reducible assumption) (by with_reducible assumption) (by simp) ?_; intro t9' k9'; (try dsimp only); k_steps) | ((with_reducible show wpAny _ _ (call (Value.ref 193) _ _) _ _ _); k_dflt (refine' ap_walk ?gak1 ?gak2 ?gak3 ?gak4 ?gak5 ?gad ?gau ?gax ?_; (case gak1 => k_asm); (case gak2 => k_asm); (case gak3 => k_asm); (case gak4 => k_asm); (case gak5 => k_asm); (case gad => exact Nat.le_of_ble_eq_true rfl); (case gau => exact Nat.le_of_ble_eq_true rfl); (case gax => with_reducible assumption)); intro t9' h' tk' F' N'; (try dsimp only); (try k_fold); k_steps)))
                all_goals try exact bne_no (by with_reducible assumption)
                exact unrEnd1 (news := (I5, oI) :: (RL, LCg.lst rs) :: (wl, listOf wvs.toArray wn) :: hdrO w bA bdx bl tb bvs bn ((s1.heap.objs.size + 1, oc1') :: ox)) (by k_asm) N7 (fun p hp => hp) hI6 ⟨trivial, tbo, tit, by with_unfolding_all rfl, by with_unfolding_all rfl, by with_unfolding_all rfl, by with_unfolding_all rfl, by with_unfolding_all rfl, rfl⟩
              case doneE =>
                rintro h3 tk3 m3 n3 ⟨tbo, tit, hk2, hk3, hk4, hk5, hk6, rfl⟩ F3 N3
                rw [← fr_eq [(_, _), (_, _), (_, _), (_, _), (_, _)] (List.forall_mem_cons.mpr ⟨hk2, List.forall_mem_cons.mpr ⟨hk3, List.forall_mem_cons.mpr ⟨hk4, List.forall_mem_cons.mpr ⟨hk5, List.forall_mem_cons.mpr ⟨hk6, List.forall_mem_nil _⟩⟩⟩⟩⟩)] at F3
                dsimp only [kstB] at F3
                clear hk2 hk3 hk4 hk5 hk6
                (k_steps; repeat' (refine Hold.off ?_; first | ((with_reducible show wpAny _ _ (subscriptTail _ _ (Value.ref _) (Value.int _ _)) _ _ _); k_dflt (refine' PyProof.Rows.item_listL (News.isList (by k_asm) (by k_mem)) ?ilb ?ilc ?ild ?_ ?ile ?ilf; (case ilb => omega); (case ilc => omega); (case ild => with_reducible assumption); (case ile => with_unfolding_all rfl); (case ilf => intro _; with_unfolding_all rfl)); k_steps) | ((with_reducible show wpAny _ _ (binaryOp _ (Value.ref _) (Value.ref _)) _ _ _); k_dflt (refine' kmk_add_lit ?adF ?adN ?ada ?adb ?ade ?_ ?adz; (case adF => k_asm); (case adN => k_asm); (case ada => kmk_list); (case adb => kmk_list); (case ade => ((try dsimp only [List.cons_append, List.nil_append]); (try rfl))); (case adz => rw [sizeLine_eq]; simp only [List.length_cons, List.length_nil]; omega)); intro D' h' F' N' l1; (try k_lt l1); (try k_sweep); k_steps) | ((with_reducible show wpAny _ _ (call (Value.builtin "str.upper") [Value.str _ _]) _ _ _); refine call_upper (by assumption) ?_; (try rw [upS_one]); (try dsimp only); k_steps) | (lct_look; k_dflt (refine LCt.ListComp_T (F₀ := by k_asm) (by with_unfolding_all rfl) (by decide) (by rfl) (by decide) (by rfl) ?_); k_steps) | ((with_reducible show wpAny _ _ (call (Value.builtin "list.append") [Value.ref _, _]) _ _ _); (with_unfolding_all refine' append_K ?apF ?apN ?apU ?_ ?apz; (case apF => k_asm); (case apN => k_asm); (case apU => k_upd); (case apz => rw [sizeLine_eq]; simp only [List.size_toArray]; omega)); intro h' F' N'; (try k_sweep); k_steps) | ((with_reducible show wpAny _ _ (subscriptTail _ _ (Value.str (sL _) _) (Value.int _ _)) _ _ _); k_dflt (refine' sl_itemP ?lei ?leh ?_ ?lej ?lek; (case lei => simp); (case leh => simp); (case lej => with_unfolding_all rfl); (case lek => intro _; with_unfolding_all rfl)); intro t9'; (try simp only [List.getD_cons_zero, List.getD_cons_succ, Int.toNat_zero, Int.toNat_one]); k_steps) | ((with_reducible show wpAny _ _ (binaryOp Operator.Add (Value.str (sL _) _) (Value.str (sL _) _)) _ _ _); refine sL_add (by simp) ?_; intro t9' k9'; dsimp only [List.cons_append, List.nil_append]; k_steps) | ((with_reducible show wpAny _ _ (subscriptTail _ _ (Value.str _ _) (Value.int _ _)) _ _ _); k_dflt (refine' letter_item ?lei ?_ ?lej ?lek; (case lei => omega); (case lej => with_unfolding_all rfl); (case lek => intro _; with_unfolding_all rfl)); intro t9'; (try dsimp only); k_steps) | ((with_reducible show wpAny _ _ (call (Value.builtin "bytes.decode") [Value.bytes _ _]) _ _ _); refine ascii_decode (by with_reducible assumption) (by with_reducible assumption) (by with_reducible assumption) (by simp) ?_; intro t9' k9'; (try dsimp only); k_steps) | ((with_reducible show wpAny _ _ (call (Value.ref 193) _ _) _ _ _); k_dflt (refine' ap_walk ?gak1 ?gak2 ?gak3 ?gak4 ?gak5 ?gad ?gau ?gax ?_; (case gak1 => k_asm); (case gak2 => k_asm); (case gak3 => k_asm); (case gak4 => k_asm); (case gak5 => k_asm); (case gad => exact Nat.le_of_ble_eq_true rfl); (case gau => exact Nat.le_of_ble_eq_true rfl); (case gax => with_reducible assumption)); intro t9' h' tk' F' N'; (try dsimp only); (try k_fold); k_steps)))
                exact unrEnd1 (news := (RL, LCg.lst rs) :: (wl, listOf wvs.toArray wn) :: hdrO w bA bdx bl tb bvs bn ((s1.heap.objs.size + 1, oc1') :: ox)) (by k_asm) N3 (fun p hp => hp) hI5 ⟨trivial, tbo, by with_unfolding_all rfl, by with_unfolding_all rfl, by with_unfolding_all rfl, by with_unfolding_all rfl, rfl⟩
            case doneD =>
              rintro h3 tk3 m3 n3 ⟨tbo, hk2, hk3, hk4, hk5, rfl⟩ F3 N3
              rw [← fr_eq [(_, _), (_, _), (_, _), (_, _)] (List.forall_mem_cons.mpr ⟨hk2, List.forall_mem_cons.mpr ⟨hk3, List.forall_mem_cons.mpr ⟨hk4, List.forall_mem_cons.mpr ⟨hk5, List.forall_mem_nil _⟩⟩⟩⟩)] at F3
              dsimp only [kstB] at F3
              clear hk2 hk3 hk4 hk5
              unfold hdrO at N3
              (k_steps; repeat' (refine Hold.off ?_; first | ((with_reducible show wpAny _ _ (subscriptTail _ _ (Value.ref _) (Value.int _ _)) _ _ _); k_dflt (refine' PyProof.Rows.item_listL (News.isList (by k_asm) (by k_mem)) ?ilb ?ilc ?ild ?_ ?ile ?ilf; (case ilb => omega); (case ilc => omega); (case ild => with_reducible assumption); (case ile => with_unfolding_all rfl); (case ilf => intro _; with_unfolding_all rfl)); k_steps) | ((with_reducible show wpAny _ _ (binaryOp _ (Value.ref _) (Value.ref _)) _ _ _); k_dflt (refine' kmk_add_lit ?adF ?adN ?ada ?adb ?ade ?_ ?adz; (case adF => k_asm); (case adN => k_asm); (case ada => kmk_list); (case adb => kmk_list); (case ade => ((try dsimp only [List.cons_append, List.nil_append]); (try rfl))); (case adz => rw [sizeLine_eq]; simp only [List.length_cons, List.length_nil]; omega)); intro D' h' F' N' l1; (try k_lt l1); (try k_sweep); k_steps) | ((with_reducible show wpAny _ _ (call (Value.builtin "str.upper") [Value.str _ _]) _ _ _); refine call_upper (by assumption) ?_; (try rw [upS_one]); (try dsimp only); k_steps) | (lct_look; k_dflt (refine LCt.ListComp_T (F₀ := by k_asm) (by with_unfolding_all rfl) (by decide) (by rfl) (by decide) (by rfl) ?_); k_steps) | ((with_reducible show wpAny _ _ (call (Value.builtin "list.append") [Value.ref _, _]) _ _ _); (with_unfolding_all refine' append_K ?apF ?apN ?apU ?_ ?apz; (case apF => k_asm); (case apN => k_asm); (case apU => k_upd); (case apz => rw [sizeLine_eq]; simp only [List.size_toArray]; omega)); intro h' F' N'; (try k_sweep); k_steps) | ((with_reducible show wpAny _ _ (subscriptTail _ _ (Value.str (sL _) _) (Value.int _ _)) _ _ _); k_dflt (refine' sl_itemP ?lei ?leh ?_ ?lej ?lek; (case lei => simp); (case leh => simp); (case lej => with_unfolding_all rfl); (case lek => intro _; with_unfolding_all rfl)); intro t9'; (try simp only [List.getD_cons_zero, List.getD_cons_succ, Int.toNat_zero, Int.toNat_one]); k_steps) | ((with_reducible show wpAny _ _ (binaryOp Operator.Add (Value.str (sL _) _) (Value.str (sL _) _)) _ _ _); refine sL_add (by simp) ?_; intro t9' k9'; dsimp only [List.cons_append, List.nil_append]; k_steps) | ((with_reducible show wpAny _ _ (subscriptTail _ _ (Value.str _ _) (Value.int _ _)) _ _ _); k_dflt (refine' letter_item ?lei ?_ ?lej ?lek; (case lei => omega); (case lej => with_unfolding_all rfl); (case lek => intro _; with_unfolding_all rfl)); intro t9'; (try dsimp only); k_steps) | ((with_reducible show wpAny _ _ (call (Value.builtin "bytes.decode") [Value.bytes _ _]) _ _ _); refine ascii_decode (by with_reducible assumption) (by with_reducible assumption) (by with_reducible assumption) (by simp) ?_; intro t9' k9'; (try dsimp only); k_steps) | ((with_reducible show wpAny _ _ (call (Value.ref 193) _ _) _ _ _); k_dflt (refine' ap_walk ?gak1 ?gak2 ?gak3 ?gak4 ?gak5 ?gad ?gau ?gax ?_; (case gak1 => k_asm); (case gak2 => k_asm); (case gak3 => k_asm); (case gak4 => k_asm); (case gak5 => k_asm); (case gad => exact Nat.le_of_ble_eq_true rfl); (case gau => exact Nat.le_of_ble_eq_true rfl); (case gax => with_reducible assumption)); intro t9' h' tk' F' N'; (try dsimp only); (try k_fold); k_steps)))
              refine Hold.off ?_
              (with_reducible rename Fr _ _ _ _ => F9)
              (with_unfolding_all refine' For_turns F9 ?_; k_whole)
              (k_steps; repeat' (refine Hold.off ?_; first | ((with_reducible show wpAny _ _ (subscriptTail _ _ (Value.ref _) (Value.int _ _)) _ _ _); k_dflt (refine' PyProof.Rows.item_listL (News.isList (by k_asm) (by k_mem)) ?ilb ?ilc ?ild ?_ ?ile ?ilf; (case ilb => omega); (case ilc => omega); (case ild => with_reducible assumption); (case ile => with_unfolding_all rfl); (case ilf => intro _; with_unfolding_all rfl)); k_steps) | ((with_reducible show wpAny _ _ (binaryOp _ (Value.ref _) (Value.ref _)) _ _ _); k_dflt (refine' kmk_add_lit ?adF ?adN ?ada ?adb ?ade ?_ ?adz; (case adF => k_asm); (case adN => k_asm); (case ada => kmk_list); (case adb => kmk_list); (case ade => ((try dsimp only [List.cons_append, List.nil_append]); (try rfl))); (case adz => rw [sizeLine_eq]; simp only [List.length_cons, List.length_nil]; omega)); intro D' h' F' N' l1; (try k_lt l1); (try k_sweep); k_steps) | ((with_reducible show wpAny _ _ (call (Value.builtin "str.upper") [Value.str _ _]) _ _ _); refine call_upper (by assumption) ?_; (try rw [upS_one]); (try dsimp only); k_steps) | (lct_look; k_dflt (refine LCt.ListComp_T (F₀ := by k_asm) (by with_unfolding_all rfl) (by decide) (by rfl) (by decide) (by rfl) ?_); k_steps) | ((with_reducible show wpAny _ _ (call (Value.builtin "list.append") [Value.ref _, _]) _ _ _); (with_unfolding_all refine' append_K ?apF ?apN ?apU ?_ ?apz; (case apF => k_asm); (case apN => k_asm); (case apU => k_upd); (case apz => rw [sizeLine_eq]; simp only [List.size_toArray]; omega)); intro h' F' N'; (try k_sweep); k_steps) | ((with_reducible show wpAny _ _ (subscriptTail _ _ (Value.str (sL _) _) (Value.int _ _)) _ _ _); k_dflt (refine' sl_itemP ?lei ?leh ?_ ?lej ?lek; (case lei => simp); (case leh => simp); (case lej => with_unfolding_all rfl); (case lek => intro _; with_unfolding_all rfl)); intro t9'; (try simp only [List.getD_cons_zero, List.getD_cons_succ, Int.toNat_zero, Int.toNat_one]); k_steps) | ((with_reducible show wpAny _ _ (binaryOp Operator.Add (Value.str (sL _) _) (Value.str (sL _) _)) _ _ _); refine sL_add (by simp) ?_; intro t9' k9'; dsimp only [List.cons_append, List.nil_append]; k_steps) | ((with_reducible show wpAny _ _ (subscriptTail _ _ (Value.str _ _) (Value.int _ _)) _ _ _); k_dflt (refine' letter_item ?lei ?_ ?lej ?lek; (case lei => omega); (case lej => with_unfolding_all rfl); (case lek => intro _; with_unfolding_all rfl)); intro t9'; (try dsimp only); k_steps) | ((with_reducible show wpAny _ _ (call (Value.builtin "bytes.decode") [Value.bytes _ _]) _ _ _); refine ascii_decode (by with_reducible assumption) (by with_reducible assumption) (by with_reducible assumption) (by simp) ?_; intro t9' k9'; (try dsimp only); k_steps) | ((with_reducible show wpAny _ _ (call (Value.ref 193) _ _) _ _ _); k_dflt (refine' ap_walk ?gak1 ?gak2 ?gak3 ?gak4 ?gak5 ?gad ?gau ?gax ?_; (case gak1 => k_asm); (case gak2 => k_asm); (case gak3 => k_asm); (case gak4 => k_asm); (case gak5 => k_asm); (case gad => exact Nat.le_of_ble_eq_true rfl); (case gau => exact Nat.le_of_ble_eq_true rfl); (case gax => with_reducible assumption)); intro t9' h' tk' F' N'; (try dsimp only); (try k_fold); k_steps)))
              refine Hold.off ?_
              (with_reducible rename IsRange _ _ _ _ _ _ _ _ => hR3)
              (with_unfolding_all refine iter_rangeTurns (n := 6) (by rfl) hR3 (by decide) (by decide) (by k_asm) (cb_drop (news := (wl, listOf wvs.toArray wn) :: hdrO w bA bdx bl tb bvs bn ((s1.heap.objs.size + 1, oc1') :: ox)) (by k_asm) (by unfold hdrO; kcf_all)) ?_)
              intro I7 hI7
              refine itemsRest_blind (fun i m3 n3 => ∃ (tbo : Tok), m3 (Str.ofString "squares") = some (.ref D) ∧ m3 (Str.ofString "bound") = some (.int (2 + (w7.sum).fmod 3) tbo) ∧ m3 (Str.ofString "board") = some (.ref bA) ∧
                n3 = (wl, listOf wvs.toArray wn) :: hdrO w bA bdx bl tb bvs bn ((s1.heap.objs.size + 1, oc1') :: ox)) ?turnF ?doneF ?zF
              case zF => exact ⟨_, by with_unfolding_all rfl, by with_unfolding_all rfl, by with_unfolding_all rfl, rfl⟩
              case turnF =>
                rintro Q9 i a0 v3 h3 tk3 m3 n3 hx3 hv3 ⟨tbo, hk2, hk3, hk4, rfl⟩ F3
                obtain ⟨hi, rfl⟩ := rangeItems_get hx3
                obtain ⟨t9, rfl⟩ := hv3
                rw [← fr_eq [(_, _), (_, _), (_, _)] (List.forall_mem_cons.mpr ⟨hk2, List.forall_mem_cons.mpr ⟨hk3, List.forall_mem_cons.mpr ⟨hk4, List.forall_mem_nil _⟩⟩⟩)] at F3
                dsimp only [kstB] at F3
                clear hk2 hk3 hk4
                refine AllObj.cons fun oI hcI => AllObj.nil fun N3 => ?_
                unfold hdrO at N3
                dsimp only [List.cons_append, List.nil_append] at N3
                dsimp only
                (k_steps; repeat' (refine Hold.off ?_; first | ((with_reducible show wpAny _ _ (subscriptTail _ _ (Value.ref _) (Value.int _ _)) _ _ _); k_dflt (refine' PyProof.Rows.item_listL (News.isList (by k_asm) (by k_mem)) ?ilb ?ilc ?ild ?_ ?ile ?ilf; (case ilb => omega); (case ilc => omega); (case ild => with_reducible assumption); (case ile => with_unfolding_all rfl); (case ilf => intro _; with_unfolding_all rfl)); k_steps) | ((with_reducible show wpAny _ _ (binaryOp _ (Value.ref _) (Value.ref _)) _ _ _); k_dflt (refine' kmk_add_lit ?adF ?adN ?ada ?adb ?ade ?_ ?adz; (case adF => k_asm); (case adN => k_asm); (case ada => kmk_list); (case adb => kmk_list); (case ade => ((try dsimp only [List.cons_append, List.nil_append]); (try rfl))); (case adz => rw [sizeLine_eq]; simp only [List.length_cons, List.length_nil]; omega)); intro D' h' F' N' l1; (try k_lt l1); (try k_sweep); k_steps) | ((with_reducible show wpAny _ _ (call (Value.builtin "str.upper") [Value.str _ _]) _ _ _); refine call_upper (by assumption) ?_; (try rw [upS_one]); (try dsimp only); k_steps) | (lct_look; k_dflt (refine LCt.ListComp_T (F₀ := by k_asm) (by with_unfolding_all rfl) (by decide) (by rfl) (by decide) (by rfl) ?_); k_steps) | ((with_reducible show wpAny _ _ (call (Value.builtin "list.append") [Value.ref _, _]) _ _ _); (with_unfolding_all refine' append_K ?apF ?apN ?apU ?_ ?apz; (case apF => k_asm); (case apN => k_asm); (case apU => k_upd); (case apz => rw [sizeLine_eq]; simp only [List.size_toArray]; omega)); intro h' F' N'; (try k_sweep); k_steps) | ((with_reducible show wpAny _ _ (subscriptTail _ _ (Value.str (sL _) _) (Value.int _ _)) _ _ _); k_dflt (refine' sl_itemP ?lei ?leh ?_ ?lej ?lek; (case lei => simp); (case leh => simp); (case lej => with_unfolding_all rfl); (case lek => intro _; with_unfolding_all rfl)); intro t9'; (try simp only [List.getD_cons_zero, List.getD_cons_succ, Int.toNat_zero, Int.toNat_one]); k_steps) | ((with_reducible show wpAny _ _ (binaryOp Operator.Add (Value.str (sL _) _) (Value.str (sL _) _)) _ _ _); refine sL_add (by simp) ?_; intro t9' k9'; dsimp only [List.cons_append, List.nil_append]; k_steps) | ((with_reducible show wpAny _ _ (subscriptTail _ _ (Value.str _ _) (Value.int _ _)) _ _ _); k_dflt (refine' letter_item ?lei ?_ ?lej ?lek; (case lei => omega); (case lej => with_unfolding_all rfl); (case lek => intro _; with_unfolding_all rfl)); intro t9'; (try dsimp only); k_steps) | ((with_reducible show wpAny _ _ (call (Value.builtin "bytes.decode") [Value.bytes _ _]) _ _ _); refine ascii_decode (by with_reducible assumption) (by with_reducible assumption) (by with_reducible assumption) (by simp) ?_; intro t9' k9'; (try dsimp only); k_steps) | ((with_reducible show wpAny _ _ (call (Value.ref 193) _ _) _ _ _); k_dflt (refine' ap_walk ?gak1 ?gak2 ?gak3 ?gak4 ?gak5 ?gad ?gau ?gax ?_; (case gak1 => k_asm); (case gak2 => k_asm); (case gak3 => k_asm); (case gak4 => k_asm); (case gak5 => k_asm); (case gad => exact Nat.le_of_ble_eq_true rfl); (case gau => exact Nat.le_of_ble_eq_true rfl); (case gax => with_reducible assumption)); intro t9' h' tk' F' N'; (try dsimp only); (try k_fold); k_steps)))
                refine Hold.off ?_
                (with_reducible rename Fr _ _ _ _ => F9)
                (with_unfolding_all refine' For_turns F9 ?_; k_whole)
                (k_steps; repeat' (refine Hold.off ?_; first | ((with_reducible show wpAny _ _ (subscriptTail _ _ (Value.ref _) (Value.int _ _)) _ _ _); k_dflt (refine' PyProof.Rows.item_listL (News.isList (by k_asm) (by k_mem)) ?ilb ?ilc ?ild ?_ ?ile ?ilf; (case ilb => omega); (case ilc => omega); (case ild => with_reducible assumption); (case ile => with_unfolding_all rfl); (case ilf => intro _; with_unfolding_all rfl)); k_steps) | ((with_reducible show wpAny _ _ (binaryOp _ (Value.ref _) (Value.ref _)) _ _ _); k_dflt (refine' kmk_add_lit ?adF ?adN ?ada ?adb ?ade ?_ ?adz; (case adF => k_asm); (case adN => k_asm); (case ada => kmk_list); (case adb => kmk_list); (case ade => ((try dsimp only [List.cons_append, List.nil_append]); (try rfl))); (case adz => rw [sizeLine_eq]; simp only [List.length_cons, List.length_nil]; omega)); intro D' h' F' N' l1; (try k_lt l1); (try k_sweep); k_steps) | ((with_reducible show wpAny _ _ (call (Value.builtin "str.upper") [Value.str _ _]) _ _ _); refine call_upper (by assumption) ?_; (try rw [upS_one]); (try dsimp only); k_steps) | (lct_look; k_dflt (refine LCt.ListComp_T (F₀ := by k_asm) (by with_unfolding_all rfl) (by decide) (by rfl) (by decide) (by rfl) ?_); k_steps) | ((with_reducible show wpAny _ _ (call (Value.builtin "list.append") [Value.ref _, _]) _ _ _); (with_unfolding_all refine' append_K ?apF ?apN ?apU ?_ ?apz; (case apF => k_asm); (case apN => k_asm); (case apU => k_upd); (case apz => rw [sizeLine_eq]; simp only [List.size_toArray]; omega)); intro h' F' N'; (try k_sweep); k_steps) | ((with_reducible show wpAny _ _ (subscriptTail _ _ (Value.str (sL _) _) (Value.int _ _)) _ _ _); k_dflt (refine' sl_itemP ?lei ?leh ?_ ?lej ?lek; (case lei => simp); (case leh => simp); (case lej => with_unfolding_all rfl); (case lek => intro _; with_unfolding_all rfl)); intro t9'; (try simp only [List.getD_cons_zero, List.getD_cons_succ, Int.toNat_zero, Int.toNat_one]); k_steps) | ((with_reducible show wpAny _ _ (binaryOp Operator.Add (Value.str (sL _) _) (Value.str (sL _) _)) _ _ _); refine sL_add (by simp) ?_; intro t9' k9'; dsimp only [List.cons_append, List.nil_append]; k_steps) | ((with_reducible show wpAny _ _ (subscriptTail _ _ (Value.str _ _) (Value.int _ _)) _ _ _); k_dflt (refine' letter_item ?lei ?_ ?lej ?lek; (case lei => omega); (case lej => with_unfolding_all rfl); (case lek => intro _; with_unfolding_all rfl)); intro t9'; (try dsimp only); k_steps) | ((with_reducible show wpAny _ _ (call (Value.builtin "bytes.decode") [Value.bytes _ _]) _ _ _); refine ascii_decode (by with_reducible assumption) (by with_reducible assumption) (by with_reducible assumption) (by simp) ?_; intro t9' k9'; (try dsimp only); k_steps) | ((with_reducible show wpAny _ _ (call (Value.ref 193) _ _) _ _ _); k_dflt (refine' ap_walk ?gak1 ?gak2 ?gak3 ?gak4 ?gak5 ?gad ?gau ?gax ?_; (case gak1 => k_asm); (case gak2 => k_asm); (case gak3 => k_asm); (case gak4 => k_asm); (case gak5 => k_asm); (case gad => exact Nat.le_of_ble_eq_true rfl); (case gau => exact Nat.le_of_ble_eq_true rfl); (case gax => with_reducible assumption)); intro t9' h' tk' F' N'; (try dsimp only); (try k_fold); k_steps)))
                refine Hold.off ?_
                (with_reducible rename IsRange _ _ _ _ _ _ _ _ => hR4)
                (with_unfolding_all refine iter_rangeTurns (n := i) (by rfl) hR4 (by rw [Int.zero_add]; exact up_small (by omega)) (by rw [Int.zero_add]; exact up_size _) (by k_asm) (cb_drop (news := (I7, oI) :: (wl, listOf wvs.toArray wn) :: hdrO w bA bdx bl tb bvs bn ((s1.heap.objs.size + 1, oc1') :: ox)) (by k_asm) (by unfold hdrO; kcf_all)) ?_)
                intro I8 hI8
                refine itemsRest_blind (fun j m3 n3 => ∃ (tbo tit : Tok), m3 (Str.ofString "squares") = some (.ref D) ∧ m3 (Str.ofString "bound") = some (.int (2 + (w7.sum).fmod 3) tbo) ∧ m3 (Str.ofString "board") = some (.ref bA) ∧ m3 (Str.ofString "i") = some (.int (0 + (i : Int)) tit) ∧
                  n3 = (I7, oI) :: (wl, listOf wvs.toArray wn) :: hdrO w bA bdx bl tb bvs bn ((s1.heap.objs.size + 1, oc1') :: ox)) ?turnG ?doneG ?zG
                case zG => exact ⟨_, _, by with_unfolding_all rfl, by with_unfolding_all rfl, by with_unfolding_all rfl, by with_unfolding_all rfl, rfl⟩
                case turnG =>
                  rintro Q9 j a0 v3 h3 tk3 m3 n3 hx3 hv3 ⟨tbo, tit, hk2, hk3, hk4, hk6, rfl⟩ F3
                  obtain ⟨hj, rfl⟩ := rangeItems_get hx3
                  obtain ⟨t8, rfl⟩ := hv3
                  have hyl : ys.length = 6 := by rw [hTs2.length]; exact hts
                  have hyi : ys[((0 : Int) + (i : Int)).toNat]? = some (ys[i]'(by omega)) := by rw [show ((0 : Int) + (i : Int)).toNat = i by omega]; exact List.getElem?_eq_getElem _
                  have hyj : ys[((0 : Int) + (j : Int)).toNat]? = some (ys[j]'(by omega)) := by rw [show ((0 : Int) + (j : Int)).toNat = j by omega]; exact List.getElem?_eq_getElem _
                  obtain ⟨ai, xi, yi, zi, ti1, ti2, ti3, hei, hai, hti⟩ := hTs2.get (List.getElem?_eq_getElem (show i < ys.length by omega))
                  obtain ⟨aj, xj, yj, zj, tj1, tj2, tj3, hej, haj, htj⟩ := hTs2.get (List.getElem?_eq_getElem (show j < ys.length by omega))
                  rw [hei] at hyi
                  rw [hej] at hyj
                  have hoi : okT (xi, yi, zi) := hok _ (List.mem_of_getElem? hti)
                  have hoj : okT (xj, yj, zj) := hok _ (List.mem_of_getElem? htj)
                  obtain ⟨twi, hwi⟩ := hws.at (show (ts.map wordS)[i]? = some (wordS (xi, yi, zi)) by rw [List.getElem?_map, hti]; rfl)
                  obtain ⟨twj, hwj⟩ := hws.at (show (ts.map wordS)[j]? = some (wordS (xj, yj, zj)) by rw [List.getElem?_map, htj]; rfl)
                  have hwi2 : wvs[((0 : Int) + (i : Int)).toNat]? = some (.str (sL [65 + xi.toNat, 65 + yi.toNat]) twi) := by rw [show ((0 : Int) + (i : Int)).toNat = i by omega]; exact hwi
                  have hwj2 : wvs[((0 : Int) + (j : Int)).toNat]? = some (.str (sL [65 + xj.toNat, 65 + yj.toNat]) twj) := by rw [show ((0 : Int) + (j : Int)).toNat = j by omega]; exact hwj
                  have hlev := lev_word hoi hoj hbo
                  dsimp only at hlev
                  generalize hq : lev [65 + xi.toNat, 65 + yi.toNat] [65 + xj.toNat, 65 + yj.toNat] (2 + (w7.sum).fmod 3) = told at hlev
                  rw [← fr_eq [(_, _), (_, _), (_, _), (_, _)] (List.forall_mem_cons.mpr ⟨hk2, List.forall_mem_cons.mpr ⟨hk3, List.forall_mem_cons.mpr ⟨hk4, List.forall_mem_cons.mpr ⟨hk6, List.forall_mem_nil _⟩⟩⟩⟩)] at F3
                  dsimp only [kstB] at F3
                  clear hk2 hk3 hk4 hk6
                  refine AllObj.cons fun oJ hcJ => AllObj.nil fun N3 => ?_
                  unfold hdrO at N3
                  dsimp only [List.cons_append, List.nil_append] at N3
                  have N4 := news_more (x := (D, listOf ys.toArray kD)) N3 (by kpf_c)
                  have N5 := news_more (x := (ai, tripObj xi yi zi ti1 ti2 ti3)) N4 (by kpf_c)
                  have N6 := news_more (x := (aj, tripObj xj yj zj tj1 tj2 tj3)) N5 (by kpf_c)
                  clear N3 N4 N5
                  dsimp only
                  (k_steps; repeat' (refine Hold.off ?_; first | ((with_reducible show wpAny _ _ (subscriptTail _ _ (Value.ref _) (Value.int _ _)) _ _ _); k_dflt (refine' PyProof.Rows.item_listL (News.isList (by k_asm) (by k_mem)) ?ilb ?ilc ?ild ?_ ?ile ?ilf; (case ilb => omega); (case ilc => omega); (case ild => with_reducible assumption); (case ile => with_unfolding_all rfl); (case ilf => intro _; with_unfolding_all rfl)); k_steps) | ((with_reducible show wpAny _ _ (binaryOp _ (Value.ref _) (Value.ref _)) _ _ _); k_dflt (refine' kmk_add_lit ?adF ?adN ?ada ?adb ?ade ?_ ?adz; (case adF => k_asm); (case adN => k_asm); (case ada => kmk_list); (case adb => kmk_list); (case ade => ((try dsimp only [List.cons_append, List.nil_append]); (try rfl))); (case adz => rw [sizeLine_eq]; simp only [List.length_cons, List.length_nil]; omega)); intro D' h' F' N' l1; (try k_lt l1); (try k_sweep); k_steps) | ((with_reducible show wpAny _ _ (call (Value.builtin "str.upper") [Value.str _ _]) _ _ _); refine call_upper (by assumption) ?_; (try rw [upS_one]); (try dsimp only); k_steps) | (lct_look; k_dflt (refine LCt.ListComp_T (F₀ := by k_asm) (by with_unfolding_all rfl) (by decide) (by rfl) (by decide) (by rfl) ?_); k_steps) | ((with_reducible show wpAny _ _ (call (Value.builtin "list.append") [Value.ref _, _]) _ _ _); (with_unfolding_all refine' append_K ?apF ?apN ?apU ?_ ?apz; (case apF => k_asm); (case apN => k_asm); (case apU => k_upd); (case apz => rw [sizeLine_eq]; simp only [List.size_toArray]; omega)); intro h' F' N'; (try k_sweep); k_steps) | ((with_reducible show wpAny _ _ (subscriptTail _ _ (Value.str (sL _) _) (Value.int _ _)) _ _ _); k_dflt (refine' sl_itemP ?lei ?leh ?_ ?lej ?lek; (case lei => simp); (case leh => simp); (case lej => with_unfolding_all rfl); (case lek => intro _; with_unfolding_all rfl)); intro t9'; (try simp only [List.getD_cons_zero, List.getD_cons_succ, Int.toNat_zero, Int.toNat_one]); k_steps) | ((with_reducible show wpAny _ _ (binaryOp Operator.Add (Value.str (sL _) _) (Value.str (sL _) _)) _ _ _); refine sL_add (by simp) ?_; intro t9' k9'; dsimp only [List.cons_append, List.nil_append]; k_steps) | ((with_reducible show wpAny _ _ (subscriptTail _ _ (Value.str _ _) (Value.int _ _)) _ _ _); k_dflt (refine' letter_item ?lei ?_ ?lej ?lek; (case lei => omega); (case lej => with_unfolding_all rfl); (case lek => intro _; with_unfolding_all rfl)); intro t9'; (try dsimp only); k_steps) | ((with_reducible show wpAny _ _ (call (Value.builtin "bytes.decode") [Value.bytes _ _]) _ _ _); refine ascii_decode (by with_reducible assumption) (by with_reducible assumption) (by with_reducible assumption) (by simp) ?_; intro t9' k9'; (try dsimp only); k_steps) | ((with_reducible show wpAny _ _ (call (Value.ref 193) _ _) _ _ _); k_dflt (refine' ap_walk ?gak1 ?gak2 ?gak3 ?gak4 ?gak5 ?gad ?gau ?gax ?_; (case gak1 => k_asm); (case gak2 => k_asm); (case gak3 => k_asm); (case gak4 => k_asm); (case gak5 => k_asm); (case gad => exact Nat.le_of_ble_eq_true rfl); (case gau => exact Nat.le_of_ble_eq_true rfl); (case gax => with_reducible assumption)); intro t9' h' tk' F' N'; (try dsimp only); (try k_fold); k_steps)))
                  all_goals try exact bne_no (by with_reducible assumption)
                  refine Hold.off ?_
                  k_dflt (refine' lev_walk ?gak1 ?gak2 ?gak3 ?gak4 ?gak5 ?gad ?gau (word_okc hoi) (word_okc hoj) ?gal ?gam ?gan ?_; (case gak1 => k_asm); (case gak2 => k_asm); (case gak3 => k_asm); (case gak4 => k_asm); (case gak5 => k_asm); (case gad => exact Nat.le_of_ble_eq_true rfl); (case gau => exact Nat.le_of_ble_eq_true rfl); (case gal => simp); (case gam => simp); (case gan => omega))
                  intro t7 h7 tk7 F7 N7
                  rw [hq]
                  (try dsimp only)
                  (k_steps; repeat' (refine Hold.off ?_; first | ((with_reducible show wpAny _ _ (subscriptTail _ _ (Value.ref _) (Value.int _ _)) _ _ _); k_dflt (refine' PyProof.Rows.item_listL (News.isList (by k_asm) (by k_mem)) ?ilb ?ilc ?ild ?_ ?ile ?ilf; (case ilb => omega); (case ilc => omega); (case ild => with_reducible assumption); (case ile => with_unfolding_all rfl); (case ilf => intro _; with_unfolding_all rfl)); k_steps) | ((with_reducible show wpAny _ _ (binaryOp _ (Value.ref _) (Value.ref _)) _ _ _); k_dflt (refine' kmk_add_lit ?adF ?adN ?ada ?adb ?ade ?_ ?adz; (case adF => k_asm); (case adN => k_asm); (case ada => kmk_list); (case adb => kmk_list); (case ade => ((try dsimp only [List.cons_append, List.nil_append]); (try rfl))); (case adz => rw [sizeLine_eq]; simp only [List.length_cons, List.length_nil]; omega)); intro D' h' F' N' l1; (try k_lt l1); (try k_sweep); k_steps) | ((with_reducible show wpAny _ _ (call (Value.builtin "str.upper") [Value.str _ _]) _ _ _); refine call_upper (by assumption) ?_; (try rw [upS_one]); (try dsimp only); k_steps) | (lct_look; k_dflt (refine LCt.ListComp_T (F₀ := by k_asm) (by with_unfolding_all rfl) (by decide) (by rfl) (by decide) (by rfl) ?_); k_steps) | ((with_reducible show wpAny _ _ (call (Value.builtin "list.append") [Value.ref _, _]) _ _ _); (with_unfolding_all refine' append_K ?apF ?apN ?apU ?_ ?apz; (case apF => k_asm); (case apN => k_asm); (case apU => k_upd); (case apz => rw [sizeLine_eq]; simp only [List.size_toArray]; omega)); intro h' F' N'; (try k_sweep); k_steps) | ((with_reducible show wpAny _ _ (subscriptTail _ _ (Value.str (sL _) _) (Value.int _ _)) _ _ _); k_dflt (refine' sl_itemP ?lei ?leh ?_ ?lej ?lek; (case lei => simp); (case leh => simp); (case lej => with_unfolding_all rfl); (case lek => intro _; with_unfolding_all rfl)); intro t9'; (try simp only [List.getD_cons_zero, List.getD_cons_succ, Int.toNat_zero, Int.toNat_one]); k_steps) | ((with_reducible show wpAny _ _ (binaryOp Operator.Add (Value.str (sL _) _) (Value.str (sL _) _)) _ _ _); refine sL_add (by simp) ?_; intro t9' k9'; dsimp only [List.cons_append, List.nil_append]; k_steps) | ((with_reducible show wpAny _ _ (subscriptTail _ _ (Value.str _ _) (Value.int _ _)) _ _ _); k_dflt (refine' letter_item ?lei ?_ ?lej ?lek; (case lei => omega); (case lej => with_unfolding_all rfl); (case lek => intro _; with_unfolding_all rfl)); intro t9'; (try dsimp only); k_steps) | ((with_reducible show wpAny _ _ (call (Value.builtin "bytes.decode") [Value.bytes _ _]) _ _ _); refine ascii_decode (by with_reducible assumption) (by with_reducible assumption) (by with_reducible assumption) (by simp) ?_; intro t9' k9'; (try dsimp only); k_steps) | ((with_reducible show wpAny _ _ (call (Value.ref 193) _ _) _ _ _); k_dflt (refine' ap_walk ?gak1 ?gak2 ?gak3 ?gak4 ?gak5 ?gad ?gau ?gax ?_; (case gak1 => k_asm); (case gak2 => k_asm); (case gak3 => k_asm); (case gak4 => k_asm); (case gak5 => k_asm); (case gad => exact Nat.le_of_ble_eq_true rfl); (case gau => exact Nat.le_of_ble_eq_true rfl); (case gax => with_reducible assumption)); intro t9' h' tk' F' N'; (try dsimp only); (try k_fold); k_steps)))
                  all_goals try first | exact told_no1 hlev (by with_reducible assumption) (by with_reducible assumption) | exact told_no2 hlev (by with_reducible assumption) (by with_reducible assumption)
                  all_goals exact unrEnd1 (news := (I7, oI) :: (wl, listOf wvs.toArray wn) :: hdrO w bA bdx bl tb bvs bn ((s1.heap.objs.size + 1, oc1') :: ox)) (by k_asm) (by assumption) (by exact fun p hp => .tail _ (.tail _ (.tail _ hp))) hI8 ⟨trivial, tbo, tit, by with_unfolding_all rfl, by with_unfolding_all rfl, by with_unfolding_all rfl, by with_unfolding_all rfl, rfl⟩
                case doneG =>
                  rintro h3 tk3 m3 n3 ⟨tbo, tit, hk2, hk3, hk4, hk6, rfl⟩ F3 N3
                  rw [← fr_eq [(_, _), (_, _), (_, _), (_, _)] (List.forall_mem_cons.mpr ⟨hk2, List.forall_mem_cons.mpr ⟨hk3, List.forall_mem_cons.mpr ⟨hk4, List.forall_mem_cons.mpr ⟨hk6, List.forall_mem_nil _⟩⟩⟩⟩)] at F3
                  dsimp only [kstB] at F3
                  clear hk2 hk3 hk4 hk6
                  (k_steps; repeat' (refine Hold.off ?_; first | ((with_reducible show wpAny _ _ (subscriptTail _ _ (Value.ref _) (Value.int _ _)) _ _ _); k_dflt (refine' PyProof.Rows.item_listL (News.isList (by k_asm) (by k_mem)) ?ilb ?ilc ?ild ?_ ?ile ?ilf; (case ilb => omega); (case ilc => omega); (case ild => with_reducible assumption); (case ile => with_unfolding_all rfl); (case ilf => intro _; with_unfolding_all rfl)); k_steps) | ((with_reducible show wpAny _ _ (binaryOp _ (Value.ref _) (Value.ref _)) _ _ _); k_dflt (refine' kmk_add_lit ?adF ?adN ?ada ?adb ?ade ?_ ?adz; (case adF => k_asm); (case adN => k_asm); (case ada => kmk_list); (case adb => kmk_list); (case ade => ((try dsimp only [List.cons_append, List.nil_append]); (try rfl))); (case adz => rw [sizeLine_eq]; simp only [List.length_cons, List.length_nil]; omega)); intro D' h' F' N' l1; (try k_lt l1); (try k_sweep); k_steps) | ((with_reducible show wpAny _ _ (call (Value.builtin "str.upper") [Value.str _ _]) _ _ _); refine call_upper (by assumption) ?_; (try rw [upS_one]); (try dsimp only); k_steps) | (lct_look; k_dflt (refine LCt.ListComp_T (F₀ := by k_asm) (by with_unfolding_all rfl) (by decide) (by rfl) (by decide) (by rfl) ?_); k_steps) | ((with_reducible show wpAny _ _ (call (Value.builtin "list.append") [Value.ref _, _]) _ _ _); (with_unfolding_all refine' append_K ?apF ?apN ?apU ?_ ?apz; (case apF => k_asm); (case apN => k_asm); (case apU => k_upd); (case apz => rw [sizeLine_eq]; simp only [List.size_toArray]; omega)); intro h' F' N'; (try k_sweep); k_steps) | ((with_reducible show wpAny _ _ (subscriptTail _ _ (Value.str (sL _) _) (Value.int _ _)) _ _ _); k_dflt (refine' sl_itemP ?lei ?leh ?_ ?lej ?lek; (case lei => simp); (case leh => simp); (case lej => with_unfolding_all rfl); (case lek => intro _; with_unfolding_all rfl)); intro t9'; (try simp only [List.getD_cons_zero, List.getD_cons_succ, Int.toNat_zero, Int.toNat_one]); k_steps) | ((with_reducible show wpAny _ _ (binaryOp Operator.Add (Value.str (sL _) _) (Value.str (sL _) _)) _ _ _); refine sL_add (by simp) ?_; intro t9' k9'; dsimp only [List.cons_append, List.nil_append]; k_steps) | ((with_reducible show wpAny _ _ (subscriptTail _ _ (Value.str _ _) (Value.int _ _)) _ _ _); k_dflt (refine' letter_item ?lei ?_ ?lej ?lek; (case lei => omega); (case lej => with_unfolding_all rfl); (case lek => intro _; with_unfolding_all rfl)); intro t9'; (try dsimp only); k_steps) | ((with_reducible show wpAny _ _ (call (Value.builtin "bytes.decode") [Value.bytes _ _]) _ _ _); refine ascii_decode (by with_reducible assumption) (by with_reducible assumption) (by with_reducible assumption) (by simp) ?_; intro t9' k9'; (try dsimp only); k_steps) | ((with_reducible show wpAny _ _ (call (Value.ref 193) _ _) _ _ _); k_dflt (refine' ap_walk ?gak1 ?gak2 ?gak3 ?gak4 ?gak5 ?gad ?gau ?gax ?_; (case gak1 => k_asm); (case gak2 => k_asm); (case gak3 => k_asm); (case gak4 => k_asm); (case gak5 => k_asm); (case gad => exact Nat.le_of_ble_eq_true rfl); (case gau => exact Nat.le_of_ble_eq_true rfl); (case gax => with_reducible assumption)); intro t9' h' tk' F' N'; (try dsimp only); (try k_fold); k_steps)))
                  exact unrEnd1 (news := (wl, listOf wvs.toArray wn) :: hdrO w bA bdx bl tb bvs bn ((s1.heap.objs.size + 1, oc1') :: ox)) (by k_asm) N3 (fun p hp => hp) hI7 ⟨trivial, tbo, by with_unfolding_all rfl, by with_unfolding_all rfl, by with_unfolding_all rfl, rfl⟩
              case doneF =>
                rintro h3 tk3 m3 n3 ⟨tbo, hk2, hk3, hk4, rfl⟩ F3 N3
                rw [← fr_eq [(_, _), (_, _), (_, _)] (List.forall_mem_cons.mpr ⟨hk2, List.forall_mem_cons.mpr ⟨hk3, List.forall_mem_cons.mpr ⟨hk4, List.forall_mem_nil _⟩⟩⟩)] at F3
                dsimp only [kstB] at F3
                clear hk2 hk3 hk4
                unfold hdrO at N3
                (k_steps; repeat' (refine Hold.off ?_; first | ((with_reducible show wpAny _ _ (subscriptTail _ _ (Value.ref _) (Value.int _ _)) _ _ _); k_dflt (refine' PyProof.Rows.item_listL (News.isList (by k_asm) (by k_mem)) ?ilb ?ilc ?ild ?_ ?ile ?ilf; (case ilb => omega); (case ilc => omega); (case ild => with_reducible assumption); (case ile => with_unfolding_all rfl); (case ilf => intro _; with_unfolding_all rfl)); k_steps) | ((with_reducible show wpAny _ _ (binaryOp _ (Value.ref _) (Value.ref _)) _ _ _); k_dflt (refine' kmk_add_lit ?adF ?adN ?ada ?adb ?ade ?_ ?adz; (case adF => k_asm); (case adN => k_asm); (case ada => kmk_list); (case adb => kmk_list); (case ade => ((try dsimp only [List.cons_append, List.nil_append]); (try rfl))); (case adz => rw [sizeLine_eq]; simp only [List.length_cons, List.length_nil]; omega)); intro D' h' F' N' l1; (try k_lt l1); (try k_sweep); k_steps) | ((with_reducible show wpAny _ _ (call (Value.builtin "str.upper") [Value.str _ _]) _ _ _); refine call_upper (by assumption) ?_; (try rw [upS_one]); (try dsimp only); k_steps) | (lct_look; k_dflt (refine LCt.ListComp_T (F₀ := by k_asm) (by with_unfolding_all rfl) (by decide) (by rfl) (by decide) (by rfl) ?_); k_steps) | ((with_reducible show wpAny _ _ (call (Value.builtin "list.append") [Value.ref _, _]) _ _ _); (with_unfolding_all refine' append_K ?apF ?apN ?apU ?_ ?apz; (case apF => k_asm); (case apN => k_asm); (case apU => k_upd); (case apz => rw [sizeLine_eq]; simp only [List.size_toArray]; omega)); intro h' F' N'; (try k_sweep); k_steps) | ((with_reducible show wpAny _ _ (subscriptTail _ _ (Value.str (sL _) _) (Value.int _ _)) _ _ _); k_dflt (refine' sl_itemP ?lei ?leh ?_ ?lej ?lek; (case lei => simp); (case leh => simp); (case lej => with_unfolding_all rfl); (case lek => intro _; with_unfolding_all rfl)); intro t9'; (try simp only [List.getD_cons_zero, List.getD_cons_succ, Int.toNat_zero, Int.toNat_one]); k_steps) | ((with_reducible show wpAny _ _ (binaryOp Operator.Add (Value.str (sL _) _) (Value.str (sL _) _)) _ _ _); refine sL_add (by simp) ?_; intro t9' k9'; dsimp only [List.cons_append, List.nil_append]; k_steps) | ((with_reducible show wpAny _ _ (subscriptTail _ _ (Value.str _ _) (Value.int _ _)) _ _ _); k_dflt (refine' letter_item ?lei ?_ ?lej ?lek; (case lei => omega); (case lej => with_unfolding_all rfl); (case lek => intro _; with_unfolding_all rfl)); intro t9'; (try dsimp only); k_steps) | ((with_reducible show wpAny _ _ (call (Value.builtin "bytes.decode") [Value.bytes _ _]) _ _ _); refine ascii_decode (by with_reducible assumption) (by with_reducible assumption) (by with_reducible assumption) (by simp) ?_; intro t9' k9'; (try dsimp only); k_steps) | ((with_reducible show wpAny _ _ (call (Value.ref 193) _ _) _ _ _); k_dflt (refine' ap_walk ?gak1 ?gak2 ?gak3 ?gak4 ?gak5 ?gad ?gau ?gax ?_; (case gak1 => k_asm); (case gak2 => k_asm); (case gak3 => k_asm); (case gak4 => k_asm); (case gak5 => k_asm); (case gad => exact Nat.le_of_ble_eq_true rfl); (case gau => exact Nat.le_of_ble_eq_true rfl); (case gax => with_reducible assumption)); intro t9' h' tk' F' N'; (try dsimp only); (try k_fold); k_steps)))
                refine Hold.off ?_
                (with_reducible rename News _ _ _ _ => N4)
                k_dflt (refine' items_walk ?gak1 ?gak2 ?gak3 (cb_drop (news := hdrO w bA bdx bl tb bvs bn ((wl, listOf wvs.toArray wn) :: (s1.heap.objs.size + 1, oc1') :: ox)) N4 (by unfold hdrO; kcf_all)) ?gak5 ?gad ?gau ?gal ?_; (case gak1 => k_asm); (case gak2 => k_asm); (case gak3 => k_asm); (case gak5 => k_asm); (case gad => exact Nat.le_of_ble_eq_true rfl); (case gau => exact Nat.le_of_ble_eq_true rfl); (case gal => omega))
                clear N4
                intro DJ kJ h7 tk7 F7 N7
                (try dsimp only)
                (k_steps; repeat' (refine Hold.off ?_; first | ((with_reducible show wpAny _ _ (subscriptTail _ _ (Value.ref _) (Value.int _ _)) _ _ _); k_dflt (refine' PyProof.Rows.item_listL (News.isList (by k_asm) (by k_mem)) ?ilb ?ilc ?ild ?_ ?ile ?ilf; (case ilb => omega); (case ilc => omega); (case ild => with_reducible assumption); (case ile => with_unfolding_all rfl); (case ilf => intro _; with_unfolding_all rfl)); k_steps) | ((with_reducible show wpAny _ _ (binaryOp _ (Value.ref _) (Value.ref _)) _ _ _); k_dflt (refine' kmk_add_lit ?adF ?adN ?ada ?adb ?ade ?_ ?adz; (case adF => k_asm); (case adN => k_asm); (case ada => kmk_list); (case adb => kmk_list); (case ade => ((try dsimp only [List.cons_append, List.nil_append]); (try rfl))); (case adz => rw [sizeLine_eq]; simp only [List.length_cons, List.length_nil]; omega)); intro D' h' F' N' l1; (try k_lt l1); (try k_sweep); k_steps) | ((with_reducible show wpAny _ _ (call (Value.builtin "str.upper") [Value.str _ _]) _ _ _); refine call_upper (by assumption) ?_; (try rw [upS_one]); (try dsimp only); k_steps) | (lct_look; k_dflt (refine LCt.ListComp_T (F₀ := by k_asm) (by with_unfolding_all rfl) (by decide) (by rfl) (by decide) (by rfl) ?_); k_steps) | ((with_reducible show wpAny _ _ (call (Value.builtin "list.append") [Value.ref _, _]) _ _ _); (with_unfolding_all refine' append_K ?apF ?apN ?apU ?_ ?apz; (case apF => k_asm); (case apN => k_asm); (case apU => k_upd); (case apz => rw [sizeLine_eq]; simp only [List.size_toArray]; omega)); intro h' F' N'; (try k_sweep); k_steps) | ((with_reducible show wpAny _ _ (subscriptTail _ _ (Value.str (sL _) _) (Value.int _ _)) _ _ _); k_dflt (refine' sl_itemP ?lei ?leh ?_ ?lej ?lek; (case lei => simp); (case leh => simp); (case lej => with_unfolding_all rfl); (case lek => intro _; with_unfolding_all rfl)); intro t9'; (try simp only [List.getD_cons_zero, List.getD_cons_succ, Int.toNat_zero, Int.toNat_one]); k_steps) | ((with_reducible show wpAny _ _ (binaryOp Operator.Add (Value.str (sL _) _) (Value.str (sL _) _)) _ _ _); refine sL_add (by simp) ?_; intro t9' k9'; dsimp only [List.cons_append, List.nil_append]; k_steps) | ((with_reducible show wpAny _ _ (subscriptTail _ _ (Value.str _ _) (Value.int _ _)) _ _ _); k_dflt (refine' letter_item ?lei ?_ ?lej ?lek; (case lei => omega); (case lej => with_unfolding_all rfl); (case lek => intro _; with_unfolding_all rfl)); intro t9'; (try dsimp only); k_steps) | ((with_reducible show wpAny _ _ (call (Value.builtin "bytes.decode") [Value.bytes _ _]) _ _ _); refine ascii_decode (by with_reducible assumption) (by with_reducible assumption) (by with_reducible assumption) (by simp) ?_; intro t9' k9'; (try dsimp only); k_steps) | ((with_reducible show wpAny _ _ (call (Value.ref 193) _ _) _ _ _); k_dflt (refine' ap_walk ?gak1 ?gak2 ?gak3 ?gak4 ?gak5 ?gad ?gau ?gax ?_; (case gak1 => k_asm); (case gak2 => k_asm); (case gak3 => k_asm); (case gak4 => k_asm); (case gak5 => k_asm); (case gad => exact Nat.le_of_ble_eq_true rfl); (case gau => exact Nat.le_of_ble_eq_true rfl); (case gax => with_reducible assumption)); intro t9' h' tk' F' N'; (try dsimp only); (try k_fold); k_steps)))
                refine Hold.off ?_
                k_dflt (refine LCg.ListComp_U (F₀ := by k_asm) (by rfl) (by decide) (by rfl) (by decide) (by rfl) ?_)
                (k_steps; repeat' (refine Hold.off ?_; first | ((with_reducible show wpAny _ _ (subscriptTail _ _ (Value.ref _) (Value.int _ _)) _ _ _); k_dflt (refine' PyProof.Rows.item_listL (News.isList (by k_asm) (by k_mem)) ?ilb ?ilc ?ild ?_ ?ile ?ilf; (case ilb => omega); (case ilc => omega); (case ild => with_reducible assumption); (case ile => with_unfolding_all rfl); (case ilf => intro _; with_unfolding_all rfl)); k_steps) | ((with_reducible show wpAny _ _ (binaryOp _ (Value.ref _) (Value.ref _)) _ _ _); k_dflt (refine' kmk_add_lit ?adF ?adN ?ada ?adb ?ade ?_ ?adz; (case adF => k_asm); (case adN => k_asm); (case ada => kmk_list); (case adb => kmk_list); (case ade => ((try dsimp only [List.cons_append, List.nil_append]); (try rfl))); (case adz => rw [sizeLine_eq]; simp only [List.length_cons, List.length_nil]; omega)); intro D' h' F' N' l1; (try k_lt l1); (try k_sweep); k_steps) | ((with_reducible show wpAny _ _ (call (Value.builtin "str.upper") [Value.str _ _]) _ _ _); refine call_upper (by assumption) ?_; (try rw [upS_one]); (try dsimp only); k_steps) | (lct_look; k_dflt (refine LCt.ListComp_T (F₀ := by k_asm) (by with_unfolding_all rfl) (by decide) (by rfl) (by decide) (by rfl) ?_); k_steps) | ((with_reducible show wpAny _ _ (call (Value.builtin "list.append") [Value.ref _, _]) _ _ _); (with_unfolding_all refine' append_K ?apF ?apN ?apU ?_ ?apz; (case apF => k_asm); (case apN => k_asm); (case apU => k_upd); (case apz => rw [sizeLine_eq]; simp only [List.size_toArray]; omega)); intro h' F' N'; (try k_sweep); k_steps) | ((with_reducible show wpAny _ _ (subscriptTail _ _ (Value.str (sL _) _) (Value.int _ _)) _ _ _); k_dflt (refine' sl_itemP ?lei ?leh ?_ ?lej ?lek; (case lei => simp); (case leh => simp); (case lej => with_unfolding_all rfl); (case lek => intro _; with_unfolding_all rfl)); intro t9'; (try simp only [List.getD_cons_zero, List.getD_cons_succ, Int.toNat_zero, Int.toNat_one]); k_steps) | ((with_reducible show wpAny _ _ (binaryOp Operator.Add (Value.str (sL _) _) (Value.str (sL _) _)) _ _ _); refine sL_add (by simp) ?_; intro t9' k9'; dsimp only [List.cons_append, List.nil_append]; k_steps) | ((with_reducible show wpAny _ _ (subscriptTail _ _ (Value.str _ _) (Value.int _ _)) _ _ _); k_dflt (refine' letter_item ?lei ?_ ?lej ?lek; (case lei => omega); (case lej => with_unfolding_all rfl); (case lek => intro _; with_unfolding_all rfl)); intro t9'; (try dsimp only); k_steps) | ((with_reducible show wpAny _ _ (call (Value.builtin "bytes.decode") [Value.bytes _ _]) _ _ _); refine ascii_decode (by with_reducible assumption) (by with_reducible assumption) (by with_reducible assumption) (by simp) ?_; intro t9' k9'; (try dsimp only); k_steps) | ((with_reducible show wpAny _ _ (call (Value.ref 193) _ _) _ _ _); k_dflt (refine' ap_walk ?gak1 ?gak2 ?gak3 ?gak4 ?gak5 ?gad ?gau ?gax ?_; (case gak1 => k_asm); (case gak2 => k_asm); (case gak3 => k_asm); (case gak4 => k_asm); (case gak5 => k_asm); (case gad => exact Nat.le_of_ble_eq_true rfl); (case gau => exact Nat.le_of_ble_eq_true rfl); (case gax => with_reducible assumption)); intro t9' h' tk' F' N'; (try dsimp only); (try k_fold); k_steps)))
                refine LCg.CompSrc.ledger (by rfl) (by k_asm) (by k_asm) (by k_mem) (by rw [sizeLine_eq]; simp only [List.size_toArray]; omega) ?_
                intro g9
                refine restU_of (J := fun i ys own => (∀ p ∈ own, p.2.cls = .type "tuple") ∧ PairsIn own ys ((ts.map pairS).take i)) ?fin5 ?turn5 _ _ _ [] (Nat.zero_add _) ⟨(fun _ h => nomatch h), .nil⟩
                case turn5 =>
                  rintro i v ys2 own9 I4 oI4 C oC D2 m₂ h tk E' hi hv ⟨hJ1, hJ2⟩ hC' hx' F' N' off' ne'
                  obtain ⟨y9, t9b, rfl, hy9⟩ := hws.item i v (by simpa using hv)
                  rw [List.getElem?_map] at hy9
                  obtain ⟨t, ht, rfl⟩ := Option.map_eq_some_iff.mp hy9
                  have hx2 : m₂ (Str.ofString "word") = some (Value.str (sL [65 + t.1.toNat, 65 + t.2.1.toNat]) t9b) := hx'
                  clear hx'
                  (k_steps; repeat' (refine Hold.off ?_; first | ((with_reducible show wpAny _ _ (subscriptTail _ _ (Value.ref _) (Value.int _ _)) _ _ _); k_dflt (refine' PyProof.Rows.item_listL (News.isList (by k_asm) (by k_mem)) ?ilb ?ilc ?ild ?_ ?ile ?ilf; (case ilb => omega); (case ilc => omega); (case ild => with_reducible assumption); (case ile => with_unfolding_all rfl); (case ilf => intro _; with_unfolding_all rfl)); k_steps) | ((with_reducible show wpAny _ _ (binaryOp _ (Value.ref _) (Value.ref _)) _ _ _); k_dflt (refine' kmk_add_lit ?adF ?adN ?ada ?adb ?ade ?_ ?adz; (case adF => k_asm); (case adN => k_asm); (case ada => kmk_list); (case adb => kmk_list); (case ade => ((try dsimp only [List.cons_append, List.nil_append]); (try rfl))); (case adz => rw [sizeLine_eq]; simp only [List.length_cons, List.length_nil]; omega)); intro D' h' F' N' l1; (try k_lt l1); (try k_sweep); k_steps) | ((with_reducible show wpAny _ _ (call (Value.builtin "str.upper") [Value.str _ _]) _ _ _); refine call_upper (by assumption) ?_; (try rw [upS_one]); (try dsimp only); k_steps) | (lct_look; k_dflt (refine LCt.ListComp_T (F₀ := by k_asm) (by with_unfolding_all rfl) (by decide) (by rfl) (by decide) (by rfl) ?_); k_steps) | ((with_reducible show wpAny _ _ (call (Value.builtin "list.append") [Value.ref _, _]) _ _ _); (with_unfolding_all refine' append_K ?apF ?apN ?apU ?_ ?apz; (case apF => k_asm); (case apN => k_asm); (case apU => k_upd); (case apz => rw [sizeLine_eq]; simp only [List.size_toArray]; omega)); intro h' F' N'; (try k_sweep); k_steps) | ((with_reducible show wpAny _ _ (subscriptTail _ _ (Value.str (sL _) _) (Value.int _ _)) _ _ _); k_dflt (refine' sl_itemP ?lei ?leh ?_ ?lej ?lek; (case lei => simp); (case leh => simp); (case lej => with_unfolding_all rfl); (case lek => intro _; with_unfolding_all rfl)); intro t9'; (try simp only [List.getD_cons_zero, List.getD_cons_succ, Int.toNat_zero, Int.toNat_one]); k_steps) | ((with_reducible show wpAny _ _ (binaryOp Operator.Add (Value.str (sL _) _) (Value.str (sL _) _)) _ _ _); refine sL_add (by simp) ?_; intro t9' k9'; dsimp only [List.cons_append, List.nil_append]; k_steps) | ((with_reducible show wpAny _ _ (subscriptTail _ _ (Value.str _ _) (Value.int _ _)) _ _ _); k_dflt (refine' letter_item ?lei ?_ ?lej ?lek; (case lei => omega); (case lej => with_unfolding_all rfl); (case lek => intro _; with_unfolding_all rfl)); intro t9'; (try dsimp only); k_steps) | ((with_reducible show wpAny _ _ (call (Value.builtin "bytes.decode") [Value.bytes _ _]) _ _ _); refine ascii_decode (by with_reducible assumption) (by with_reducible assumption) (by with_reducible assumption) (by simp) ?_; intro t9' k9'; (try dsimp only); k_steps) | ((with_reducible show wpAny _ _ (call (Value.ref 193) _ _) _ _ _); k_dflt (refine' ap_walk ?gak1 ?gak2 ?gak3 ?gak4 ?gak5 ?gad ?gau ?gax ?_; (case gak1 => k_asm); (case gak2 => k_asm); (case gak3 => k_asm); (case gak4 => k_asm); (case gak5 => k_asm); (case gad => exact Nat.le_of_ble_eq_true rfl); (case gau => exact Nat.le_of_ble_eq_true rfl); (case gax => with_reducible assumption)); intro t9' h' tk' F' N'; (try dsimp only); (try k_fold); k_steps)))
                  (rename _ ∧ _ ∧ _ ∧ AllLt _ (own9 ++ _) => l9)
                  refine compEnd_pair (kx := sL [65 + t.1.toNat]) (vx := sL [65 + t.2.1.toNat]) (by k_asm) (by assumption) l9 off' (.inr ⟨listOf wvs.toArray wn, List.mem_append_right _ (.tail _ (.tail _ (.tail _ (.tail _ (.head _))))), rfl, _, rfl⟩) ⟨List.forall_mem_cons.mpr ⟨rfl, hJ1⟩, ?_⟩
                  rw [take_next (show (ts.map pairS)[i]? = some (pairS t) by rw [List.getElem?_map, ht]; rfl)]
                  exact (hJ2.mono (fun p hp => List.mem_cons_of_mem _ hp)).snoc (.head _)
                case fin5 =>
                  rintro zs own9 ⟨hJ1, hJ2⟩
                  rw [show (ts.map pairS).take wvs.toArray.size = ts.map pairS from List.take_of_length_le (by rw [List.length_map]; simp only [List.size_toArray]; omega)] at hJ2
                  (k_steps; repeat' (refine Hold.off ?_; first | ((with_reducible show wpAny _ _ (subscriptTail _ _ (Value.ref _) (Value.int _ _)) _ _ _); k_dflt (refine' PyProof.Rows.item_listL (News.isList (by k_asm) (by k_mem)) ?ilb ?ilc ?ild ?_ ?ile ?ilf; (case ilb => omega); (case ilc => omega); (case ild => with_reducible assumption); (case ile => with_unfolding_all rfl); (case ilf => intro _; with_unfolding_all rfl)); k_steps) | ((with_reducible show wpAny _ _ (binaryOp _ (Value.ref _) (Value.ref _)) _ _ _); k_dflt (refine' kmk_add_lit ?adF ?adN ?ada ?adb ?ade ?_ ?adz; (case adF => k_asm); (case adN => k_asm); (case ada => kmk_list); (case adb => kmk_list); (case ade => ((try dsimp only [List.cons_append, List.nil_append]); (try rfl))); (case adz => rw [sizeLine_eq]; simp only [List.length_cons, List.length_nil]; omega)); intro D' h' F' N' l1; (try k_lt l1); (try k_sweep); k_steps) | ((with_reducible show wpAny _ _ (call (Value.builtin "str.upper") [Value.str _ _]) _ _ _); refine call_upper (by assumption) ?_; (try rw [upS_one]); (try dsimp only); k_steps) | (lct_look; k_dflt (refine LCt.ListComp_T (F₀ := by k_asm) (by with_unfolding_all rfl) (by decide) (by rfl) (by decide) (by rfl) ?_); k_steps) | ((with_reducible show wpAny _ _ (call (Value.builtin "list.append") [Value.ref _, _]) _ _ _); (with_unfolding_all refine' append_K ?apF ?apN ?apU ?_ ?apz; (case apF => k_asm); (case apN => k_asm); (case apU => k_upd); (case apz => rw [sizeLine_eq]; simp only [List.size_toArray]; omega)); intro h' F' N'; (try k_sweep); k_steps) | ((with_reducible show wpAny _ _ (subscriptTail _ _ (Value.str (sL _) _) (Value.int _ _)) _ _ _); k_dflt (refine' sl_itemP ?lei ?leh ?_ ?lej ?lek; (case lei => simp); (case leh => simp); (case lej => with_unfolding_all rfl); (case lek => intro _; with_unfolding_all rfl)); intro t9'; (try simp only [List.getD_cons_zero, List.getD_cons_succ, Int.toNat_zero, Int.toNat_one]); k_steps) | ((with_reducible show wpAny _ _ (binaryOp Operator.Add (Value.str (sL _) _) (Value.str (sL _) _)) _ _ _); refine sL_add (by simp) ?_; intro t9' k9'; dsimp only [List.cons_append, List.nil_append]; k_steps) | ((with_reducible show wpAny _ _ (subscriptTail _ _ (Value.str _ _) (Value.int _ _)) _ _ _); k_dflt (refine' letter_item ?lei ?_ ?lej ?lek; (case lei => omega); (case lej => with_unfolding_all rfl); (case lek => intro _; with_unfolding_all rfl)); intro t9'; (try dsimp only); k_steps) | ((with_reducible show wpAny _ _ (call (Value.builtin "bytes.decode") [Value.bytes _ _]) _ _ _); refine ascii_decode (by with_reducible assumption) (by with_reducible assumption) (by with_reducible assumption) (by simp) ?_; intro t9' k9'; (try dsimp only); k_steps) | ((with_reducible show wpAny _ _ (call (Value.ref 193) _ _) _ _ _); k_dflt (refine' ap_walk ?gak1 ?gak2 ?gak3 ?gak4 ?gak5 ?gad ?gau ?gax ?_; (case gak1 => k_asm); (case gak2 => k_asm); (case gak3 => k_asm); (case gak4 => k_asm); (case gak5 => k_asm); (case gad => exact Nat.le_of_ble_eq_true rfl); (case gau => exact Nat.le_of_ble_eq_true rfl); (case gax => with_reducible assumption)); intro t9' h' tk' F' N'; (try dsimp only); (try k_fold); k_steps)))
                  refine Hold.off ?_
                  refine pairs_eq (ps := ts.map pairS) (by k_asm) (.tail _ (List.mem_append_right _ (.head _))) (.head _) (hps2.mono (fun p hp => .tail _ (List.mem_append_right _ (.tail _ (.tail _ (.tail _ (.tail _ (.tail _ (.tail _ hp)))))))))  (hJ2.mono (fun p hp => .tail _ (List.mem_append_left _ hp))) (fun p hp => ?_) (by exact Nat.le_of_ble_eq_true rfl) ?_
                  · obtain ⟨t, ht, rfl⟩ := List.mem_map.mp hp
                    have h9 := hok t ht
                    exact ⟨strOk_one (by have := h9.1; have := h9.2.1; omega), strOk_one (by have := h9.2.2.1; have := h9.2.2.2.1; omega)⟩
                  · (k_steps; repeat' (refine Hold.off ?_; first | ((with_reducible show wpAny _ _ (subscriptTail _ _ (Value.ref _) (Value.int _ _)) _ _ _); k_dflt (refine' PyProof.Rows.item_listL (News.isList (by k_asm) (by k_mem)) ?ilb ?ilc ?ild ?_ ?ile ?ilf; (case ilb => omega); (case ilc => omega); (case ild => with_reducible assumption); (case ile => with_unfolding_all rfl); (case ilf => intro _; with_unfolding_all rfl)); k_steps) | ((with_reducible show wpAny _ _ (binaryOp _ (Value.ref _) (Value.ref _)) _ _ _); k_dflt (refine' kmk_add_lit ?adF ?adN ?ada ?adb ?ade ?_ ?adz; (case adF => k_asm); (case adN => k_asm); (case ada => kmk_list); (case adb => kmk_list); (case ade => ((try dsimp only [List.cons_append, List.nil_append]); (try rfl))); (case adz => rw [sizeLine_eq]; simp only [List.length_cons, List.length_nil]; omega)); intro D' h' F' N' l1; (try k_lt l1); (try k_sweep); k_steps) | ((with_reducible show wpAny _ _ (call (Value.builtin "str.upper") [Value.str _ _]) _ _ _); refine call_upper (by assumption) ?_; (try rw [upS_one]); (try dsimp only); k_steps) | (lct_look; k_dflt (refine LCt.ListComp_T (F₀ := by k_asm) (by with_unfolding_all rfl) (by decide) (by rfl) (by decide) (by rfl) ?_); k_steps) | ((with_reducible show wpAny _ _ (call (Value.builtin "list.append") [Value.ref _, _]) _ _ _); (with_unfolding_all refine' append_K ?apF ?apN ?apU ?_ ?apz; (case apF => k_asm); (case apN => k_asm); (case apU => k_upd); (case apz => rw [sizeLine_eq]; simp only [List.size_toArray]; omega)); intro h' F' N'; (try k_sweep); k_steps) | ((with_reducible show wpAny _ _ (subscriptTail _ _ (Value.str (sL _) _) (Value.int _ _)) _ _ _); k_dflt (refine' sl_itemP ?lei ?leh ?_ ?lej ?lek; (case lei => simp); (case leh => simp); (case lej => with_unfolding_all rfl); (case lek => intro _; with_unfolding_all rfl)); intro t9'; (try simp only [List.getD_cons_zero, List.getD_cons_succ, Int.toNat_zero, Int.toNat_one]); k_steps) | ((with_reducible show wpAny _ _ (binaryOp Operator.Add (Value.str (sL _) _) (Value.str (sL _) _)) _ _ _); refine sL_add (by simp) ?_; intro t9' k9'; dsimp only [List.cons_append, List.nil_append]; k_steps) | ((with_reducible show wpAny _ _ (subscriptTail _ _ (Value.str _ _) (Value.int _ _)) _ _ _); k_dflt (refine' letter_item ?lei ?_ ?lej ?lek; (case lei => omega); (case lej => with_unfolding_all rfl); (case lek => intro _; with_unfolding_all rfl)); intro t9'; (try dsimp only); k_steps) | ((with_reducible show wpAny _ _ (call (Value.builtin "bytes.decode") [Value.bytes _ _]) _ _ _); refine ascii_decode (by with_reducible assumption) (by with_reducible assumption) (by with_reducible assumption) (by simp) ?_; intro t9' k9'; (try dsimp only); k_steps) | ((with_reducible show wpAny _ _ (call (Value.ref 193) _ _) _ _ _); k_dflt (refine' ap_walk ?gak1 ?gak2 ?gak3 ?gak4 ?gak5 ?gad ?gau ?gax ?_; (case gak1 => k_asm); (case gak2 => k_asm); (case gak3 => k_asm); (case gak4 => k_asm); (case gak5 => k_asm); (case gad => exact Nat.le_of_ble_eq_true rfl); (case gau => exact Nat.le_of_ble_eq_true rfl); (case gax => with_reducible assumption)); intro t9' h' tk' F' N'; (try dsimp only); (try k_fold); k_steps)))
  )
end Mine
end
end
theorem PySem.Challenge.cw_sw0068_01_holds : PySem.Challenge.rw_sw0068_01.Holds := by
  exact Mine.law_walk
