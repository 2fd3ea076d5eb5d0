import PyProof.Rows.All
import Wide.All
import OpenK.AllK
import Wide.FinOn
import PySem.Challenge.RW_pg0026_01
set_option Elab.async false
section -- Hd
open PySem PySem.W PyProof.Rows
namespace Mine
set_option maxRecDepth 100000 in
set_option maxHeartbeats 8000000 in
open_top hd for PySem.Challenge.rw_pg0026_01
end Mine
end
section -- Base
open PySem PySem.W PyProof.Rows
namespace Mine
noncomputable abbrev KK (w : World) : Frag := Mine.hd.heap_39 w.params
noncomputable abbrev PG : Program := PySem.Challenge.rw_pg0026_01.row.prog
noncomputable abbrev VW : Program := Mine.hd.view_39
noncomputable abbrev LO : List Str := looseW Mine.hd.view_39 []
end Mine
end
section -- StrL
open PySem PySem.W PyProof.Rows PyProof
namespace Mine
/-- a text's code points -/
abbrev tl (x : Str) : List Nat := x.cps.toList
theorem tl_ext {x y : Str} (h : tl x = tl y) : x = y := by
  cases x; cases y; simp only [tl] at h; congr 1; exact Array.toList_inj.mp h
theorem tl_len (x : Str) : (tl x).length = x.length := by simp [tl, Str.length]
theorem tl_mk (l : List Nat) : tl ⟨l.toArray⟩ = l := by simp [tl]
theorem tl_append (x y : Str) : tl (x ++ y) = tl x ++ tl y := by
  show (x.cps ++ y.cps).toList = _
  simp [tl]
theorem tl_item {x : Str} {i : Int} (h0 : 0 ≤ i) (h1 : i < x.length) : tl (Txt.item x i) = [(tl x).getD i.toNat 0] := by
  have h2 : i.toNat < x.cps.size := by simp only [Str.length] at h1; omega
  have hs : seqIndex? i x.length = some i.toNat := by
    unfold seqIndex?
    simp only [show ¬ i < 0 by omega, if_false]
    simp [h0, h1]
  simp [tl, Txt.item, Txt.charAt, hs, h2]
theorem slice_to {x : Str} {j : Int} (h0 : 0 ≤ j) : tl (Txt.slice x none (some j)) = (tl x).take j.toNat := by
  by_cases h : j ≤ x.length
  · have := beq_iff_eq.mp (slice_closes_toL (x := x) h0 h)
    rw [this, tl_mk]; simp [tl]
  · rw [slice_to_beyond (by omega)]
    have := beq_iff_eq.mp (slice_closes_toL (x := x) (j := x.length) (by omega) (by omega))
    rw [this, tl_mk]
    have hl := tl_len x
    simp only [tl] at hl ⊢
    rw [List.take_of_length_le (by simp only [List.length_drop]; omega), List.take_of_length_le (by omega)]; simp
theorem slice_from {x : Str} {i : Int} (h0 : 0 ≤ i) : tl (Txt.slice x (some i) none) = (tl x).drop i.toNat := by
  by_cases h : i ≤ x.length
  · have := beq_iff_eq.mp (slice_closes_fromL (x := x) h0 h rfl)
    rw [this, tl_mk]
    have hl := tl_len x
    simp only [tl] at hl ⊢
    rw [List.take_of_length_le (by simp only [List.length_drop]; omega)]
  · rw [slice_from_beyond (by omega)]
    have hl := tl_len x
    simp only [tl] at hl ⊢
    rw [List.drop_of_length_le (by omega)]
theorem slice_ss {x : Str} {i j : Int} (h0 : 0 ≤ i) (h1 : i ≤ j) : tl (Txt.slice x (some i) (some j)) = ((tl x).drop i.toNat).take (j - i).toNat := by
  have key : ∀ {a b : Int}, 0 ≤ a → a ≤ b → b ≤ x.length → tl (Txt.slice x (some a) (some b)) = ((tl x).drop a.toNat).take (b - a).toNat := by
    intro a b ha hab hb
    have := beq_iff_eq.mp (slice_closesL (x := x) ha hab hb)
    rw [this, tl_mk]
  have hl := tl_len x
  have idx : Txt.slice x (some i) (some j) = Txt.slice x (some (min i x.length)) (some (min j x.length)) := by
    show StrLaws.sliceText x (some i) (some j) = StrLaws.sliceText x _ _
    have : Builtin.Str.strSliceIndices (some i) (some j) 1 x.length = Builtin.Str.strSliceIndices (some (min i x.length)) (some (min j x.length)) 1 x.length := by
      have a1 : ¬ i < 0 := by omega
      have a2 : ¬ j < 0 := by omega
      have a3 : ¬ min i (x.length : Int) < 0 := by omega
      have a4 : ¬ min j (x.length : Int) < 0 := by omega
      simp only [Builtin.Str.strSliceIndices, a1, a2, a3, a4, if_false]
      congr 1 <;> simp <;> omega
    unfold StrLaws.sliceText
    rw [this]
  rw [idx, key (by omega) (by omega) (by omega)]
  by_cases hi : i ≤ x.length
  · rw [show min i (x.length : Int) = i by omega]
    by_cases hj : j ≤ x.length
    · rw [show min j (x.length : Int) = j by omega]
    · rw [List.take_of_length_le (by simp only [List.length_drop]; omega), List.take_of_length_le (by simp only [List.length_drop]; omega)]
  · rw [List.drop_of_length_le (by omega), List.drop_of_length_le (by omega)]; simp
/-- what parse257 reads behind the opening, over code points -/
def parseL : List Nat → List Nat
  | [] => []
  | [c] => if c = 34 then [] else [c]
  | c :: c' :: r => if c = 34 then (if c' = 34 then 34 :: parseL r else []) else c :: parseL (c' :: r)
theorem parseL_ne {c : Nat} {r : List Nat} (h : c ≠ 34) : parseL (c :: r) = c :: parseL r := by
  cases r <;> simp [parseL, h]
theorem parseL_qq (r : List Nat) : parseL (34 :: 34 :: r) = 34 :: parseL r := by simp [parseL]
theorem parseL_qe {c : Nat} {r : List Nat} (h : c ≠ 34) : parseL (34 :: c :: r) = [] := by simp [parseL, h]
theorem parseL_q : parseL [34] = [] := by simp [parseL]
def parseF (x : Str) : Str :=
  if (Txt.slice x (some 3) (some 5) != Str.ofString " \"") then Str.ofString "" else ⟨(parseL ((tl x).drop 5)).toArray⟩
theorem quote_tl : tl (Str.ofString "\"") = [34] := by decide +kernel
theorem drop_cons {x : Str} {i : Int} (h0 : 0 ≤ i) (h1 : i < x.length) : (tl x).drop i.toNat = (tl x).getD i.toNat 0 :: (tl x).drop (i + 1).toNat := by
  have hl := tl_len x
  have h2 : i.toNat < (tl x).length := by omega
  rw [List.drop_eq_getElem_cons h2, show (i + 1).toNat = i.toNat + 1 by omega]
  rw [List.getD_eq_getElem?_getD, List.getElem?_eq_getElem h2]; rfl
theorem item_eq {x : Str} {i : Int} (h0 : 0 ≤ i) (h1 : i < x.length) (e : (Txt.item x i == Str.ofString "\"") = true) : (tl x).getD i.toNat 0 = 34 := by
  have := congrArg tl (beq_iff_eq.mp e)
  rw [tl_item h0 h1, quote_tl] at this
  simpa using this
theorem item_ne {x : Str} {i : Int} (h0 : 0 ≤ i) (h1 : i < x.length) (e : (Txt.item x i == Str.ofString "\"") = false) : (tl x).getD i.toNat 0 ≠ 34 := by
  intro h
  have : Txt.item x i = Str.ofString "\"" := tl_ext (by rw [tl_item h0 h1, quote_tl, h])
  rw [this] at e
  simp at e
end Mine
end
section -- EStr
open PySem PySem.W PyProof.Rows PyProof PySem.Calls PySem.Spec
set_option maxRecDepth 100000
namespace Mine
section
variable {prog : Program} {w : World} {A : Around} {E : Value → Shared → Prop} {s : Shared} {K : Frag} {x C t0 : Addr} {oe ot : Obj} {ws : Array Value} {nt : Nat}
open Builtin in
theorem bexcStr_own {M : Model} {m : Str} {u : Tok} {Q : Fin → Shared → Prop} (ho : s.heap.get? x = some oe) (hd : oe.data = .fields ws) (h0 : ws[0]? = some (.ref t0))
    (hto : s.heap.get? t0 = some ot) (htd : ot.data = .seq [Value.str m u].toArray nt) (hq : Q (.done (.ret (.str m u))) s) :
    wpAny M A (Builtin.«BaseException.__str__» ⟨[.ref x], []⟩) Q E s := by
  have hargs : ∀ {Q' : Value × List Value → Shared → Prop}, Q' (.ref t0, [Value.str m u]) s → wpAny M A (Builtin.BaseException.bexcArgs (.ref x)) Q' E s := by
    intro Q' hq'
    unfold Builtin.BaseException.bexcArgs
    exact wpAny_bind (wpAny_field ho hd h0 (wpAny_bind (wpAny_seqItems hto htd (wpAny_pure hq'))))
  unfold Builtin.«BaseException.__str__»
  repeat (first | with_reducible refine hargs ?_ | wp_step)
  exact hq
theorem bexc_str_bind (self : Value) : bindSpecial (.builtin "BaseException.__str__") self = pure (.builtin "BaseException.__str__", [self]) :=
  PySem.F.excStr_Exception.str.bind self
open Builtin Builtin.Str in
/-- str of an exception of an own class with one text as its argument -/
theorem estr_call {m : Str} {u : Tok} {Q : Value → Shared → Prop} (hu : A.in1.in1.units < cLine) (X : K.In s.heap) (ho : s.heap.get? x = some oe) (hc : oe.cls = .ref C) (hd : oe.data = .fields ws) (h0 : ws[0]? = some (.ref t0))
    (hto : s.heap.get? t0 = some ot) (htd : ot.data = .seq [Value.str m u].toArray nt)
    (hs : findIn K (.ref C) "__str__" = some (some (.builtin "BaseException.__str__"))) (hm : mroIn K C (.type "BaseException") = some true)
    (hq : Q (.str m u) s) : wpAny (model prog w) A (call (.type "str") [.ref x]) Q E s := by
  have hT : ∀ {M : Model}, Looks M s.heap (typeOf (.ref x)) (.ref C) := hc ▸ (Looks.ld ho).andThen .now
  have hcall : ∀ {A' : Around} {Q' : Value → Shared → Prop}, Q' (.str m u) s → wpAny (model prog w) A' (call (.builtin "BaseException.__str__") [.ref x]) Q' E s := by
    intro A' Q' hq'
    refine wpAny_call (codeAny_call_builtin PySem.F.excStr_Exception.str.plain PySem.F.entry_bexc_str (check_slot (i := "BaseException.__str__") (owner := "BaseException") (n := "__str__") (by decide +kernel) (by decide +kernel) (hT.andThen (looks_mroIn X hm)) (PySem.F.args_bexc_str _) ?_))
    exact bexcStr_own ho hd h0 hto htd hq'
  refine callType_codes (T := "str") (Bi := Builtin.«object.__init__») (Q₁ := fun r s₁ => ∃ y u, r = .str y u ∧ Q r s₁) PySem.F.called_str (PySem.F.typeCall_str_1 _) PySem.F.entry_object_init ?_ ?_
  · refine codeAny_of_tree ?_
    show wpAny _ A.in1.in1 (do checkBuiltinCall "str.__new__" ⟨[.type "str", .ref x], []⟩; again (.builtin "str.__new__" ⟨[.type "str", .ref x], []⟩)) _ _ s
    refine wpAny_bind (wpAny_of_eq (PySem.F.newCall_str_1 _) (wpAny_pure ⟨plainId_quiet (by decide +kernel) _, codeAny_builtin PySem.F.entry_str_new ?_⟩))
    rw [Around.under_plainId (by decide +kernel) _]
    rw [str_new_tree]
    refine wpAny_bind (wpAny_pure ?_)
    refine wpAny_bind (wpAny_of_eq isSubtype_str_str ?_)
    have key : wpAny (model prog w) A.in1.in1 (PySem.Builtin.Str.strOf (.ref x)) (fun r s₁ => ∃ y u, r = .str y u ∧ Q r s₁) E s := by
      unfold PySem.Builtin.Str.strOf
      rw [show isExactStr (.ref x) = false from rfl]
      refine wpAny_bind (m := cRoomFor _ _) (wpAny_cRoomFor hu ?_)
      refine wpAny_bind (m := callSpecial? (.ref x) (Str.ofString "__str__")) ?_
      refine wpAny_bind (wpAny_bind (hT.here ((looks_findIn X hs).here (wpAny_holding (wpAny_bind ((Looks.of_pure (bexc_str_bind _)).here (wpAny_bind (hcall (wpAny_pure ?_)))))))))
      exact wpAny_pure ⟨_, _, rfl, hq⟩
    exact wpAny_bind (wpAny_mono key (fun r s₁ hr => wpAny_pure hr) fun _ _ y => y)
  · rintro obj s₁ ⟨y, u, rfl, hq⟩
    exact ⟨typeIs_str _ _ _, PySem.F.args_object_init_2 _ _, object_init_meets PySem.F.called_str.init.lookup PySem.F.called_str.made (by decide) prog w A.in1 _ s₁ ⟨typeIs_str _ _ _, rfl, hq⟩⟩
end
theorem estr_got {prog : Program} {w : World} {A : Around} {E : Value → Shared → Prop} {h₀ : Heap} {L : Addr} {news : List (Addr × Obj)} {s : Shared} {K : Frag} {x C t0 : Addr} {m : Str} {u : Tok} {Q : Value → Shared → Prop}
    (X : K.In s.heap) (N : News h₀ L s.heap news) (G : Got news x t0 (.ref C) [.str m u]) (hu : A.in1.in1.units < cLine) (hs : findIn K (.ref C) "__str__" = some (some (.builtin "BaseException.__str__"))) (hm : mroIn K C (.type "BaseException") = some true)
    (hq : Q (.str m u) s) : wpAny (model prog w) A (call (.type "str") [.ref x]) Q E s := by
  obtain ⟨oe, ot, ws, nt, h1, h2, hc, hd, h0, htc, htd⟩ := G
  exact estr_call hu X (N.get h1) hc hd h0 (N.get h2) htd hs hm hq
end Mine
end
section -- Cm0
open PySem PySem.W PyProof.Rows PyProof
namespace Mine
abbrev pairObj (k : Int) (t : Tok) (y : Str) (u : Tok) : Obj := { cls := Value.type "tuple", data := Data.seq #[Value.int k t, Value.str y u] }
theorem off_of_lt {news : List (Addr × Obj)} {i : Addr} (h : ∀ p ∈ news, p.1 < i) : ∀ p ∈ news, p.1 ≠ i := fun p hp => Nat.ne_of_lt (h p hp)
theorem off_allLt {i : Addr} {news : List (Addr × Obj)} (h : AllLt i news) : ∀ p ∈ news, p.1 ≠ i := by
  induction news with
  | nil => intro p hp; cases hp
  | cons q r ih =>
    intro p hp
    rcases List.mem_cons.mp hp with e | hp
    · rw [e]; exact Nat.ne_of_lt h.1
    · exact ih h.2 p hp
theorem pair_ret {h₀ h' : Heap} {L r : Addr} {m : Str → Option Value} {news rest : List (Addr × Obj)} {s : Shared} {Q : Value → Shared → Prop} {p : Int × Str} {k' : Int} {y' : Str} {t u : Tok} {tk : Nat}
    (hret : ∀ (r : Addr) (t u : Tok) (h' : Heap) (tk' : Nat), Fr h₀ L h' m → News h₀ L h' ((r, pairObj p.1 t p.2 u) :: news) → Q (.ref r) { s with heap := h', toks := tk' })
    (e : p = (k', y')) (F : Fr h₀ L h' m) (N : News h₀ L h' ((r, pairObj k' t y' u) :: rest)) (sub : ∀ p ∈ news, p ∈ rest) : Q (.ref r) { s with heap := h', toks := tk } := by
  subst e
  exact hret r t u h' tk F fun q hq => N q ((List.mem_cons.mp hq).elim (fun e => e ▸ .head _) fun h => .tail _ (sub q h))
end Mine
end
section -- P1
open PySem PySem.W PyProof.Rows PyProof
namespace Mine
def PInv (x d : Str) (i : Int) : Prop := tl d ++ parseL ((tl x).drop i.toNat) = parseL ((tl x).drop 5)
theorem pinv_start (x : Str) : 5 ≤ (5 : Int) ∧ (Str.ofString "").length ≤ (5 : Int).toNat ∧ PInv x (Str.ofString "") 5 := by
  refine ⟨by decide, by decide, ?_⟩
  show tl (Str.ofString "") ++ _ = _
  rw [show tl (Str.ofString "") = [] by decide]; rfl
theorem pinv_one {x d : Str} {i : Int} (h5 : 5 ≤ i) (hd : d.length ≤ i.toNat) (hp : PInv x d i) (h1 : i < x.length) (e : (Txt.item x i == Str.ofString "\"") = false) :
    5 ≤ i + 1 ∧ (d ++ Txt.item x i).length ≤ (i + 1).toNat ∧ PInv x (d ++ Txt.item x i) (i + 1) := by
  have h0 : 0 ≤ i := by omega
  have hc := item_ne h0 h1 e
  have hl1 := tl_len (d ++ Txt.item x i)
  rw [tl_append, tl_item h0 h1, List.length_append, tl_len d] at hl1
  simp only [List.length_singleton] at hl1
  refine ⟨by omega, by omega, ?_⟩
  unfold PInv at *
  rw [drop_cons h0 h1, parseL_ne hc] at hp
  rw [tl_append, tl_item h0 h1, List.append_assoc]
  exact hp
theorem pinv_two {x d : Str} {i : Int} (h5 : 5 ≤ i) (hd : d.length ≤ i.toNat) (hp : PInv x d i) (h1 : i < x.length) (e : (Txt.item x i == Str.ofString "\"") = true) (h2 : i + 1 < x.length) (e2 : (Txt.item x (i + 1) == Str.ofString "\"") = true) :
    5 ≤ i + 1 + 1 ∧ (d ++ Txt.item x i).length ≤ (i + 1 + 1).toNat ∧ PInv x (d ++ Txt.item x i) (i + 1 + 1) := by
  have h0 : 0 ≤ i := by omega
  have hc := item_eq h0 h1 e
  have hc2 := item_eq (by omega) h2 e2
  have hl1 := tl_len (d ++ Txt.item x i)
  rw [tl_append, tl_item h0 h1, List.length_append, tl_len d] at hl1
  simp only [List.length_singleton] at hl1
  refine ⟨by omega, by omega, ?_⟩
  unfold PInv at *
  rw [drop_cons h0 h1, drop_cons (by omega) h2, hc, hc2, parseL_qq] at hp
  rw [tl_append, tl_item h0 h1, List.append_assoc, hc]
  exact hp
theorem pinv_break1 {x d : Str} {i : Int} (h5 : 5 ≤ i) (hp : PInv x d i) (h1 : i < x.length) (e : (Txt.item x i == Str.ofString "\"") = true) (h2 : (x.length : Int) ≤ i + 1) : tl d = parseL ((tl x).drop 5) := by
  have h0 : 0 ≤ i := by omega
  have hl := tl_len x
  have hc := item_eq h0 h1 e
  unfold PInv at hp
  rw [drop_cons h0 h1, hc, List.drop_of_length_le (by omega), parseL_q, List.append_nil] at hp
  exact hp
theorem pinv_break2 {x d : Str} {i : Int} (h5 : 5 ≤ i) (hp : PInv x d i) (h1 : i < x.length) (e : (Txt.item x i == Str.ofString "\"") = true) (h2 : i + 1 < x.length) (e2 : (Txt.item x (i + 1) == Str.ofString "\"") = false) : tl d = parseL ((tl x).drop 5) := by
  have h0 : 0 ≤ i := by omega
  have hc := item_eq h0 h1 e
  have hc2 := item_ne (by omega) h2 e2
  unfold PInv at hp
  rw [drop_cons h0 h1, drop_cons (by omega) h2, hc, parseL_qe hc2, List.append_nil] at hp
  exact hp
theorem pinv_done {x d : Str} {i : Int} (h5 : 5 ≤ i) (hp : PInv x d i) (h1 : (x.length : Int) ≤ i) : tl d = parseL ((tl x).drop 5) := by
  have hl := tl_len x
  unfold PInv at hp
  rw [List.drop_of_length_le (by omega)] at hp
  simpa [parseL] using hp
theorem parseF_empty {x : Str} (h : (Txt.slice x (some 3) (some 5) != Str.ofString " \"") = true) : Str.ofString "" = parseF x := by
  unfold parseF; rw [if_pos h]
theorem parseF_is {x d : Str} (h : (Txt.slice x (some 3) (some 5) != Str.ofString " \"") = false) (hd : tl d = parseL ((tl x).drop 5)) : d = parseF x := by
  unfold parseF; rw [if_neg (by rw [h]; decide)]
  exact tl_ext (hd.trans (tl_mk _).symm)
theorem bne_f {a b : Str} (h : (a != b) = false) : a = b := by simpa using h
theorem bne_t {a b : Str} (h : (a != b) = true) : a ≠ b := by simpa using h
theorem bne_beq {a b : Str} (h : (a != b) = false) : (a == b) = true := by simpa using h
theorem bne_beq' {a b : Str} (h : (a != b) = true) : (a == b) = false := by simpa using h
set_option maxRecDepth 100000 in
set_option maxHeartbeats 8000000 in
theorem parse_call (w : World) (mean : ExcName → Option Value) (mg mb : Str → Option Value) (x : Str) (t1 : Tok) (news : List (Addr × Obj)) (hx : x.length ≤ 1000) :
   ∀ (dp un : Nat) (gd : Option (List Code)) (cn : Str) (cs : Scope) (a : Addr) (ccd : Value) (outer : List Env) (A₀ : Around) (base h₀ : Heap) (L : Addr) (m : Str → Option Value) (s : Shared) (Q E : Value → Shared → Prop),
    Below A₀ base outer h₀ → Fr h₀ L s.heap m → (KK w).In h₀ → News h₀ L s.heap news → Top VW LO mean mg mb h₀ → cs.kind = .function → KtsDicts (outer.filterMap (·.frame)) h₀ →
    dp + 10 < recursionLimit → un + 20 < cLine →
    (∀ (t : Tok) (h' : Heap) (tk' : Nat), Fr h₀ L h' m → News h₀ L h' news → Txt.slice x none (some 3) = Str.ofString "257" → Q (.str (parseF x) t) { s with heap := h', toks := tk' }) →
    (∀ g h' tk' e t', Fr h₀ L g m → RaisedS base g (envOf cn cs L a ccd :: outer) e (.ref 37) t' [.str x t1] news h' → g.UpToSlots h' → Txt.slice x none (some 3) ≠ Str.ofString "257" → E (.ref e) { s with heap := h', toks := tk' }) →
    wpAny (model PG w) ({ handled := none, depth := dp, frames := some (envOf cn cs L a ccd :: outer), guards := gd, units := un } : Around) (call (.ref 46) [.str x t1]) Q E s := by
  dsimp only [PG, KK, VW, LO]
  k_with "exec While Compare cons nil" => k_while (fun _ d i => 5 ≤ i ∧ d.length ≤ i.toNat ∧ PInv x d i) (fun _ _ i => x.length - i.toNat) "dirname" "i"
  k_with "state" => first | exact pinv_start x | exact pinv_one (by assumption) (by assumption) (by assumption) (by assumption) (by assumption) | exact pinv_two (by assumption) (by assumption) (by assumption) (by assumption) (by assumption) (by omega) (bne_beq (by assumption))
  w_strict (
  k_fill
  intro dp un gd cn cs a ccd outer A₀ base h₀ L m s Q E hB hF hK hN hT hk hD hdp hun hret hexc
  refine wpAny_call ?_
  k_dflt cell_enter
  k_steps
  all_goals first
    | exact hexc _ _ _ _ _ (by assumption) (by assumption) (by assumption) (bne_t (by assumption))
    | exact cb_retS (fun t h' tk' F N => hret t h' tk' F N (bne_f (by assumption))) (parseF_empty (by assumption)) (by assumption) (by assumption)
    | exact cb_retS (fun t h' tk' F N => hret t h' tk' F N (bne_f (by assumption))) (parseF_is (by assumption) (pinv_break1 (by assumption) (by assumption) (by assumption) (by assumption) (by assumption))) (by assumption) (by assumption)
    | exact cb_retS (fun t h' tk' F N => hret t h' tk' F N (bne_f (by assumption))) (parseF_is (by assumption) (pinv_break2 (by assumption) (by assumption) (by assumption) (by assumption) (by omega) (bne_beq' (by assumption)))) (by assumption) (by assumption)
    | exact cb_retS (fun t h' tk' F N => hret t h' tk' F N (bne_f (by assumption))) (parseF_is (by assumption) (pinv_done (by assumption) (by assumption) (by omega))) (by assumption) (by assumption)
    | trace_state)
end Mine
end
section -- R1
open PySem PySem.W PyProof.Rows PyProof
namespace Mine
abbrev is257 (x : Str) : Prop := Txt.slice x none (some 3) = Str.ofString "257"
def read1 (x : Str) : Int × Str := if is257 x then (1, parseF x) else (0, x)
def read2 (x : Str) : Int × Str := if is257 x then (if is257 (parseF x) then (2, parseF (parseF x)) else (1, parseF x)) else (0, x)
theorem parseL_len : ∀ l : List Nat, (parseL l).length ≤ l.length
  | [] => by simp [parseL]
  | [c] => by simp only [parseL]; split <;> simp
  | c :: c' :: r => by
    have h1 := parseL_len r
    have h2 := parseL_len (c' :: r)
    simp only [parseL]
    split
    · split <;> simp <;> omega
    · simp at h2 ⊢; omega
theorem parseF_len (x : Str) : (parseF x).length ≤ x.length := by
  unfold parseF
  split
  · exact Nat.le_trans (Nat.le_of_eq (show (Str.ofString "").length = 0 by decide)) (Nat.zero_le _)
  · have := parseL_len ((tl x).drop 5)
    rw [← tl_len, tl_mk, ← tl_len x]
    simp only [List.length_drop] at this ⊢
    omega
theorem read1_t {x : Str} (h : Txt.slice x none (some 3) = Str.ofString "257") : read1 x = (1, parseF x) := if_pos h
theorem read1_f {x : Str} (h : Txt.slice x none (some 3) ≠ Str.ofString "257") : read1 x = (0, x) := if_neg h
theorem read2_tt {x : Str} (h : Txt.slice x none (some 3) = Str.ofString "257") (h2 : Txt.slice (parseF x) none (some 3) = Str.ofString "257") : read2 x = (2, parseF (parseF x)) := (if_pos h).trans (if_pos h2)
theorem read2_tf {x : Str} (h : Txt.slice x none (some 3) = Str.ofString "257") (h2 : Txt.slice (parseF x) none (some 3) ≠ Str.ofString "257") : read2 x = (1, parseF x) := (if_pos h).trans (if_neg h2)
theorem read2_f {x : Str} (h : Txt.slice x none (some 3) ≠ Str.ofString "257") : read2 x = (0, x) := if_neg h
local macro_rules | `(tactic| walk_at "call ref") => `(tactic| (k_here; (with_reducible show wpAny _ _ (call (Value.ref 46) [Value.str _ _]) _ _ _); k_dflt (refine' parse_call _ _ _ _ _ _ _ ?hx _ _ _ _ _ _ _ _ _ _ _ _ _ _ _ _ ?k1 ?k2 ?k3 ?k4 ?k5 ?k6 ?k7 ?k8 ?k9 ?_ ?_; (case k1 => k_asm); (case k2 => k_asm); (case k3 => k_asm); (case k4 => k_asm); (case k5 => k_asm); (case k6 => exact rfl); (case k7 => assumption); (case k8 => ktr_room); (case k9 => ktr_units); (case hx => first | omega | exact Nat.le_trans (parseF_len _) (by omega))); (intro t9 h9 tk9 F9 N9 e9); (try dsimp only); (try k_fold); rotate_left; (intro g9 h9 tk9 x9 t9 F9 R9 U9 e9); (try dsimp only); (try k_fold); rotate_left))
local macro_rules | `(tactic| walk_at "call type:str") => `(tactic| (k_here; (with_reducible show wpAny _ _ (call (Value.type "str") [Value.ref _]) _ _ _); k_dflt (refine' estr_got ?X ?N ?G ?U ?hs ?hm ?_; (case G => assumption); (case X => k_in); (case N => assumption); (case U => ktr_units); (case hs => k_is); (case hm => k_is))))
local macro_rules | `(tactic| walk_at "UnrEnd") => `(tactic| (refine' UnrEnd.intro ?F ?N _ (fun _ hp => hp) ?o ?_; (case F => assumption); (case N => assumption); (case o => exact off_of_lt (by assumption))))
set_option maxRecDepth 100000 in
set_option maxHeartbeats 8000000 in
theorem read1_call (w : World) (mean : ExcName → Option Value) (mg mb : Str → Option Value) (x : Str) (t1 t2 : Tok) (news : List (Addr × Obj)) (hx : x.length ≤ 1000) :
   ∀ (dp un : Nat) (gd : Option (List Code)) (cn : Str) (cs : Scope) (a : Addr) (ccd : Value) (A₀ : Around) (base h₀ : Heap) (L : Addr) (m : Str → Option Value) (s : Shared) (Q E : Value → Shared → Prop),
    Below A₀ base [] h₀ → Fr h₀ L s.heap m → (KK w).In h₀ → News h₀ L s.heap news → Top VW LO mean mg mb h₀ → (KK w).In base → Top VW LO mean mg mb base → cs.kind = .function →
    dp + 20 < recursionLimit → un + 40 < cLine →
    (∀ (r : Addr) (t u : Tok) (h' : Heap) (tk' : Nat), Fr h₀ L h' m → News h₀ L h' ((r, pairObj (read1 x).1 t (read1 x).2 u) :: news) → Q (.ref r) { s with heap := h', toks := tk' }) →
    wpAny (model PG w) ({ handled := none, depth := dp, frames := some [envOf cn cs L a ccd], guards := gd, units := un } : Around) (call (.ref 74) [.str x t1, .int 1 t2]) Q E s := by
  dsimp only [PG, KK, VW, LO]
  w_strict (
  k_fill
  intro dp un gd cn cs a ccd A₀ base h₀ L m s Q E hB hF hK hN hT hXB hTB hk hdp hun hret
  refine wpAny_call ?_
  k_dflt (refine' code_defS0 ?k1 ?k2 ?k3 ?k4 ?k5 ?kA ?k6 ?k7 ?k8 ?k9 ?kB ?_ ?cK ?c2 ?c3 ?c4 ?c5; (case kA => exact rfl); (case k2 => k_asm); (case k1 => k_asm); (case k3 => k_asm); (case k4 => k_asm); (case k5 => k_asm); (case k6 => k_is); (case k7 => k_is); (case k8 => ktr_room); (case k9 => first | exact BindsTo.of_eq rfl); (case kB => exact locs rfl); (case cK => assumption); (case c2 => exact rfl); (case c3 => exact rfl); (case c4 => exact rfl); (case c5 => decide); k_whole; intro g' L' h' FG' F' N' B' X' T' D'; (try dsimp only); (try k_lift B'); (try k_fold))
  k_steps
  all_goals (first
    | exact pair_ret hret (read1_t (by with_reducible assumption)) (by assumption) (by assumption) (by first | exact fun _ h => h | exact fun _ h => .tail _ h)
    | exact pair_ret hret (read1_f (by with_reducible assumption)) (by assumption) (by assumption) (by first | exact fun _ h => h | exact fun _ h => .tail _ h)
    | trace_state))
set_option maxRecDepth 100000 in
set_option maxHeartbeats 8000000 in
theorem read2_call (w : World) (mean : ExcName → Option Value) (mg mb : Str → Option Value) (x : Str) (t1 t2 : Tok) (news : List (Addr × Obj)) (hx : x.length ≤ 1000) :
   ∀ (dp un : Nat) (gd : Option (List Code)) (cn : Str) (cs : Scope) (a : Addr) (ccd : Value) (A₀ : Around) (base h₀ : Heap) (L : Addr) (m : Str → Option Value) (s : Shared) (Q E : Value → Shared → Prop),
    Below A₀ base [] h₀ → Fr h₀ L s.heap m → (KK w).In h₀ → News h₀ L s.heap news → Top VW LO mean mg mb h₀ → (KK w).In base → Top VW LO mean mg mb base → cs.kind = .function →
    dp + 20 < recursionLimit → un + 40 < cLine →
    (∀ (r : Addr) (t u : Tok) (h' : Heap) (tk' : Nat), Fr h₀ L h' m → News h₀ L h' ((r, pairObj (read2 x).1 t (read2 x).2 u) :: news) → Q (.ref r) { s with heap := h', toks := tk' }) →
    wpAny (model PG w) ({ handled := none, depth := dp, frames := some [envOf cn cs L a ccd], guards := gd, units := un } : Around) (call (.ref 74) [.str x t1, .int 2 t2]) Q E s := by
  dsimp only [PG, KK, VW, LO]
  w_strict (
  k_fill
  intro dp un gd cn cs a ccd A₀ base h₀ L m s Q E hB hF hK hN hT hXB hTB hk hdp hun hret
  refine wpAny_call ?_
  k_dflt (refine' code_defS0 ?k1 ?k2 ?k3 ?k4 ?k5 ?kA ?k6 ?k7 ?k8 ?k9 ?kB ?_ ?cK ?c2 ?c3 ?c4 ?c5; (case kA => exact rfl); (case k2 => k_asm); (case k1 => k_asm); (case k3 => k_asm); (case k4 => k_asm); (case k5 => k_asm); (case k6 => k_is); (case k7 => k_is); (case k8 => ktr_room); (case k9 => first | exact BindsTo.of_eq rfl); (case kB => exact locs rfl); (case cK => assumption); (case c2 => exact rfl); (case c3 => exact rfl); (case c4 => exact rfl); (case c5 => decide); k_whole; intro g' L' h' FG' F' N' B' X' T' D'; (try dsimp only); (try k_lift B'); (try k_fold))
  k_steps
  all_goals (first
    | exact pair_ret hret (read2_tt (by with_reducible assumption) (by with_reducible assumption)) (by assumption) (by assumption) (by first | exact fun _ h => h | exact fun _ h => .tail _ h)
    | exact pair_ret hret (read2_tf (by with_reducible assumption) (by with_reducible assumption)) (by assumption) (by assumption) (by first | exact fun _ h => h | exact fun _ h => .tail _ h)
    | exact pair_ret hret (read2_f (by with_reducible assumption)) (by assumption) (by assumption) (by first | exact fun _ h => h | exact fun _ h => .tail _ h)
    | trace_state))
end Mine
end
section -- CR
open PySem PySem.W PyProof.Rows PyProof
namespace Mine
def CInv (nm : Str) (k : Nat) (f b : Str) : Prop := tl f = (tl nm).take (k / 2) ∧ tl b = (tl nm).drop (nm.length - (k + 1) / 2)
def crammedF (nm : Str) (width : Int) : Str :=
  if (nm.length : Int) ≤ width then nm else ⟨((tl nm).take ((width - 3).toNat / 2) ++ [46, 46, 46] ++ (tl nm).drop (nm.length - ((width - 3).toNat + 1) / 2)).toArray⟩
theorem cinv_start (nm : Str) : (Str.ofString "").length = ([] : List Int).length / 2 ∧ (Str.ofString "").length = (([] : List Int).length + 1) / 2 ∧ (Str.ofString "").length ≤ nm.length ∧ (Str.ofString "").length ≤ nm.length ∧ CInv nm ([] : List Int).length (Str.ofString "") (Str.ofString "") := by
  have h0 : (Str.ofString "").length = 0 := by decide
  refine ⟨by rw [h0]; rfl, by rw [h0]; rfl, by omega, by omega, ?_, ?_⟩
  · rw [show tl (Str.ofString "") = [] by decide]; simp
  · rw [show tl (Str.ofString "") = [] by decide]; simp [← tl_len]
theorem cinv_even {nm f b : Str} {pre : List Int} {k : Int} {width : Int} (hf : f.length = pre.length / 2) (hb : b.length = (pre.length + 1) / 2) (hfl : f.length ≤ nm.length) (h : CInv nm pre.length f b)
    (hk : k = 0 + (pre.length : Int)) (hw : ¬ (nm.length : Int) ≤ width) (hlt : pre.length < (width - 3 - 0).toNat) (he : k.fmod 2 = 0) :
    f.length = (pre ++ [k]).length / 2 ∧ (Txt.item nm ((nm.length : Int) - 1 - (b.length : Int)) ++ b).length = ((pre ++ [k]).length + 1) / 2 ∧ f.length ≤ nm.length ∧ (Txt.item nm ((nm.length : Int) - 1 - (b.length : Int)) ++ b).length ≤ nm.length ∧ CInv nm (pre ++ [k]).length f (Txt.item nm ((nm.length : Int) - 1 - (b.length : Int)) ++ b) := by
  have hev : pre.length % 2 = 0 := by
    rw [Int.fmod_eq_emod_of_nonneg _ (by decide)] at he
    omega
  have hlen : (pre ++ [k]).length = pre.length + 1 := by simp
  have h0 : 0 ≤ (nm.length : Int) - 1 - (b.length : Int) := by omega
  have h1 : (nm.length : Int) - 1 - (b.length : Int) < nm.length := by omega
  have hl1 := tl_len (Txt.item nm ((nm.length : Int) - 1 - (b.length : Int)) ++ b)
  rw [tl_append, tl_item h0 h1, List.length_append, tl_len b] at hl1
  simp only [List.length_singleton] at hl1
  obtain ⟨ha, hc⟩ := h
  rw [hlen]
  refine ⟨by omega, by omega, by omega, by omega, ?_, ?_⟩
  · rw [ha]; congr 1; omega
  · rw [tl_append, tl_item h0 h1, hc, show nm.length - (pre.length + 1 + 1) / 2 = ((nm.length : Int) - 1 - (b.length : Int)).toNat by omega, drop_cons h0 h1, List.singleton_append]
    congr 2
    omega
theorem cinv_odd {nm f b : Str} {pre : List Int} {k : Int} {width : Int} (hf : f.length = pre.length / 2) (hb : b.length = (pre.length + 1) / 2) (hbl : b.length ≤ nm.length) (h : CInv nm pre.length f b)
    (hk : k = 0 + (pre.length : Int)) (hw : ¬ (nm.length : Int) ≤ width) (hlt : pre.length < (width - 3 - 0).toNat) (he : k.fmod 2 ≠ 0) :
    (f ++ Txt.item nm (f.length : Int)).length = (pre ++ [k]).length / 2 ∧ b.length = ((pre ++ [k]).length + 1) / 2 ∧ (f ++ Txt.item nm (f.length : Int)).length ≤ nm.length ∧ b.length ≤ nm.length ∧ CInv nm (pre ++ [k]).length (f ++ Txt.item nm (f.length : Int)) b := by
  have hev : pre.length % 2 = 1 := by
    rw [Int.fmod_eq_emod_of_nonneg _ (by decide)] at he
    omega
  have hlen : (pre ++ [k]).length = pre.length + 1 := by simp
  have h0 : 0 ≤ (f.length : Int) := by omega
  have h1 : (f.length : Int) < nm.length := by omega
  have hl1 := tl_len (f ++ Txt.item nm (f.length : Int))
  rw [tl_append, tl_item h0 h1, List.length_append, tl_len f] at hl1
  simp only [List.length_singleton] at hl1
  obtain ⟨ha, hc⟩ := h
  rw [hlen]
  refine ⟨by omega, by omega, by omega, by omega, ?_, ?_⟩
  · rw [tl_append, tl_item h0 h1, ha, show (pre.length + 1) / 2 = pre.length / 2 + 1 by omega]
    have hl := tl_len nm
    have h2 : pre.length / 2 < (tl nm).length := by omega
    rw [List.take_succ_eq_append_getElem h2]
    congr 2
    rw [show ((f.length : Int)).toNat = pre.length / 2 by omega, List.getD_eq_getElem?_getD, List.getElem?_eq_getElem h2]; rfl
  · rw [hc]; congr 1; omega
theorem crammedF_whole {nm : Str} {width : Int} (h : (nm.length : Int) ≤ width) : nm = crammedF nm width := by unfold crammedF; rw [if_pos h]
theorem dots_tl : tl (Str.ofString "...") = [46, 46, 46] := by decide +kernel
theorem crammedF_cut {nm f b : Str} {width : Int} (h : ¬ (nm.length : Int) ≤ width) (hi : CInv nm (rangeKs 0 (width - 3 - 0).toNat).length f b) : f ++ Str.ofString "..." ++ b = crammedF nm width := by
  unfold crammedF; rw [if_neg h]
  apply tl_ext
  obtain ⟨ha, hb⟩ := hi
  rw [rangeKs_length] at ha hb
  rw [tl_append, tl_append, ha, hb, dots_tl, tl_mk, show width - 3 - 0 = width - 3 by omega]
local macro_rules | `(tactic| walk_at "subscriptTail Name Call") => `(tactic| (k_here; (with_reducible show wpAny _ _ (subscriptTail _ _ (Value.str _ _) (Value.int _ _)) _ _ _); refine item_str (fitsSsize_of (N := 9223372036854775808) (by omega) (by omega) (Int.le_refl _)) (by omega) (by omega) ?_; intro _))
set_option maxRecDepth 100000 in
set_option maxHeartbeats 8000000 in
theorem crammed_call (w : World) (mean : ExcName → Option Value) (mg mb : Str → Option Value) (nm : Str) (t1 : Tok) (width : Int) (t2 : Tok) (news : List (Addr × Obj)) :
   CbClaim PG w (KK w) VW LO mean mg mb 81 news [] (nm.length ≤ 100 ∧ 3 ≤ width) [.str nm t1, .int width t2] (fun t => .str (crammedF nm width) t) := by
  dsimp only [PG, KK, VW, LO]
  k_with "pyIter ref" => k_state (fun pre f b => f.length = pre.length / 2 ∧ b.length = (pre.length + 1) / 2 ∧ f.length ≤ nm.length ∧ b.length ≤ nm.length ∧ CInv nm pre.length f b) "front" "behind"
  k_with "state" => first | exact cinv_start nm | exact cinv_even (by assumption) (by assumption) (by assumption) (by assumption) (by assumption) (by assumption) (by assumption) (by assumption) | exact cinv_odd (by assumption) (by assumption) (by assumption) (by assumption) (by assumption) (by assumption) (by assumption) (by assumption)
  w_strict (
  k_fill
  dsimp only [CbClaim, CbLists, CbRet]; intros; rename_i hpre _ _ hret
  obtain ⟨hnm, hw3⟩ := hpre
  refine wpAny_call ?_
  k_dflt cell_enter
  k_steps
  all_goals first
    | exact cb_retS hret (crammedF_whole (by assumption)) (by assumption) (by assumption)
    | exact cb_retS hret (crammedF_cut (by assumption) (by assumption)) (by assumption) (by assumption)
    | trace_state)
end Mine
end
section -- D0
open PySem PySem.W PyProof.Rows PyProof
namespace Mine
abbrev keptF (room : Int) : Int := if room - 3 > 0 then room - 3 else 0
theorem kept_big {room e : Int} (h : ¬ (keptF room).fdiv 2 < e) (he : 5 ≤ e) : 3 ≤ room - 2 * e := by
  unfold keptF at h
  rw [Int.fdiv_eq_ediv_of_nonneg _ (by decide)] at h
  split at h <;> omega
theorem pow2_zero {prog : Program} {w : World} {A : Around} {E : Value → Shared → Prop} {s : Shared} {n : Int} {t u : Tok} {Q : Value → Shared → Prop} (e : n = 0) (h : Q (.int 1 s.toks) { s with toks := s.toks + 1 }) :
    wpAny (model prog w) A (binaryOp .Pow (.int 2 t) (.int n u)) Q E s := by
  subst e
  exact pow_int_small (by decide) (by decide) (by decide) h
theorem pow2_one {prog : Program} {w : World} {A : Around} {E : Value → Shared → Prop} {s : Shared} {n : Int} {t u : Tok} {Q : Value → Shared → Prop} (e : n = 1) (h : Q (.int 2 s.toks) { s with toks := s.toks + 1 }) :
    wpAny (model prog w) A (binaryOp .Pow (.int 2 t) (.int n u)) Q E s := by
  subst e
  exact pow_int_small (by decide) (by decide) (by decide) h
theorem len257 : (Str.ofString "257").length = 3 := by decide
theorem fit257 (u : Option Int) : (Txt.slice (Str.ofString "257") none u).length + (Str.ofString "...").length ≤ sizeLine := by
  have h1 := Txt.length_slice_le (Str.ofString "257") none u
  have h2 : (Str.ofString "...").length = 3 := by decide
  rw [len257] at h1
  rw [sizeLine_eq]; omega
theorem len_app (x y : Str) : (x ++ y).length = x.length + y.length := by rw [← tl_len, tl_append, List.length_append, tl_len, tl_len]
theorem fit257b {tail : Str} (u v : Option Int) (ht : tail.length = 4) : (Txt.slice (Str.ofString "257") none u ++ Str.ofString "...").length + (Txt.slice tail v none).length ≤ sizeLine := by
  have h1 := Txt.length_slice_le (Str.ofString "257") none u
  have h2 : (Str.ofString "...").length = 3 := by decide
  have h3 := Txt.length_slice_le tail v none
  rw [len257] at h1
  rw [len_app, sizeLine_eq]; omega
theorem lenDots : (Str.ofString "...").length = 3 := by decide
abbrev halfF (room : Int) : Int := (keptF room).fdiv 2
abbrev cutF (tail : Str) (room : Int) : Str := Txt.slice (Str.ofString "257") none (some (halfF room)) ++ Str.ofString "..." ++ Txt.slice tail (some (4 - (keptF room - halfF room))) none
def due1F (nm inner : Str) (width : Int) : Int × Str :=
  if width < (nm.length : Int) + 2 * (4 + 1) ∧ halfF width < 4 + 1 then (if 2 < halfF width then (1, Str.ofString "") else (0, cutF inner width)) else (1, crammedF nm (width - 2 * (4 + 1)))
def due2F (nm outer inner : Str) (width : Int) : Int × Str :=
  if width < (nm.length : Int) + 2 * (4 + 1) + 2 * (4 + 2) ∧ halfF width < 4 + 1 then (if 2 < halfF width then (1, Str.ofString "") else (0, cutF outer width))
  else if width - 2 * (4 + 1) < (nm.length : Int) + 2 * (4 + 1) + 2 * (4 + 2) - 2 * (4 + 1) ∧ halfF (width - 2 * (4 + 1)) < 4 + 2 then (if 2 < halfF (width - 2 * (4 + 1)) then (2, Str.ofString "") else (1, cutF inner (width - 2 * (4 + 1))))
  else (2, crammedF nm (width - 2 * (4 + 1) - 2 * (4 + 2)))
section
variable {nm outer inner : Str} {width : Int}
theorem due1_a (h1 : width < (nm.length : Int) + 2 * (4 + 1)) (h2 : halfF width < 4 + 1) (h3 : 2 < halfF width) : due1F nm inner width = (1, Str.ofString "") := (if_pos ⟨h1, h2⟩).trans (if_pos h3)
theorem due1_b (h1 : width < (nm.length : Int) + 2 * (4 + 1)) (h2 : halfF width < 4 + 1) (h3 : ¬ 2 < halfF width) : due1F nm inner width = (0, cutF inner width) := (if_pos ⟨h1, h2⟩).trans (if_neg h3)
theorem due1_c (h2 : ¬ halfF width < 4 + 1) : due1F nm inner width = (1, crammedF nm (width - 2 * (4 + 1))) := if_neg fun h => h2 h.2
theorem due1_d (h1 : ¬ width < (nm.length : Int) + 2 * (4 + 1)) : due1F nm inner width = (1, crammedF nm (width - 2 * (4 + 1))) := if_neg fun h => h1 h.1
theorem due2_a (h1 : width < (nm.length : Int) + 2 * (4 + 1) + 2 * (4 + 2)) (h2 : halfF width < 4 + 1) (h3 : 2 < halfF width) : due2F nm outer inner width = (1, Str.ofString "") := (if_pos ⟨h1, h2⟩).trans (if_pos h3)
theorem due2_b (h1 : width < (nm.length : Int) + 2 * (4 + 1) + 2 * (4 + 2)) (h2 : halfF width < 4 + 1) (h3 : ¬ 2 < halfF width) : due2F nm outer inner width = (0, cutF outer width) := (if_pos ⟨h1, h2⟩).trans (if_neg h3)
theorem due2_c (h0 : ¬ halfF width < 4 + 1) (h1 : width < (nm.length : Int) + 2 * (4 + 1) + 2 * (4 + 2)) (h2 : halfF (width - 2 * (4 + 1)) < 4 + 2) (h3 : 2 < halfF (width - 2 * (4 + 1))) : due2F nm outer inner width = (2, Str.ofString "") :=
  (if_neg fun h => h0 h.2).trans ((if_pos ⟨by omega, h2⟩).trans (if_pos h3))
theorem due2_d (h0 : ¬ halfF width < 4 + 1) (h1 : width < (nm.length : Int) + 2 * (4 + 1) + 2 * (4 + 2)) (h2 : halfF (width - 2 * (4 + 1)) < 4 + 2) (h3 : ¬ 2 < halfF (width - 2 * (4 + 1))) : due2F nm outer inner width = (1, cutF inner (width - 2 * (4 + 1))) :=
  (if_neg fun h => h0 h.2).trans ((if_pos ⟨by omega, h2⟩).trans (if_neg h3))
theorem due2_e (h0 : ¬ halfF width < 4 + 1) (h2 : ¬ halfF (width - 2 * (4 + 1)) < 4 + 2) : due2F nm outer inner width = (2, crammedF nm (width - 2 * (4 + 1) - 2 * (4 + 2))) :=
  (if_neg fun h => h0 h.2).trans (if_neg fun h => h2 h.2)
theorem due2_f (h0 : ¬ width < (nm.length : Int) + 2 * (4 + 1) + 2 * (4 + 2)) : due2F nm outer inner width = (2, crammedF nm (width - 2 * (4 + 1) - 2 * (4 + 2))) :=
  (if_neg fun h => h0 h.1).trans (if_neg fun h => h0 (by omega))
end
theorem kept_room {room e n : Int} (h : ¬ room < n + e) (hn : 3 ≤ n) : 3 ≤ room - e := by omega
end Mine
end
section -- D1
open PySem PySem.W PyProof.Rows PyProof
namespace Mine
local macro_rules | `(tactic| walk_at "binaryOp Pow int int") => `(tactic| (k_dflt (first | refine pow2_zero (by rfl) ?_ | refine pow2_one (by rfl) ?_)))
local macro_rules | `(tactic| walk_at "UnrEnd") => `(tactic| (refine' UnrEnd.intro ?F ?N _ (fun _ hp => hp) ?o ?_; (case F => assumption); (case N => assumption); (case o => first | exact off_of_lt (by assumption) | exact off_allLt (by assumption))))
local macro_rules | `(tactic| walk_at "call ref") => `(tactic| (k_here; (with_reducible show wpAny _ _ (call (Value.ref 81) [Value.str _ _, Value.int _ _]) _ _ _); k_dflt (refine' crammed_call _ _ _ _ _ _ _ _ _ _ _ _ _ _ _ _ _ _ _ _ _ _ _ _ _ _ ?k1 ?k2 ?k3 ?k4 ?k5 ?k6 ?hx ?k8 ?k9 ?_; (case k1 => k_asm); (case k2 => k_asm); (case k3 => k_asm); (case k4 => k_asm); (case k5 => k_asm); (case k6 => exact rfl); (case k8 => ktr_room); (case k9 => ktr_units); (case hx => exact ⟨by omega, by first | exact kept_big (by assumption) (by decide) | omega⟩)); (intro t9 h9 tk9 F9 N9); (try dsimp only); (try k_fold)))
local macro_rules | `(tactic| walk_at "binaryOp Add str str") => `(tactic| (k_here; (refine SBL.add (hsz := ?hsz) ?_); (case hsz => first | exact fit257 _ | exact fit257b _ _ (by assumption)); intro _ _ _))
set_option maxRecDepth 100000 in
set_option maxHeartbeats 8000000 in
theorem due1_call (w : World) (mean : ExcName → Option Value) (mg mb : Str → Option Value) (nm inner : Str) (t1 t2 u1 : Tok) (width : Int) (l : Addr) (news : List (Addr × Obj)) (hnm : nm.length ≤ 100) (hnm4 : 4 ≤ nm.length) (hin : inner.length = 4) :
   ∀ (dp un : Nat) (gd : Option (List Code)) (cn : Str) (cs : Scope) (a : Addr) (ccd : Value) (outr : List Env) (A₀ : Around) (base h₀ : Heap) (L : Addr) (m : Str → Option Value) (s : Shared) (Q E : Value → Shared → Prop),
    Below A₀ base outr h₀ → Fr h₀ L s.heap m → (KK w).In h₀ → News h₀ L s.heap ((l, listOf #[Value.str inner u1] 0) :: news) → Top VW LO mean mg mb h₀ → cs.kind = .function →
    dp + 20 < recursionLimit → un + 40 < cLine →
    (∀ (r : Addr) (t u : Tok) (h' : Heap) (tk' : Nat), Fr h₀ L h' m → News h₀ L h' ((r, pairObj (due1F nm inner width).1 t (due1F nm inner width).2 u) :: (l, listOf #[Value.str inner u1] 0) :: news) → Q (.ref r) { s with heap := h', toks := tk' }) →
    wpAny (model PG w) ({ handled := none, depth := dp, frames := some (envOf cn cs L a ccd :: outr), guards := gd, units := un } : Around) (call (.ref 88) [.str nm t1, .ref l, .int width t2]) Q E s := by
  dsimp only [PG, KK, VW, LO]
  w_strict (
  k_fill
  intro dp un gd cn cs a ccd outr A₀ base h₀ L m s Q E hB hF hK hN hT hk hdp hun hret
  refine wpAny_call ?_
  k_dflt (refine' code_def (binds := [(Str.ofString "name", Value.str nm t1), (Str.ofString "tails", Value.ref l), (Str.ofString "width", Value.int width t2)]) ?k1 ?k2 ?k3 ?k4 ?k5 ?kA ?kF ?kK ?k6 ?k7 ?k8 ?k9 ?kB ?_ ?c2 ?c3 ?c4 ?c5; (case kA => exact rfl); (case kF => exact rfl); (case kK => assumption); (case k1 => k_asm); (case k2 => k_asm); (case k3 => k_asm); (case k4 => k_asm); (case k5 => k_asm); (case k6 => k_is); (case k7 => k_is); (case k8 => ktr_room); (case k9 => exact BindsTo.of_eq rfl); (case c5 => decide); (case kB => exact locs rfl); (case c2 => exact rfl); (case c3 => exact rfl); (case c4 => exact rfl); k_whole; intro g' L' h' FG' F' N' B' X' T'; (try dsimp only); (try k_lift B'); (try k_fold))
  k_steps
  all_goals (first
    | exact pair_ret hret (due1_a (by with_reducible assumption) (by with_reducible assumption) (by with_reducible assumption)) (by assumption) (by assumption) (by first | exact fun _ h => h | exact fun _ h => .tail _ h)
    | exact pair_ret hret (due1_b (by with_reducible assumption) (by with_reducible assumption) (by with_reducible assumption)) (by assumption) (by assumption) (by first | exact fun _ h => h | exact fun _ h => .tail _ h)
    | exact pair_ret hret (due1_c (by with_reducible assumption)) (by assumption) (by assumption) (by first | exact fun _ h => h | exact fun _ h => .tail _ h)
    | exact pair_ret hret (due1_d (by with_reducible assumption)) (by assumption) (by assumption) (by first | exact fun _ h => h | exact fun _ h => .tail _ h)
    | trace_state))
end Mine
end
section -- D2
open PySem PySem.W PyProof.Rows PyProof
namespace Mine
local macro_rules | `(tactic| walk_at "binaryOp Pow int int") => `(tactic| (k_dflt (first | refine pow2_zero (by rfl) ?_ | refine pow2_one (by rfl) ?_)))
local macro_rules | `(tactic| walk_at "UnrEnd") => `(tactic| (refine' UnrEnd.intro ?F ?N _ (fun _ hp => hp) ?o ?_; (case F => assumption); (case N => assumption); (case o => first | exact off_of_lt (by assumption) | exact off_allLt (by assumption))))
local macro_rules | `(tactic| walk_at "call ref") => `(tactic| (k_here; (with_reducible show wpAny _ _ (call (Value.ref 81) [Value.str _ _, Value.int _ _]) _ _ _); k_dflt (refine' crammed_call _ _ _ _ _ _ _ _ _ _ _ _ _ _ _ _ _ _ _ _ _ _ _ _ _ _ ?k1 ?k2 ?k3 ?k4 ?k5 ?k6 ?hx ?k8 ?k9 ?_; (case k1 => k_asm); (case k2 => k_asm); (case k3 => k_asm); (case k4 => k_asm); (case k5 => k_asm); (case k6 => exact rfl); (case k8 => ktr_room); (case k9 => ktr_units); (case hx => exact ⟨by omega, by first | exact kept_big (by assumption) (by decide) | omega⟩)); (intro t9 h9 tk9 F9 N9); (try dsimp only); (try k_fold)))
local macro_rules | `(tactic| walk_at "binaryOp Add str str") => `(tactic| (k_here; (refine SBL.add (hsz := ?hsz) ?_); (case hsz => first | exact fit257 _ | exact fit257b _ _ (by assumption)); intro _ _ _))
set_option maxRecDepth 100000 in
set_option maxHeartbeats 8000000 in
theorem due2_call (w : World) (mean : ExcName → Option Value) (mg mb : Str → Option Value) (nm outer inner : Str) (t1 t2 u1 u2 : Tok) (width : Int) (l : Addr) (news : List (Addr × Obj)) (hnm : nm.length ≤ 100) (hnm4 : 4 ≤ nm.length) (hout : outer.length = 4) (hin : inner.length = 4) :
   ∀ (dp un : Nat) (gd : Option (List Code)) (cn : Str) (cs : Scope) (a : Addr) (ccd : Value) (outr : List Env) (A₀ : Around) (base h₀ : Heap) (L : Addr) (m : Str → Option Value) (s : Shared) (Q E : Value → Shared → Prop),
    Below A₀ base outr h₀ → Fr h₀ L s.heap m → (KK w).In h₀ → News h₀ L s.heap ((l, listOf #[Value.str outer u1, Value.str inner u2] 0) :: news) → Top VW LO mean mg mb h₀ → cs.kind = .function →
    dp + 20 < recursionLimit → un + 40 < cLine →
    (∀ (r : Addr) (t u : Tok) (h' : Heap) (tk' : Nat), Fr h₀ L h' m → News h₀ L h' ((r, pairObj (due2F nm outer inner width).1 t (due2F nm outer inner width).2 u) :: (l, listOf #[Value.str outer u1, Value.str inner u2] 0) :: news) → Q (.ref r) { s with heap := h', toks := tk' }) →
    wpAny (model PG w) ({ handled := none, depth := dp, frames := some (envOf cn cs L a ccd :: outr), guards := gd, units := un } : Around) (call (.ref 88) [.str nm t1, .ref l, .int width t2]) Q E s := by
  dsimp only [PG, KK, VW, LO]
  w_strict (
  k_fill
  intro dp un gd cn cs a ccd outr A₀ base h₀ L m s Q E hB hF hK hN hT hk hdp hun hret
  refine wpAny_call ?_
  k_dflt (refine' code_def (binds := [(Str.ofString "name", Value.str nm t1), (Str.ofString "tails", Value.ref l), (Str.ofString "width", Value.int width t2)]) ?k1 ?k2 ?k3 ?k4 ?k5 ?kA ?kF ?kK ?k6 ?k7 ?k8 ?k9 ?kB ?_ ?c2 ?c3 ?c4 ?c5; (case kA => exact rfl); (case kF => exact rfl); (case kK => assumption); (case k1 => k_asm); (case k2 => k_asm); (case k3 => k_asm); (case k4 => k_asm); (case k5 => k_asm); (case k6 => k_is); (case k7 => k_is); (case k8 => ktr_room); (case k9 => exact BindsTo.of_eq rfl); (case c5 => decide); (case kB => exact locs rfl); (case c2 => exact rfl); (case c3 => exact rfl); (case c4 => exact rfl); k_whole; intro g' L' h' FG' F' N' B' X' T'; (try dsimp only); (try k_lift B'); (try k_fold))
  k_steps
  all_goals (first
    | exact pair_ret hret (due2_a (by with_reducible assumption) (by with_reducible assumption) (by with_reducible assumption)) (by assumption) (by assumption) (by first | exact fun _ h => h | exact fun _ h => .tail _ h)
    | exact pair_ret hret (due2_b (by with_reducible assumption) (by with_reducible assumption) (by with_reducible assumption)) (by assumption) (by assumption) (by first | exact fun _ h => h | exact fun _ h => .tail _ h)
    | exact pair_ret hret (due2_c (by with_reducible assumption) (by with_reducible assumption) (by with_reducible assumption) (by with_reducible assumption)) (by assumption) (by assumption) (by first | exact fun _ h => h | exact fun _ h => .tail _ h)
    | exact pair_ret hret (due2_d (by with_reducible assumption) (by with_reducible assumption) (by with_reducible assumption) (by with_reducible assumption)) (by assumption) (by assumption) (by first | exact fun _ h => h | exact fun _ h => .tail _ h)
    | exact pair_ret hret (due2_e (by with_reducible assumption) (by with_reducible assumption)) (by assumption) (by assumption) (by first | exact fun _ h => h | exact fun _ h => .tail _ h)
    | exact pair_ret hret (due2_f (by with_reducible assumption)) (by assumption) (by assumption) (by first | exact fun _ h => h | exact fun _ h => .tail _ h)
    | trace_state))
end Mine
end
section -- RP
open PySem PySem.W PyProof.Rows PyProof
namespace Mine
/-- each quotation mark doubled -/
def dbl : List Nat → List Nat
  | [] => []
  | c :: r => (if c = 34 then [34, 34] else [c]) ++ dbl r
theorem dbl_append (a b : List Nat) : dbl (a ++ b) = dbl a ++ dbl b := by
  induction a with
  | nil => rfl
  | cons c r ih => simp only [List.cons_append, dbl, ih, List.append_assoc]
theorem dbl_free {a : List Nat} (h : 34 ∉ a) : dbl a = a := by
  induction a with
  | nil => rfl
  | cons c r ih =>
    have hc : c ≠ 34 := fun e => h (by rw [e]; exact List.mem_cons_self)
    have hr : 34 ∉ r := fun e => h (List.mem_cons_of_mem _ e)
    simp [dbl, hc, ih hr]
def replF (x : Str) : Str := ⟨(dbl (tl x)).toArray⟩
theorem dbl_len (a : List Nat) : (dbl a).length ≤ 2 * a.length := by
  induction a with
  | nil => exact Nat.le_refl _
  | cons c r ih =>
    simp only [dbl, List.length_append, List.length_cons]
    split <;> simp only [List.length_cons, List.length_nil] <;> omega
theorem replF_len (x : Str) : (replF x).length ≤ 2 * x.length := by
  have := dbl_len (tl x)
  rw [tl_len] at this
  rw [← tl_len]; unfold replF; rw [tl_mk]; exact this
theorem mark_is : Str.ofString "\"" = ⟨#[34]⟩ := by decide +kernel
theorem mark2_tl : tl (Str.ofString "\"\"") = [34, 34] := by decide +kernel
theorem dbl_join : ∀ ps : List Str, (∀ p ∈ ps, 34 ∉ p.cps.toList) → dbl (tl (Str.join (Str.ofString "\"") ps)) = tl (Str.join (Str.ofString "\"\"") ps)
  | [], _ => by decide
  | [p], h => dbl_free (h p List.mem_cons_self)
  | p :: q :: r, h => by
    have ih := dbl_join (q :: r) fun a ha => h a (List.mem_cons_of_mem _ ha)
    show dbl (tl (p ++ Str.ofString "\"" ++ Str.join (Str.ofString "\"") (q :: r))) = tl (p ++ Str.ofString "\"\"" ++ Str.join (Str.ofString "\"\"") (q :: r))
    rw [tl_append, tl_append, tl_append, tl_append, dbl_append, dbl_append, ih, dbl_free (h p List.mem_cons_self), quote_tl, mark2_tl]
    rfl
theorem repl_is (x : Str) : Txt.join (Str.ofString "\"\"") (Txt.split x (Str.ofString "\"")) = replF x := by
  show Builtin.Str.glued _ _ = _
  rw [StrLaws.glued_eq_join]
  apply tl_ext
  rw [← dbl_join _ (by rw [mark_is]; exact StrLaws.split_free x 34), StrLaws.join_split]
  exact (tl_mk _).symm
theorem joinOk_split {x : Str} {l : List (Str × Tok)} (e : l.map (·.1) = Txt.split x (Str.ofString "\"")) (hx : x.length ≤ 100) : JoinOk (Str.ofString "\"\"") (Txt.split x (Str.ofString "\"")) = true := by
  have h := weighs_of_split e (by decide)
  unfold Weighs at h
  rw [e] at h
  exact joinOk_of_weight (by omega) (by decide)
theorem slice2_empty {prog : Program} {w : World} {A : Around} {E : Value → Shared → Prop} {s : Shared} {h₀ : Heap} {L : Addr} {m : Str → Option Value} {news : List (Addr × Obj)} {value slice : PySem.Expr} {t : Addr} {v1 v2 : Value} {u : Tok} {Q : Value → Shared → Prop}
    (F : Fr h₀ L s.heap m) (N : News h₀ L s.heap news) (ht : IsTup s.heap t #[v1, v2])
    (h : ∀ D h', Fr h₀ L h' m → News h₀ L h' ((D, { cls := .type "tuple", data := .seq #[] }) :: news) → (∀ p ∈ news, p.1 < D) → Q (.ref D) { s with heap := h' })
    (hs : subscripted slice false (.ref t) (.ref s.heap.objs.size) = operate [.ref s.heap.objs.size, .ref t] (getItem (.ref t) (.ref s.heap.objs.size)))
    (hg : ∀ r, letTemporaryGo value (.ref t) r = pure ()) :
    wpAny (model prog w) A (subscriptTail value slice (.ref t) (.ref s.heap.objs.size)) Q E { s with heap := s.heap.push { cls := .type "slice", data := .fields #[.int 2 u, .none, .none] } } :=
  slice_tuple_from (a := 2) F N ht (by decide) (by simp) (fun h' F' N' => h _ h' F' N' fun p hp => Nat.lt_succ_of_lt (Heap.lt_size (N p hp).1)) hs hg (by rw [sizeLine_eq]; simp)
local macro_rules | `(tactic| walk_at "subscriptTail Name Slice ref ref") => `(tactic| (k_here; (with_reducible show wpAny _ _ (subscriptTail _ _ (Value.ref _) (Value.ref _)) _ _ _); k_dflt (refine' slice2_empty ?F ?N ?t ?_ ?hs ?hg; (case F => assumption); (case N => assumption); (case t => exact News.isTup (by assumption) (by k_mem)); (case hs => with_unfolding_all rfl); (case hg => intro _; with_unfolding_all rfl)); intro D9 h9 F9 N9 l9))
local macro_rules | `(tactic| walk_at "call builtin:str.join") => `(tactic| (k_here; k_dflt (refine SC.join (by assumption) (by assumption) (joinOk_split (by assumption) (by assumption)) ?_); intro _ _))
local macro_rules | `(tactic| walk_at "exec While Name") => `(tactic| (k_here; k_dflt (refine whl_start 100 ?_)))
set_option maxRecDepth 100000 in
set_option maxHeartbeats 8000000 in
theorem repl_call (w : World) (mean : ExcName → Option Value) (mg mb : Str → Option Value) (x : Str) (t1 t2 t3 : Tok) (news : List (Addr × Obj)) (hx : x.length ≤ 100) :
   ∀ (dp un : Nat) (gd : Option (List Code)) (cn : Str) (cs : Scope) (a : Addr) (ccd : Value) (outr : List Env) (A₀ : Around) (base h₀ : Heap) (L : Addr) (m : Str → Option Value) (s : Shared) (Q E : Value → Shared → Prop),
    Below A₀ base outr h₀ → Fr h₀ L s.heap m → (KK w).In h₀ → News h₀ L s.heap news → Top VW LO mean mg mb h₀ → cs.kind = .function →
    dp + 20 < recursionLimit → un + 40 < cLine →
    (∀ (t : Tok) (h' : Heap) (tk' : Nat), Fr h₀ L h' m → News h₀ L h' news → (replF x).length ≤ 2 * x.length → Q (.str (replF x) t) { s with heap := h', toks := tk' }) →
    wpAny (model PG w) ({ handled := none, depth := dp, frames := some (envOf cn cs L a ccd :: outr), guards := gd, units := un } : Around) (call (.ref 53) [.str x t1, .str (Str.ofString "\"") t2, .str (Str.ofString "\"\"") t3]) Q E s := by
  dsimp only [PG, KK, VW, LO]
  w_strict (
  k_fill
  intro dp un gd cn cs a ccd outr A₀ base h₀ L m s Q E hB hF hK hN hT hk hdp hun hret
  refine wpAny_call ?_
  k_dflt (refine' kp_rest ?k1 ?k2 ?k3 ?k4 ?k5 ?kA ?kF ?kK ?k6 ?k7 ?k8 ?kV ?kP ?kG ?kB ?_ ?c2 ?c3 ?c4 ?c5; (case kA => exact rfl); (case kF => exact rfl); (case kK => assumption); (case k1 => k_asm); (case k2 => k_asm); (case k3 => k_asm); (case k4 => k_asm); (case k5 => k_asm); (case k6 => k_is); (case k7 => k_is); (case k8 => ktr_room); (case kV => kl_lit); (case kP => exact rfl); (case kG => exact fun _ => rfl); (case kB => exact fun _ => locs rfl); (case c5 => decide); (case c2 => exact rfl); (case c3 => exact rfl); (case c4 => exact rfl); k_whole; intro D' g' L' h' l1 FG' F' N' B' X' T'; (try k_lt l1); (try dsimp only); (try k_lift B'); (try k_fold))
  k_steps
  all_goals first
    | exact cb_retS (fun t h' tk' F N => hret t h' tk' F N (replF_len x)) (repl_is x) (by assumption) (cb_drop (by assumption) (fun _ h => by repeat (first | exact h | refine List.Mem.tail _ ?_)))
    | trace_state)
end Mine
end
section -- CM
open PySem PySem.W PyProof.Rows PyProof
namespace Mine
abbrev max0 (i : Int) : Int := if i > 0 then i else 0
def cramF (text : Str) (maxlen : Int) : Str :=
  if maxlen < (text.length : Int) then
    Txt.slice text none (some (max0 ((maxlen - 3).fdiv 2))) ++ Str.ofString "..." ++ Txt.slice text (some ((text.length : Int) - max0 (maxlen - 3 - max0 ((maxlen - 3).fdiv 2)))) none
  else text
theorem cramF_cut {text : Str} {maxlen : Int} (h : maxlen < (text.length : Int)) :
    Txt.slice text none (some (max0 ((maxlen - 3).fdiv 2))) ++ Str.ofString "..." ++ Txt.slice text (some ((text.length : Int) - max0 (maxlen - 3 - max0 ((maxlen - 3).fdiv 2)))) none = cramF text maxlen := (if_pos h).symm
theorem cramF_whole {text : Str} {maxlen : Int} (h : ¬ maxlen < (text.length : Int)) : text = cramF text maxlen := (if_neg h).symm
set_option maxRecDepth 100000 in
set_option maxHeartbeats 8000000 in
theorem cram_call (w : World) (mean : ExcName → Option Value) (mg mb : Str → Option Value) (text : Str) (t1 : Tok) (maxlen : Int) (t2 : Tok) (news : List (Addr × Obj)) :
   CbClaim PG w (KK w) VW LO mean mg mb 60 news [] (text.length ≤ 900) [.str text t1, .int maxlen t2] (fun t => .str (cramF text maxlen) t) := by
  dsimp only [PG, KK, VW, LO]
  w_strict (
  k_fill
  dsimp only [CbClaim, CbLists, CbRet]; intros; rename_i hret
  refine wpAny_call ?_
  k_dflt cell_enter
  k_steps
  all_goals first
    | exact cb_retS hret (cramF_cut (by assumption)) (by assumption) (by assumption)
    | exact cb_retS hret (cramF_whole (by assumption)) (by assumption) (by assumption)
    | trace_state)
def sgnF (x : Int) : Str := if x.fmod 6 < 5 then Txt.item (Str.ofString "a. 27") (x.fmod 6) else ⟨#[(35 + (x.fdiv 6).fmod 1000).toNat]⟩
theorem sgnF_a {x : Int} (h : x.fmod 6 < 5) : Txt.item (Str.ofString "a. 27") (x.fmod 6) = sgnF x := (if_pos h).symm
theorem sgnF_b {x : Int} (h : ¬ x.fmod 6 < 5) : ⟨#[(35 + (x.fdiv 6).fmod 1000).toNat]⟩ = sgnF x := (if_neg h).symm
set_option maxRecDepth 100000 in
set_option maxHeartbeats 8000000 in
theorem sign_call (w : World) (mean : ExcName → Option Value) (mg mb : Str → Option Value) (x : Int) (t1 : Tok) (news : List (Addr × Obj)) :
   CbClaim PG w (KK w) VW LO mean mg mb 67 news [] True [.int x t1] (fun t => .str (sgnF x) t) := by
  dsimp only [PG, KK, VW, LO]
  w_strict (
  k_fill
  dsimp only [CbClaim, CbLists, CbRet]; intros; rename_i hret
  refine wpAny_call ?_
  k_dflt cell_enter
  k_steps
  all_goals first
    | exact cb_retS hret (sgnF_a (by assumption)) (by assumption) (by assumption)
    | exact cb_retS hret (sgnF_b (by assumption)) (by assumption) (by assumption)
    | trace_state)
end Mine
end
section -- PU
open PySem PySem.W PyProof.Rows PyProof
namespace Mine
abbrev P5 : List Nat := [50, 53, 55, 32, 34]
theorem parseL_app {a : List Nat} (h : 34 ∉ a) (r : List Nat) : parseL (a ++ r) = a ++ parseL r := by
  induction a with
  | nil => rfl
  | cons c t ih =>
    have hc : c ≠ 34 := fun e => h (by rw [e]; exact List.mem_cons_self)
    rw [List.cons_append, parseL_ne hc, ih (fun e => h (List.mem_cons_of_mem _ e)), List.cons_append]
theorem parseL_free {a : List Nat} (h : 34 ∉ a) : parseL a = a := by
  have := parseL_app h []
  simpa [parseL] using this
theorem parseL_stop {b : List Nat} (h : 34 ∉ b) : parseL (34 :: b) = [] := by
  cases b with
  | nil => rfl
  | cons c r => exact parseL_qe fun e => h (by rw [e]; exact List.mem_cons_self)
theorem parseL_end {a b : List Nat} (ha : 34 ∉ a) (hb : 34 ∉ b) : parseL (a ++ 34 :: b) = a := by
  rw [parseL_app ha, parseL_stop hb, List.append_nil]
/-- the reading of a text whose code points are known -/
theorem is257_iff {x : Str} : is257 x ↔ (tl x).take 3 = [50, 53, 55] := by
  have e257 : tl (Str.ofString "257") = [50, 53, 55] := by decide +kernel
  have e : tl (Txt.slice x none (some 3)) = (tl x).take 3 := slice_to (by decide)
  constructor
  · intro h; rw [← e, ← e257]; exact congrArg tl h
  · intro h; exact tl_ext (by rw [e257, ← h]; exact e)
theorem parseF_open {x : Str} {r : List Nat} (h : (tl x).drop 3 = 32 :: 34 :: r) : parseF x = ⟨(parseL r).toArray⟩ := by
  have e5 : tl (Str.ofString " \"") = [32, 34] := by decide +kernel
  have e : tl (Txt.slice x (some 3) (some 5)) = ((tl x).drop 3).take 2 := slice_ss (by decide) (by decide)
  have hs : Txt.slice x (some 3) (some 5) = Str.ofString " \"" := tl_ext (by rw [e5]; refine e.trans ?_; rw [h]; rfl)
  unfold parseF
  rw [if_neg (by rw [hs]; decide)]
  congr 2
  rw [show (tl x).drop 5 = ((tl x).drop 3).drop 2 by rw [List.drop_drop], h]; rfl
theorem parseF_shut {x : Str} (h : ((tl x).drop 3).take 2 ≠ [32, 34]) : parseF x = Str.ofString "" := by
  have e5 : tl (Str.ofString " \"") = [32, 34] := by decide +kernel
  have e : tl (Txt.slice x (some 3) (some 5)) = ((tl x).drop 3).take 2 := slice_ss (by decide) (by decide)
  have hs : Txt.slice x (some 3) (some 5) ≠ Str.ofString " \"" := fun q => h (by rw [← e, ← e5]; exact congrArg tl q)
  unfold parseF
  rw [if_pos (by simpa using hs)]
/-- a crammed text's code points -/
theorem cram_tl {x : Str} {w : Int} (h : w < (x.length : Int)) : ∃ p q : Nat, (p : Int) = halfF w ∧ (q : Int) = keptF w - halfF w ∧ (p = q ∨ p + 1 = q) ∧ ((p + q : Nat) : Int) = keptF w ∧
    tl (cramF x w) = (tl x).take p ++ [46, 46, 46] ++ (tl x).drop (x.length - q) := by
  have h1 : (w - 3).fdiv 2 = (w - 3) / 2 := Int.fdiv_eq_ediv_of_nonneg _ (by decide)
  have h2 : (keptF w).fdiv 2 = (keptF w) / 2 := Int.fdiv_eq_ediv_of_nonneg _ (by decide)
  have hk : keptF w = max 0 (w - 3) := by unfold keptF; split <;> omega
  have hm : ∀ i : Int, max0 i = max 0 i := by intro i; unfold max0; split <;> omega
  refine ⟨(halfF w).toNat, (keptF w - halfF w).toNat, ?_, ?_, ?_, ?_, ?_⟩
  · unfold halfF; rw [h2, hk]; omega
  · unfold halfF; rw [h2, hk]; omega
  · unfold halfF; rw [h2, hk]; omega
  · unfold halfF; rw [h2, hk]; omega
  · unfold cramF
    rw [if_pos h, tl_append, tl_append, dots_tl]
    rw [slice_to (by rw [hm]; omega), slice_from (by rw [hm, hm, h1]; omega)]
    congr 2
    · congr 2; unfold halfF; rw [h2, hk, hm, h1]; omega
    · unfold halfF; rw [h2, hk, hm, hm, h1]; omega
theorem cram_whole {x : Str} {w : Int} (h : ¬ w < (x.length : Int)) : cramF x w = x := if_neg h
end Mine
end
section -- PV
open PySem PySem.W PyProof.Rows PyProof
set_option linter.unusedSimpArgs false
namespace Mine
abbrev rep (x t : Str) : Str := Str.ofString "257 \"" ++ replF x ++ Str.ofString "\"" ++ t
theorem rep_tl (x t : Str) : tl (rep x t) = P5 ++ dbl (tl x) ++ [34] ++ tl t := by
  have e : tl (Str.ofString "257 \"") = P5 := by decide +kernel
  rw [tl_append, tl_append, tl_append, e, quote_tl]
  unfold replF
  rw [tl_mk]
theorem cut_tl {t : Str} {w : Int} {p q : Nat} (hp : (p : Int) = halfF w) (hq : (q : Int) = keptF w - halfF w) (hp2 : p ≤ 2) (hq4 : q ≤ 4) :
    tl (cutF t w) = [50, 53, 55].take p ++ [46, 46, 46] ++ (tl t).drop (4 - q) := by
  have e257 : tl (Str.ofString "257") = [50, 53, 55] := by decide +kernel
  unfold cutF
  rw [← hq, ← hp, tl_append, tl_append, dots_tl, slice_to (by omega), slice_from (by omega), e257]
  congr 2
  omega
theorem pair_eq {a b : Int} {x y : Str} (h1 : a = b) (h2 : tl x = tl y) : (a, x) = (b, y) := by rw [h1, tl_ext h2]
theorem empty_tl : tl (Str.ofString "") = [] := by decide
/-- the first opening is broken within its first three signs -/
theorem head_low {x : Str} {p : Nat} {r : List Nat} (hp : p ≤ 2) (h : tl x = [50, 53, 55].take p ++ [46, 46, 46] ++ r) : ¬ is257 x := by
  rw [is257_iff, h]
  have : p = 0 ∨ p = 1 ∨ p = 2 := by omega
  rcases this with rfl | rfl | rfl <;> simp
theorem head_mid {x : Str} {p : Nat} {r : List Nat} (h3 : 3 ≤ p) (h4 : p ≤ 4) (h : tl x = P5.take p ++ [46, 46, 46] ++ r) : is257 x ∧ parseF x = Str.ofString "" := by
  have : p = 3 ∨ p = 4 := by omega
  rcases this with rfl | rfl
  · exact ⟨by rw [is257_iff, h]; rfl, parseF_shut (by rw [h]; simp)⟩
  · exact ⟨by rw [is257_iff, h]; rfl, parseF_shut (by rw [h]; simp)⟩
theorem head_whole {x : Str} {r : List Nat} (h : tl x = P5 ++ r) : is257 x ∧ parseF x = ⟨(parseL r).toArray⟩ :=
  ⟨by rw [is257_iff, h]; rfl, parseF_open (by rw [h]; rfl)⟩
theorem take_low {p : Nat} (hp : p ≤ 2) (r : List Nat) : (P5 ++ r).take p = [50, 53, 55].take p := by
  have : p = 0 ∨ p = 1 ∨ p = 2 := by omega
  rcases this with rfl | rfl | rfl <;> rfl
theorem take_mid {p : Nat} (hp : p ≤ 5) (r : List Nat) : (P5 ++ r).take p = P5.take p := by
  rw [List.take_append_of_le_length (by simpa using hp)]
theorem take_high {p : Nat} (hp : 5 ≤ p) (r : List Nat) : (P5 ++ r).take p = P5 ++ r.take (p - 5) := by
  rw [List.take_append]
  rw [List.take_of_length_le (by simpa using hp)]; rfl
theorem drop_tail {a b : List Nat} {k : Nat} (h : a.length ≤ k) : (a ++ b).drop k = b.drop (k - a.length) := by
  rw [List.drop_append, List.drop_of_length_le h, List.nil_append]
theorem drop_head {a b : List Nat} {k : Nat} (h : k ≤ a.length) : (a ++ b).drop k = a.drop k ++ b := by
  rw [List.drop_append_of_le_length h]
theorem free_take {a : List Nat} (h : 34 ∉ a) (k : Nat) : 34 ∉ a.take k := fun e => h (List.mem_of_mem_take e)
theorem free_drop {a : List Nat} (h : 34 ∉ a) (k : Nat) : 34 ∉ a.drop k := fun e => h (List.mem_of_mem_drop e)
theorem free_app {a b : List Nat} (h : 34 ∉ a) (h' : 34 ∉ b) : 34 ∉ a ++ b := fun e => (List.mem_append.mp e).elim h h'
theorem dots_free : 34 ∉ ([46, 46, 46] : List Nat) := by decide
/-- a name crammed, by the two numbers -/
theorem crammed_tl {nm : Str} {v w : Int} {p q e : Nat} (hv : v = w - 2 * e) (hs : ((p + q : Nat) : Int) = keptF w) (hpq : p = q ∨ p + 1 = q) (hpe : e ≤ p) (he : 1 ≤ e) (hv' : v < (nm.length : Int)) :
    tl (crammedF nm v) = (tl nm).take (p - e) ++ [46, 46, 46] ++ (tl nm).drop (nm.length - (q - e)) := by
  have hk : keptF w = max 0 (w - 3) := by unfold keptF; split <;> omega
  unfold crammedF
  rw [if_neg (by omega), tl_mk]
  congr 2
  · congr 1; omega
  · omega
theorem crammed_whole {nm : Str} {v : Int} (h : (nm.length : Int) ≤ v) : crammedF nm v = nm := if_pos h
section
variable {nm outer inner : Str}
theorem claim1 (hn : 34 ∉ tl nm) (hi : 34 ∉ tl inner) (hil : inner.length = 4) (w : Int) : read1 (cramF (rep nm inner) w) = due1F nm inner w := by
  have hR : tl (rep nm inner) = P5 ++ (tl nm ++ 34 :: tl inner) := by rw [rep_tl, dbl_free hn]; simp
  have ln := tl_len nm
  have li := tl_len inner
  have hlen : (rep nm inner).length = nm.length + 10 := by rw [← tl_len, hR]; simp only [List.length_append, List.length_cons, List.length_nil]; omega
  by_cases hw : w < ((rep nm inner).length : Int)
  · obtain ⟨p, q, hp, hq, hpq, hs, hc⟩ := cram_tl hw
    rw [hlen] at hw hc
    have hw' : w < (nm.length : Int) + 2 * (4 + 1) := by omega
    have hk : keptF w = max 0 (w - 3) := by unfold keptF; split <;> omega
    rw [hR] at hc
    by_cases h5 : 5 ≤ p
    · rw [take_high h5, List.take_append_of_le_length (by omega), show (P5 ++ (tl nm ++ 34 :: tl inner)) = (P5 ++ tl nm) ++ 34 :: tl inner by simp, drop_head (by simp only [List.length_append, List.length_cons, List.length_nil]; omega),
        drop_tail (by simp only [List.length_append, List.length_cons, List.length_nil]; omega)] at hc
      have hc' : tl (cramF (rep nm inner) w) = P5 ++ ((tl nm).take (p - 5) ++ [46, 46, 46] ++ (tl nm).drop (nm.length + 10 - q - P5.length) ++ 34 :: tl inner) := by rw [hc]; simp
      obtain ⟨h1, h2⟩ := head_whole hc'
      rw [read1_t h1, h2, due1_c (by omega), parseL_end (free_app (free_app (free_take hn _) dots_free) (free_drop hn _)) hi]
      refine pair_eq rfl ?_
      rw [tl_mk, crammed_tl (e := 5) (by omega) hs hpq h5 (by decide) (by omega)]
      congr 2
      simp only [List.length_append, List.length_cons, List.length_nil]; omega
    · by_cases h3 : 3 ≤ p
      · rw [take_mid (by omega)] at hc
        obtain ⟨h1, h2⟩ := head_mid h3 (by omega) hc
        rw [read1_t h1, h2, due1_a hw' (by omega) (by omega)]
      · rw [take_low (by omega), show (P5 ++ (tl nm ++ 34 :: tl inner)) = (P5 ++ tl nm ++ [34]) ++ tl inner by simp, drop_tail (by simp only [List.length_append, List.length_cons, List.length_nil]; omega)] at hc
        rw [read1_f (head_low (by omega) hc), due1_b hw' (by omega) (by omega)]
        refine pair_eq rfl ?_
        rw [hc, cut_tl hp hq (by omega) (by omega)]
        congr 2
        simp only [List.length_append, List.length_cons, List.length_nil]; omega
  · rw [cram_whole hw]
    rw [hlen] at hw
    obtain ⟨h1, h2⟩ := head_whole hR
    rw [read1_t h1, h2, due1_d (by omega), parseL_end hn hi, crammed_whole (by omega)]
theorem parseL_dbl (a : List Nat) {b : List Nat} (h : 34 ∉ b) : parseL (dbl a ++ 34 :: b) = a := by
  induction a with
  | nil => exact parseL_stop h
  | cons c r ih =>
    by_cases hc : c = 34
    · subst hc
      show parseL (34 :: 34 :: (dbl r ++ 34 :: b)) = _
      rw [parseL_qq, ih]
    · show parseL ((if c = 34 then [34, 34] else [c]) ++ dbl r ++ 34 :: b) = _
      rw [if_neg hc]
      show parseL (c :: (dbl r ++ 34 :: b)) = _
      rw [parseL_ne hc, ih]
set_option maxHeartbeats 4000000 in
theorem claim2 (hn : 34 ∉ tl nm) (ho : 34 ∉ tl outer) (hi : 34 ∉ tl inner) (hol : outer.length = 4) (hil : inner.length = 4) (w : Int) :
    read2 (cramF (rep (rep nm inner) outer) w) = due2F nm outer inner w := by
  have hR1 : tl (rep nm inner) = P5 ++ (tl nm ++ 34 :: tl inner) := by rw [rep_tl, dbl_free hn]; simp
  have hM : dbl (tl (rep nm inner)) = [50, 53, 55, 32, 34, 34] ++ (tl nm ++ 34 :: 34 :: tl inner) := by
    rw [hR1, dbl_append, dbl_append, dbl_free hn]
    show [50, 53, 55, 32, 34, 34] ++ (tl nm ++ ([34, 34] ++ dbl (tl inner))) = _
    rw [dbl_free hi]; rfl
  have hR : tl (rep (rep nm inner) outer) = P5 ++ (dbl (tl (rep nm inner)) ++ 34 :: tl outer) := by rw [rep_tl]; simp
  have ln := tl_len nm
  have li := tl_len inner
  have lo := tl_len outer
  have hlM : (dbl (tl (rep nm inner))).length = nm.length + 12 := by rw [hM]; simp only [List.length_append, List.length_cons, List.length_nil]; omega
  have hlen : (rep (rep nm inner) outer).length = nm.length + 22 := by rw [← tl_len, hR]; simp only [List.length_append, List.length_cons, List.length_nil]; omega
  by_cases hw : w < ((rep (rep nm inner) outer).length : Int)
  · obtain ⟨p, q, hp, hq, hpq, hs, hc⟩ := cram_tl hw
    rw [hlen] at hw hc
    have hw' : w < (nm.length : Int) + 2 * (4 + 1) + 2 * (4 + 2) := by omega
    have hk : keptF w = max 0 (w - 3) := by unfold keptF; split <;> omega
    rw [hR] at hc
    by_cases h5 : 5 ≤ p
    · rw [take_high h5, List.take_append_of_le_length (by omega), show (P5 ++ (dbl (tl (rep nm inner)) ++ 34 :: tl outer)) = (P5 ++ dbl (tl (rep nm inner))) ++ 34 :: tl outer by simp, drop_head (by simp only [List.length_append, List.length_cons, List.length_nil]; omega),
        drop_tail (by simp only [List.length_append, List.length_cons, List.length_nil]; omega)] at hc
      have hk2 : keptF (w - 2 * (4 + 1)) = max 0 (w - 13) := by unfold keptF; split <;> omega
      have h2d : halfF (w - 2 * (4 + 1)) = keptF (w - 2 * (4 + 1)) / 2 := Int.fdiv_eq_ediv_of_nonneg _ (by decide)
      have h1d : halfF w = keptF w / 2 := Int.fdiv_eq_ediv_of_nonneg _ (by decide)
      obtain ⟨p', rfl⟩ : ∃ p', p = p' + 5 := ⟨p - 5, by omega⟩
      obtain ⟨q', rfl⟩ : ∃ q', q = q' + 5 := ⟨q - 5, by omega⟩
      have hp' : (p' : Int) = halfF (w - 2 * (4 + 1)) := by omega
      have hq' : (q' : Int) = keptF (w - 2 * (4 + 1)) - halfF (w - 2 * (4 + 1)) := by omega
      have hs' : ((p' + q' : Nat) : Int) = keptF (w - 2 * (4 + 1)) := by omega
      rw [show p' + 5 - 5 = p' by omega, show nm.length + 22 - (q' + 5) - P5.length = nm.length + 12 - q' by simp only [List.length_cons, List.length_nil]; omega, hM] at hc
      have hc' : tl (cramF (rep (rep nm inner) outer) w) = P5 ++ (([50, 53, 55, 32, 34, 34] ++ (tl nm ++ 34 :: 34 :: tl inner)).take p' ++ [46, 46, 46] ++ ([50, 53, 55, 32, 34, 34] ++ (tl nm ++ 34 :: 34 :: tl inner)).drop (nm.length + 12 - q') ++ 34 :: tl outer) := by rw [hc]; simp
      obtain ⟨h1, h2⟩ := head_whole hc'
      clear hc hc' hR hR1 hM hlM hlen h1d h2d
      generalize cramF (rep (rep nm inner) outer) w = c at h1 h2
      by_cases h6 : 6 ≤ p'
      · -- both openings whole
        rw [List.take_append, List.take_of_length_le (by simpa using h6), List.take_append_of_le_length (by simp only [List.length_cons, List.length_nil]; omega),
          List.drop_append, List.drop_of_length_le (by simp only [List.length_cons, List.length_nil]; omega), List.nil_append, drop_head (by simp only [List.length_cons, List.length_nil]; omega)] at h2
        generalize hT : (tl nm).take (p' - [50, 53, 55, 32, 34, 34].length) = T at h2
        generalize hD : (tl nm).drop (nm.length + 12 - q' - [50, 53, 55, 32, 34, 34].length) = D at h2
        have hTf : 34 ∉ T := hT ▸ free_take hn _
        have hDf : 34 ∉ D := hD ▸ free_drop hn _
        have e : parseL ([50, 53, 55, 32, 34, 34] ++ T ++ [46, 46, 46] ++ (D ++ 34 :: 34 :: tl inner) ++ 34 :: tl outer) = P5 ++ (T ++ [46, 46, 46] ++ D ++ 34 :: tl inner) := by
          rw [show [50, 53, 55, 32, 34, 34] ++ T ++ [46, 46, 46] ++ (D ++ 34 :: 34 :: tl inner) ++ 34 :: tl outer = [50, 53, 55, 32] ++ (34 :: 34 :: ((T ++ [46, 46, 46] ++ D) ++ (34 :: 34 :: (tl inner ++ 34 :: tl outer)))) by simp,
            parseL_app (by decide), parseL_qq, parseL_app (free_app (free_app hTf dots_free) hDf), parseL_qq, parseL_end hi ho]
          simp
        rw [e] at h2
        have hy : tl (parseF c) = P5 ++ (T ++ [46, 46, 46] ++ D ++ 34 :: tl inner) := by rw [h2, tl_mk]
        obtain ⟨h3, h4⟩ := head_whole hy
        rw [read2_tt h1 h3, h4, parseL_end (free_app (free_app hTf dots_free) hDf) hi, due2_e (by omega) (by omega)]
        refine pair_eq rfl ?_
        rw [tl_mk, crammed_tl (e := 11) (p := p' + 5) (q := q' + 5) (by omega) hs hpq (by omega) (by decide) (by omega), ← hT, ← hD]
        rw [show p' - [50, 53, 55, 32, 34, 34].length = p' + 5 - 11 by simp only [List.length_cons, List.length_nil]; omega, show nm.length + 12 - q' - [50, 53, 55, 32, 34, 34].length = nm.length - (q' + 5 - 11) by simp only [List.length_cons, List.length_nil]; omega]
      · by_cases h5' : p' = 5
        · subst h5'
          rw [show List.take 5 ([50, 53, 55, 32, 34, 34] ++ (tl nm ++ 34 :: 34 :: tl inner)) = ([50, 53, 55, 32, 34] : List Nat) from rfl] at h2
          generalize ([50, 53, 55, 32, 34, 34] ++ (tl nm ++ 34 :: 34 :: tl inner)).drop (nm.length + 12 - q') = D at h2
          have e : parseL ([50, 53, 55, 32, 34] ++ [46, 46, 46] ++ D ++ 34 :: tl outer) = [50, 53, 55, 32] := by
            rw [show [50, 53, 55, 32, 34] ++ [46, 46, 46] ++ D ++ 34 :: tl outer = [50, 53, 55, 32] ++ (34 :: 46 :: ([46, 46] ++ D ++ 34 :: tl outer)) by simp, parseL_app (by decide), parseL_qe (by decide)]; rfl
          rw [e] at h2
          have hy : tl (parseF c) = [50, 53, 55, 32] := by rw [h2, tl_mk]
          rw [read2_tt h1 (is257_iff.mpr (by rw [hy]; rfl)), parseF_shut (by rw [hy]; decide), due2_c (by omega) hw' (by omega) (by omega)]
        · have hT : ([50, 53, 55, 32, 34, 34] ++ (tl nm ++ 34 :: 34 :: tl inner)).take p' = P5.take p' := by
            have : p' = 0 ∨ p' = 1 ∨ p' = 2 ∨ p' = 3 ∨ p' = 4 := by omega
            rcases this with rfl | rfl | rfl | rfl | rfl <;> rfl
          have hTf : 34 ∉ P5.take p' := by
            have : p' = 0 ∨ p' = 1 ∨ p' = 2 ∨ p' = 3 ∨ p' = 4 := by omega
            rcases this with rfl | rfl | rfl | rfl | rfl <;> decide
          rw [hT, show [50, 53, 55, 32, 34, 34] ++ (tl nm ++ 34 :: 34 :: tl inner) = ([50, 53, 55, 32, 34, 34] ++ tl nm ++ [34]) ++ 34 :: tl inner by simp, drop_tail (by simp only [List.length_append, List.length_cons, List.length_nil]; omega)] at h2
          have hd : nm.length + 12 - q' - ([50, 53, 55, 32, 34, 34] ++ tl nm ++ [34]).length = 5 - q' := by simp only [List.length_append, List.length_cons, List.length_nil]; omega
          rw [hd] at h2
          by_cases hq5 : q' = 5
          · -- one of the closing marks is left
            subst hq5
            have e : parseL (P5.take p' ++ [46, 46, 46] ++ (34 :: tl inner).drop (5 - 5) ++ 34 :: tl outer) = P5.take p' ++ [46, 46, 46] := by
              cases hti : tl inner with
              | nil => rw [hti] at li; simp at li; omega
              | cons a r =>
                have ha : a ≠ 34 := fun e => hi (by rw [hti, e]; exact List.mem_cons_self)
                rw [show P5.take p' ++ [46, 46, 46] ++ (34 :: a :: r).drop (5 - 5) ++ 34 :: tl outer = (P5.take p' ++ [46, 46, 46]) ++ (34 :: a :: (r ++ 34 :: tl outer)) by simp, parseL_app (free_app hTf dots_free), parseL_qe ha, List.append_nil]
            rw [e] at h2
            have hy : tl (parseF c) = P5.take p' ++ [46, 46, 46] ++ [] := by rw [h2, tl_mk, List.append_nil]
            obtain ⟨h3, h4⟩ := head_mid (by omega) (by omega) hy
            rw [read2_tt h1 h3, h4, due2_c (by omega) hw' (by omega) (by omega)]
          · rw [show 5 - q' = (4 - q') + 1 by omega, List.drop_succ_cons, parseL_end (free_app (free_app hTf dots_free) (free_drop hi _)) ho] at h2
            have hy : tl (parseF c) = P5.take p' ++ [46, 46, 46] ++ (tl inner).drop (4 - q') := by rw [h2, tl_mk]
            by_cases h3' : 3 ≤ p'
            · obtain ⟨h3, h4⟩ := head_mid h3' (by omega) hy
              rw [read2_tt h1 h3, h4, due2_c (by omega) hw' (by omega) (by omega)]
            · have hlow : P5.take p' = [50, 53, 55].take p' := by
                have : p' = 0 ∨ p' = 1 ∨ p' = 2 := by omega
                rcases this with rfl | rfl | rfl <;> rfl
              rw [hlow] at hy
              rw [read2_tf h1 (head_low (by omega) hy), due2_d (by omega) hw' (by omega) (by omega)]
              refine pair_eq rfl ?_
              rw [hy, cut_tl hp' hq' (by omega) (by omega)]
    · by_cases h3 : 3 ≤ p
      · rw [take_mid (by omega)] at hc
        obtain ⟨h1, h2⟩ := head_mid h3 (by omega) hc
        have hne : ¬ is257 (parseF (cramF (rep (rep nm inner) outer) w)) := by rw [h2, is257_iff, empty_tl]; decide
        rw [read2_tf h1 hne, h2, due2_a hw' (by omega) (by omega)]
      · rw [take_low (by omega), show (P5 ++ (dbl (tl (rep nm inner)) ++ 34 :: tl outer)) = (P5 ++ dbl (tl (rep nm inner)) ++ [34]) ++ tl outer by simp, drop_tail (by simp only [List.length_append, List.length_cons, List.length_nil]; omega)] at hc
        rw [read2_f (head_low (by omega) hc), due2_b hw' (by omega) (by omega)]
        refine pair_eq rfl ?_
        rw [hc, cut_tl hp hq (by omega) (by omega)]
        congr 2
        simp only [List.length_append, List.length_cons, List.length_nil]; omega
  · rw [cram_whole hw]
    rw [hlen] at hw
    obtain ⟨h1, h2⟩ := head_whole hR
    rw [parseL_dbl _ ho] at h2
    have hy : tl (parseF (rep (rep nm inner) outer)) = P5 ++ (tl nm ++ 34 :: tl inner) := by rw [h2, tl_mk, hR1]
    obtain ⟨h3, h4⟩ := head_whole hy
    rw [read2_tt h1 h3, h4, due2_f (by omega), parseL_end hn hi, crammed_whole (by omega)]
end
end Mine
end
section -- NE
open PySem PySem.W PyProof.Rows PyProof PySem.Calls PyProof.V PySem.Spec
namespace Mine
/-- code points that a text may hold -/
def Ok (l : List Nat) : Prop := ∀ c ∈ l, c < 1114112
theorem ok_str {x : Str} (h : Ok (tl x)) : PyData.strOk x = true := by
  unfold PyData.strOk
  rw [Array.all_eq_true_iff_forall_mem]
  intro c hc
  exact decide_eq_true (h c (by simpa [tl] using hc))
theorem ok_sub {a b : List Nat} (h : Ok b) (hs : ∀ c ∈ a, c ∈ b) : Ok a := fun c hc => h c (hs c hc)
theorem ok_app {a b : List Nat} (h : Ok a) (h' : Ok b) : Ok (a ++ b) := fun c hc => (List.mem_append.mp hc).elim (h c) (h' c)
theorem slice_mem {x : Str} {l u : Option Int} {c : Nat} (h : c ∈ tl (Txt.slice x l u)) : c ∈ tl x := by
  have e : Txt.slice x l u = StrLaws.sliceText x l u := rfl
  rw [e] at h
  unfold StrLaws.sliceText at h
  split at h
  · exact h
  · simp only [tl, List.mem_filterMap] at h
    obtain ⟨i, _, hi⟩ := h
    have := Array.mem_of_getElem? hi
    simpa [tl] using this
theorem ok_slice {x : Str} {l u : Option Int} (h : Ok (tl x)) : Ok (tl (Txt.slice x l u)) := ok_sub h fun _ hc => slice_mem hc
theorem ok_257 : Ok (tl (Str.ofString "257")) := by
  rw [show tl (Str.ofString "257") = [50, 53, 55] by decide +kernel]; intro c hc; simp at hc; omega
theorem ok_dots : Ok (tl (Str.ofString "...")) := by
  rw [dots_tl]; intro c hc; simp at hc; omega
theorem ok_none : Ok (tl (Str.ofString "")) := by
  rw [show tl (Str.ofString "") = [] by decide]; intro c hc; cases hc
theorem ok_cut {t : Str} {r : Int} (h : Ok (tl t)) : Ok (tl (cutF t r)) := by
  unfold cutF
  rw [tl_append, tl_append]
  exact ok_app (ok_app (ok_slice ok_257) ok_dots) (ok_slice h)
theorem ok_crammed {nm : Str} {r : Int} (h : Ok (tl nm)) : Ok (tl (crammedF nm r)) := by
  unfold crammedF
  split
  · exact h
  · rw [tl_mk]
    exact ok_app (ok_app (ok_sub h fun _ hc => List.mem_of_mem_take hc) (dots_tl ▸ ok_dots)) (ok_sub h fun _ hc => List.mem_of_mem_drop hc)
theorem ok_due1 {nm inner : Str} {r : Int} (hn : Ok (tl nm)) (hi : Ok (tl inner)) : PyData.strOk (due1F nm inner r).2 = true := by
  refine ok_str ?_
  unfold due1F
  split
  · split
    · exact ok_none
    · exact ok_cut hi
  · exact ok_crammed hn
theorem ok_due2 {nm outer inner : Str} {r : Int} (hn : Ok (tl nm)) (ho : Ok (tl outer)) (hi : Ok (tl inner)) : PyData.strOk (due2F nm outer inner r).2 = true := by
  refine ok_str ?_
  unfold due2F
  split
  · split
    · exact ok_none
    · exact ok_cut ho
  · split
    · split
      · exact ok_none
      · exact ok_cut hi
    · exact ok_crammed hn
section
variable {prog : Program} {w : World} {A : Around} {E : Value → Shared → Prop} {s : Shared} {h₀ : Heap} {L a b : Addr} {news : List (Addr × Obj)} {Q : Value → Shared → Prop}
theorem pair_eqv (k : Int) (y : Str) : PyData.eqv (.tuple [.int k, .str y]) (.tuple [.int k, .str y]) = true := by simp [PyData.eqv, PyData.eqvAll]
theorem pair_shaped (k : Int) {y : Str} (hy : PyData.strOk y = true) : SeqAt.shaped (.tuple [.int k, .str y]) = true := by
  simp [SeqAt.shaped, PyData.canLay0, PyData.canLayAll0, PyData.depth, PyData.depthAll, hy]
theorem ne_pairs {p p' : Int × Str} {t t' u u' : Tok} (N : News h₀ L s.heap news) (ha : (a, pairObj p.1 t p.2 u) ∈ news) (hb : (b, pairObj p'.1 t' p'.2 u') ∈ news) (e : p = p') (hy : PyData.strOk p'.2 = true) (hu : A.units + 64 < cLine) (h : Q (.bool false) s) :
    wpAny (model prog w) A (compareOp .NotEq (.ref a) (.ref b)) Q E s := by
  subst e
  refine ne_dataH (da := .tuple [.int p.1, .str p.2]) (db := .tuple [.int p.1, .str p.2]) (reads_tuple_at (News.get N ha) rfl rfl (.cons (Reads.int _ _) (.cons (Reads.str _ _) .nil))) (reads_tuple_at (News.get N hb) rfl rfl (.cons (Reads.int _ _) (.cons (Reads.str _ _) .nil))) (pair_shaped _ hy) (pair_shaped _ hy) hu ?_
  rw [pair_eqv]; exact h
end
end Mine
end
section -- SC
open PySem PySem.W PyProof.Rows PyProof
namespace Mine
section
variable {prog : Program} {w : World} {A : Around} {E : Value → Shared → Prop} {s : Shared} {env : Env} {h₀ : Heap} {x : Str} {body : List Stmt} {Q : Flow → Shared → Prop}
def ScanEnd (h₀ : Heap) (L : Addr) (x : Str) (m₀ : Str → Option Value) (news : List (Addr × Obj)) (s s₂ : Shared) : Prop :=
  ∃ h' tk m', s₂ = { s with heap := h', toks := tk } ∧ Fr h₀ L h' m' ∧ (∀ y, y ≠ x → m' y = m₀ y) ∧ News h₀ L h' news
def ScanPost (h₀ : Heap) (L : Addr) (x : Str) (m₀ : Str → Option Value) (news : List (Addr × Obj)) (s : Shared) (Q : Flow → Shared → Prop) (f : Flow) (s₂ : Shared) : Prop :=
  match f with
  | .ret v => Q (.ret v) s₂
  | .brk => Q .next s₂
  | _ => ScanEnd h₀ L x m₀ news s s₂
theorem scan_end {L : Addr} {m₀ : Str → Option Value} {news rest : List (Addr × Obj)} {h' : Heap} {tk : Nat} {v : Value} (F : Fr h₀ L h' (fun y => if y = x then some v else m₀ y)) (N : News h₀ L h' rest) (sub : ∀ p ∈ news, p ∈ rest) :
    ScanEnd h₀ L x m₀ news s { s with heap := h', toks := tk } := ⟨h', tk, _, rfl, F, fun _ hy => if_neg hy, fun p hp => N p (sub p hp)⟩
theorem frame_off {L : Addr} {h : Heap} {m₀ m₁ : Str → Option Value} {v : Option Value} (e : ∀ y, y ≠ x → m₁ y = m₀ y) (F : Fr h₀ L h (fun y => if y = x then v else m₁ y)) : Fr h₀ L h (fun y => if y = x then v else m₀ y) := by
  have : (fun y => if y = x then v else m₀ y) = (fun y => if y = x then v else m₁ y) := by
    funext y
    by_cases hy : y = x
    · rw [if_pos hy, if_pos hy]
    · rw [if_neg hy, if_neg hy, e y hy]
  rw [this]; exact F
theorem frame_on {L : Addr} {h : Heap} {m₀ m₁ : Str → Option Value} (e : ∀ y, y ≠ x → m₁ y = m₀ y) (F : Fr h₀ L h m₁) : Fr h₀ L h (fun y => if y = x then m₁ x else m₀ y) := by
  have : (fun y => if y = x then m₁ x else m₀ y) = m₁ := by
    funext y
    by_cases hy : y = x
    · rw [if_pos hy, hy]
    · rw [if_neg hy, e y hy]
  rw [this]; exact F
/-- a loop over a list of ints of the ledger whose turns change nothing but the loop's own name -/
theorem iter_scan {l : Addr} {vs : List Value} {ns : List Int} {nn : Nat} {m₀ : Str → Option Value} {news : List (Addr × Obj)}
    (hh : A.handled = none) (hl : (l, listOf vs.toArray nn) ∈ news) (hi : IntsAre vs ns) (F : Fr h₀ env.locals s.heap m₀) (N : News h₀ env.locals s.heap news)
    (turn : ∀ n t h tk own, Fr h₀ env.locals h (fun y => if y = x then some (.int n t) else m₀ y) → News h₀ env.locals h (news ++ own) →
      wpAny (model prog w) A (execs body env) (ScanPost h₀ env.locals x m₀ (news ++ own) { s with heap := h, toks := tk } Q) E { s with heap := h, toks := tk })
    (done : ∀ u h tk, Fr h₀ env.locals h (fun y => if y = x then u else m₀ y) → News h₀ env.locals h news → Q .next { s with heap := h, toks := tk }) :
    wpAny (model prog w) A (pyIter (.ref l)) (fun it s₂ => LoopAtV prog w A h₀ env x body Q E it s₂) E s := by
  refine iter_invNL (fun _ m nx => nx = news ∧ ∀ y, y ≠ x → m y = m₀ y) hh hl hi F N ⟨rfl, fun _ _ => rfl⟩ ?_ ?_
  · rintro i n t m₁ nx h tk own _ _ _ _ ⟨rfl, e⟩ F₁ N₁
    refine wpAny_mono (turn n t h tk own (frame_off e F₁) N₁) (fun f s₂ p => ?_) fun _ _ x => x
    have up : ScanEnd h₀ env.locals x m₀ (nx ++ own) { s with heap := h, toks := tk } s₂ →
        InvEndN h₀ env.locals (fun m' nx' => (l, listOf vs.toArray nn) ∈ nx' ∧ nx' = nx ∧ ∀ y, y ≠ x → m' y = m₀ y) own (nx.map (·.1)) { s with heap := h, toks := tk } s₂ := by
      rintro ⟨h', tk', m', e', F', hm, N'⟩
      exact ⟨h', tk', m', nx ++ own, nx, e', F', N', fun p hp => List.mem_append_left _ hp, fun p hp => List.mem_append_right _ hp, rfl, hl, rfl, hm⟩
    cases f with
    | ret v => exact p
    | brk => exact p
    | next => exact up p
    | cont => exact up p
  · rintro m₁ nx h tk _ ⟨rfl, e⟩ F₁ N₁
    exact done (m₁ x) h tk (frame_on e F₁) N₁
end
theorem news_dup {h₀ h : Heap} {L : Addr} {news : List (Addr × Obj)} {p : Addr × Obj} (N : News h₀ L h news) (hp : p ∈ news) : News h₀ L h (p :: news) := fun q hq => N q ((List.mem_cons.mp hq).elim (fun e => e ▸ hp) id)
end Mine
end
section -- JS
open PySem PySem.W PyProof.Rows PyProof PyProof.V
namespace Mine
theorem sgn_len (x : Int) : (sgnF x).length = 1 := by
  unfold sgnF
  split
  · rw [← tl_len]; rfl
  · rfl
theorem sgn_good (x : Int) : ∀ c ∈ tl (sgnF x), c ≠ 34 ∧ c < 1114112 := by
  have h0 : 0 ≤ x.fmod 6 := Int.fmod_nonneg_of_pos _ (by decide)
  unfold sgnF
  split
  · rename_i h
    have hl : (Str.ofString "a. 27").length = 5 := by decide
    have ht : tl (Str.ofString "a. 27") = [97, 46, 32, 50, 55] := by decide +kernel
    intro c hc
    rw [tl_item h0 (by rw [hl]; exact h), ht] at hc
    have : (x.fmod 6).toNat = 0 ∨ (x.fmod 6).toNat = 1 ∨ (x.fmod 6).toNat = 2 ∨ (x.fmod 6).toNat = 3 ∨ (x.fmod 6).toNat = 4 := by omega
    rcases this with e | e | e | e | e <;> rw [e] at hc <;> simp at hc <;> omega
  · intro c hc
    have h1 : 0 ≤ (x.fdiv 6).fmod 1000 := Int.fmod_nonneg_of_pos _ (by decide)
    have h2 : (x.fdiv 6).fmod 1000 < 1000 := Int.fmod_lt_of_pos _ (by decide)
    simp [tl] at hc
    omega
theorem join_good : ∀ ps : List Str, (∀ p ∈ ps, ∀ c ∈ tl p, c ≠ 34 ∧ c < 1114112) → ∀ c ∈ tl (Str.join (Str.ofString "") ps), c ≠ 34 ∧ c < 1114112
  | [], _ => fun c hc => nomatch (show c ∈ [] from hc)
  | [p], h => h p List.mem_cons_self
  | p :: q :: r, h => by
    have ih := join_good (q :: r) fun a ha => h a (List.mem_cons_of_mem _ ha)
    intro c hc
    have hc' : c ∈ tl (p ++ Str.ofString "" ++ Str.join (Str.ofString "") (q :: r)) := hc
    rw [tl_append, tl_append, show tl (Str.ofString "") = [] by decide, List.append_nil] at hc'
    exact (List.mem_append.mp hc').elim (h p List.mem_cons_self c) (ih c)
theorem join_sgn_good (l : List Int) : ∀ c ∈ tl (Txt.join (Str.ofString "") (l.map sgnF)), c ≠ 34 ∧ c < 1114112 := by
  have e : Txt.join (Str.ofString "") (l.map sgnF) = Str.join (Str.ofString "") (l.map sgnF) := StrLaws.glued_eq_join _ _
  rw [e]
  refine join_good _ fun p hp => ?_
  obtain ⟨a, _, rfl⟩ := List.mem_map.mp hp
  exact sgn_good a
theorem join_sgn {prog : Program} {w : World} {A : Around} {E : Value → Shared → Prop} {s : Shared} {t : Tok} {Q : Value → Shared → Prop} {D : Addr} {ys : List Value} {l : List Int}
    (hl : s.heap.IsList D ys.toArray) (hc : CarriedAll ys (l.map fun a => PyData.str (sgnF a))) (hn : l.length ≤ 1048576)
    (h : ∀ j t' k, j.length = l.length → 34 ∉ tl j → Ok (tl j) → Q (.str j t') { s with toks := k }) : wpAny (model prog w) A (call (.builtin "str.join") [.str (Str.ofString "") t, .ref D]) Q E s :=
  KT.join_1 hl hc (fun a _ => sgn_len a) hn fun t' k e => h _ t' k e (fun m => (join_sgn_good l 34 m).1 rfl) fun c hc => (join_sgn_good l c hc).2
theorem abcd_tl : tl (Str.ofString "abcd") = [97, 98, 99, 100] := by decide +kernel
theorem abcd_len : (Str.ofString "abcd").length = 4 := by decide
theorem abcd_free {j : Str} (h : 34 ∉ tl j) : 34 ∉ tl (Str.ofString "abcd" ++ j) := by
  rw [tl_append, abcd_tl]
  exact fun e => (List.mem_append.mp e).elim (by decide) h
theorem abcd_ok {j : Str} (h : Ok (tl j)) : Ok (tl (Str.ofString "abcd" ++ j)) := by
  rw [tl_append, abcd_tl]
  exact ok_app (fun c hc => by simp at hc; omega) h
end Mine
end
section -- W2
open PySem PySem.W PyProof.Rows PyProof
namespace Mine
noncomputable def lawTail : List Stmt := match PySem.Challenge.pw_pg0026_01.main.body.getLast? with
  | some (.FunctionDef _ _ body _ _ _ _ _ _ _) => body.drop 3
  | _ => []
noncomputable def lawScope : Scope := match PySem.Challenge.pw_pg0026_01.main.body.getLast? with
  | some (.FunctionDef _ _ _ _ _ _ scope _ _ _) => scope
  | _ => default
def lawM (l : Addr) (nm outer inner : Str) (tn to ti : Tok) : Str → Option Value := fun y =>
  if y = Str.ofString "inner" then some (.str inner ti) else if y = Str.ofString "outer" then some (.str outer to) else if y = Str.ofString "name" then some (.str nm tn) else List.lookup y [(Str.ofString "script", Value.ref l)]
theorem cramF_fit {x : Str} {w : Int} (h : x.length ≤ 400) : (cramF x w).length ≤ 1000 := by
  unfold cramF
  split
  · have h1 := Txt.length_slice_le x none (some (max0 ((w - 3).fdiv 2)))
    have h2 := Txt.length_slice_le x (some ((x.length : Int) - max0 (w - 3 - max0 ((w - 3).fdiv 2)))) none
    have h3 : (Str.ofString "...").length = 3 := by decide
    rw [len_app, len_app]; omega
  · omega
local macro_rules | `(tactic| walk_at "exec For Name Subscript cons nil") => `(tactic| (k_here; (rename Fr _ _ _ _ => lF'); (with_unfolding_all refine' For_turns lF' ?_; k_whole)))
local macro_rules | `(tactic| walk_at "call ref") => `(tactic| (k_here; (with_reducible show wpAny _ _ (call (Value.ref 53) [Value.str _ _, Value.str _ _, Value.str _ _]) _ _ _); k_dflt (refine' repl_call _ _ _ _ _ _ _ _ _ ?hx _ _ _ _ _ _ _ _ _ _ _ _ _ _ _ _ ?k1 ?k2 ?k3 ?k4 ?k5 ?k6 ?k8 ?k9 ?_; (case k1 => k_asm); (case k2 => k_asm); (case k3 => k_asm); (case k4 => k_asm); (case k5 => k_asm); (case k6 => exact rfl); (case k8 => ktr_room); (case k9 => ktr_units); (case hx => omega)); (intro t9 h9 tk9 F9 N9 l9); (try dsimp only); (try k_fold)))
local macro_rules | `(tactic| walk_at "exec For Name BinOp cons nil") => `(tactic| (k_here; (rename Fr _ _ _ _ => lF'); (with_unfolding_all refine' For_invVF lF' ?k1 ?k2 ?_; (case k1 => exact rfl); (case k2 => exact rfl); k_whole)))
local macro_rules | `(tactic| walk_at "pyIter ref") => `(tactic| (k_here; (with_reducible show wpAny _ _ (pyIter (Value.ref _)) (fun it s₂ => LoopAtV _ _ _ _ _ _ _ _ _ it s₂) _ _); (rename Fr _ _ _ _ => lF'); (rename News _ _ _ _ => lN'); (with_unfolding_all refine' iter_scan ?hh ?hl ?hi lF' lN' ?_ ?_; (case hh => rfl); (case hl => k_mem); (case hi => assumption)); clear lF' lN'; (intro n9 t9 h9 tk9 own9 F9 N9); (simp only [List.cons_append, List.nil_append] at N9); (try k_fold); rotate_left; (intro u9 h9 tk9 F9 N9); (try dsimp only); rotate_left))
local macro_rules | `(tactic| walk_at "ScanPost") => `(tactic| (dsimp only [ScanPost]))
local macro_rules | `(tactic| walk_at "ScanEnd") => `(tactic| exact scan_end (by assumption) (by assumption) (fun _ h => by repeat (first | exact h | refine List.Mem.tail _ ?_)))
local macro_rules | `(tactic| walk_at "call ref") => `(tactic| (k_here; (with_reducible show wpAny _ _ (call (Value.ref 60) [Value.str _ _, Value.int _ _]) _ _ _); k_dflt (refine' cram_call _ _ _ _ _ _ _ _ _ _ _ _ _ _ _ _ _ _ _ _ _ _ _ _ _ _ ?k1 ?k2 ?k3 ?k4 ?k5 ?k6 ?hx ?k8 ?k9 ?_; (case k1 => k_asm); (case k2 => k_asm); (case k3 => k_asm); (case k4 => k_asm); (case k5 => k_asm); (case k6 => exact rfl); (case k8 => ktr_room); (case k9 => ktr_units); (case hx => omega)); (intro t9 h9 tk9 F9 N9); (try dsimp only); (try k_fold)))
local macro_rules | `(tactic| walk_at "call ref") => `(tactic| (k_here; (with_reducible show wpAny _ _ (call (Value.ref 74) [Value.str _ _, Value.int _ _]) _ _ _); k_dflt (first
  | (refine' read1_call _ _ _ _ _ _ _ _ ?hx _ _ _ _ _ _ _ _ _ _ _ _ _ _ _ ?k1 ?k2 ?k3 ?k4 ?k5 ?k3b ?k5b ?k6 ?k8 ?k9 ?_; (case k1 => k_asm); (case k2 => k_asm); (case k3 => k_asm); (case k4 => k_asm); (case k5 => k_asm); (case k6 => exact rfl); (case k8 => ktr_room); (case k9 => ktr_units); (case k3b => k_asm); (case k5b => k_asm); (case hx => exact cramF_fit (by omega)))
  | (refine' read2_call _ _ _ _ _ _ _ _ ?hx _ _ _ _ _ _ _ _ _ _ _ _ _ _ _ ?k1 ?k2 ?k3 ?k4 ?k5 ?k3b ?k5b ?k6 ?k8 ?k9 ?_; (case k1 => k_asm); (case k2 => k_asm); (case k3 => k_asm); (case k4 => k_asm); (case k5 => k_asm); (case k6 => exact rfl); (case k8 => ktr_room); (case k9 => ktr_units); (case k3b => k_asm); (case k5b => k_asm); (case hx => exact cramF_fit (by omega)))); (intro r9 t9 u9 h9 tk9 F9 N9); (try dsimp only); (try k_fold)))
local macro_rules | `(tactic| walk_at "call ref") => `(tactic| (k_here; (with_reducible show wpAny _ _ (call (Value.ref 88) [Value.str _ _, Value.ref _, Value.int _ _]) _ _ _); k_dflt (first
  | (refine' due1_call _ _ _ _ _ _ _ _ _ _ _ _ ?hx ?hy ?hz _ _ _ _ _ _ _ _ _ _ _ _ _ _ _ _ ?k1 ?k2 ?k3 ?k4 ?k5 ?k6 ?k8 ?k9 ?_; (case k4 => exact news_dup (by assumption) (by k_mem)); (case k1 => k_asm); (case k2 => k_asm); (case k3 => k_asm); (case k5 => k_asm); (case k6 => exact rfl); (case k8 => ktr_room); (case k9 => ktr_units); (case hx => omega); (case hy => omega); (case hz => omega))
  | (refine' due2_call _ _ _ _ _ _ _ _ _ _ _ _ _ _ ?hx ?hy ?hz ?hv _ _ _ _ _ _ _ _ _ _ _ _ _ _ _ _ ?k1 ?k2 ?k3 ?k4 ?k5 ?k6 ?k8 ?k9 ?_; (case k4 => exact news_dup (by assumption) (by k_mem)); (case k1 => k_asm); (case k2 => k_asm); (case k3 => k_asm); (case k5 => k_asm); (case k6 => exact rfl); (case k8 => ktr_room); (case k9 => ktr_units); (case hx => omega); (case hy => omega); (case hz => omega); (case hv => omega))); (intro r9 t9 u9 h9 tk9 F9 N9); (try dsimp only); (try k_fold)))
local macro_rules | `(tactic| walk_at "compareOp NotEq ref ref") => `(tactic| (k_here; (with_reducible show wpAny _ _ (compareOp CmpOp.NotEq (Value.ref _) (Value.ref _)) _ _ _); k_dflt (refine' ne_pairs ?N ?a ?b ?e ?y ?u ?_; (case N => assumption); (case a => k_mem); (case b => k_mem); (case e => first | with_reducible exact claim1 (by assumption) (by assumption) (by assumption) _ | with_reducible exact claim2 (by assumption) (by assumption) (by assumption) (by assumption) (by assumption) _); (case y => first | with_reducible exact ok_due1 (by assumption) (by assumption) | with_reducible exact ok_due2 (by assumption) (by assumption) (by assumption)); (case u => ke_room))))
set_option maxRecDepth 100000 in
set_option maxHeartbeats 8000000 in
theorem law_rest (w : World) (mean : ExcName → Option Value) (mg mb : Str → Option Value) (ns : List Int) (vs : List Value) (l : Addr) (nm outer inner : Str) (tn to ti : Tok) (hnm : nm.length ≤ 8) (hnm4 : 4 ≤ nm.length) (hout : outer.length = 4) (hin : inner.length = 4) (hns : ns.length ≤ 63) (hI : IntsAre vs ns) (hn : 34 ∉ tl nm) (ho : 34 ∉ tl outer) (hi : 34 ∉ tl inner) (hn' : Ok (tl nm)) (ho' : Ok (tl outer)) (hi' : Ok (tl inner)) :
   ∀ (fa : Addr) (cd : Value) (h₀ : Heap) (L : Addr) (s : Shared) (Q : Flow → Shared → Prop),
    Below callerA h₀ [] h₀ → Fr h₀ L s.heap (lawM l nm outer inner tn to ti) → News h₀ L s.heap [] → (KK w).In h₀ → Top VW LO mean mg mb h₀ → h₀.IsList l vs.toArray →
    (∀ h' tk' m', Fr h₀ L h' m' → Q (.ret (.bool true)) { s with heap := h', toks := tk' }) →
    wpAny (model PG w) (callerA.deeper (envOf (Str.ofString "law") lawScope L fa cd)) (execs lawTail (envOf (Str.ofString "law") lawScope L fa cd)) Q (fun _ _ => False) s := by
  dsimp only [PG, KK, VW, LO]
  w_strict (
  k_fill
  have hl1 : (Str.ofString "257 \"").length = 5 := by decide
  have hl2 : (Str.ofString "\"").length = 1 := by decide
  intro fa cd h₀ L s Q hB hF hN hK hT hL hret
  conv in (occs := *) lawScope => all_goals whnf
  conv in (occs := *) lawTail => all_goals whnf
  unfold lawM at hF
  k_steps
  all_goals exact hret _ _ _ (by assumption))
end Mine
end
section -- W1
open PySem PySem.W PyProof.Rows PyProof PyProof.V
namespace Mine
theorem min_four (x : Nat) : min 4 (x + (0 + 1 + 1 + 1 + 1)) = 4 := by omega
theorem take4_fits (l : List Int) : (List.take 4 l).length ≤ 1048576 := by rw [List.length_take]; omega
theorem law_rest' (w : World) (mean : ExcName → Option Value) (mg mb : Str → Option Value) {ns : List Int} {vs : List Value} {l : Addr} {j outer inner : Str} {tn to ti : Tok} {fa : Addr} {cd : Value} {h₀ : Heap} {L : Addr} {s : Shared} {Q : Flow → Shared → Prop} {E : Value → Shared → Prop} {k : Nat}
    (F : Fr h₀ L s.heap (lawM l (Str.ofString "abcd" ++ j) outer inner tn to ti)) (hL : h₀.IsList l vs.toArray) (hI : IntsAre vs ns) (hns : ¬ ((63 : Nat) : Int) < (ns.length : Int))
    (e1 : j.length = min 4 k) (e2 : outer.length = 4) (e3 : inner.length = 4)
    (hn : 34 ∉ tl j) (ho : 34 ∉ tl outer) (hi : 34 ∉ tl inner) (hn' : Ok (tl j)) (ho' : Ok (tl outer)) (hi' : Ok (tl inner))
    (B : Below callerA h₀ [] h₀) (K : (KK w).In h₀) (T : Top VW LO mean mg mb h₀)
    (hret : ∀ h' tk' m', Fr h₀ L h' m' → Q (.ret (.bool true)) { s with heap := h', toks := tk' }) :
    wpAny (model PG w) (callerA.deeper (envOf (Str.ofString "law") lawScope L fa cd)) (execs lawTail (envOf (Str.ofString "law") lawScope L fa cd)) Q E s := by
  have hl := len_app (Str.ofString "abcd") j
  rw [abcd_len] at hl
  exact wpAny_mono (law_rest w mean mg mb ns vs l _ outer inner tn to ti (by omega) (by omega) e2 e3 (by omega) hI (abcd_free hn) ho hi (abcd_ok hn') ho' hi' fa cd h₀ L s Q B F (fun _ hp => nomatch hp) K T hL hret) (fun _ _ x => x) fun _ _ x => x.elim
local macro_rules | `(tactic| walk_at "subscriptTail BinOp Slice ref ref") => `(tactic| walk_at "subscriptTail Name Slice ref ref")
local macro_rules | `(tactic| walk_at "call ref") => `(tactic| (k_here; (with_reducible show wpAny _ _ (call (Value.ref 67) [Value.int _ _]) _ _ _); k_dflt (refine' sign_call _ _ _ _ _ _ _ _ _ _ _ _ _ _ _ _ _ _ _ _ _ _ _ _ ?k1 ?k2 ?k3 ?k4 ?k5 ?k6 ?hx ?k8 ?k9 ?_; (case k1 => k_asm); (case k2 => k_asm); (case k3 => k_asm); (case k4 => k_asm); (case k5 => k_asm); (case k6 => exact rfl); (case k8 => ktr_room); (case k9 => ktr_units); (case hx => trivial)); (intro t9 h9 tk9 F9 N9); (try dsimp only); (try k_fold)))
local macro_rules | `(tactic| walk_at "eval ListComp") => `(tactic| (k_here; k_dflt (refine LCg.ListComp_U (F₀ := by k_asm) (by with_unfolding_all rfl) (by decide) (by rfl) (by decide) (by rfl) ?_)))
local macro_rules | `(tactic| walk_at "CompSrc") => `(tactic| (k_here; k_dflt (refine LCg.CompSrc.ledger (by rfl) (by k_asm) (by k_asm) (by k_mem) (by kcf_size) ?_; intro g'; (refine' kct_list sgnF (by first | assumption | l_ints) (fun k' t' I' oI' C' oC' D' m' ys' h' tk' E' hk' hC' hx' F' N' off' ne' hMark' => ?_) ?_); kcf_last)))
local macro_rules | `(tactic| walk_at "CompEnd") => `(tactic| (k_dflt (refine' LCg.CompEnd.intro ?F ?N _ (fun _ h => h) ?o ?s (kct_el rfl rfl rfl); (case F => assumption); (case N => assumption); (case o => assumption); (case s => exact Or.inr ⟨_, by k_mem, rfl, _, rfl⟩))))
local macro_rules | `(tactic| walk_at "call builtin:str.join") => `(tactic| (k_here; (with_reducible show wpAny _ _ (call (Value.builtin "str.join") [Value.str _ _, Value.ref _]) _ _ _); (with_reducible rename CarriedAll _ (List.map _ _) => ktC); (refine join_sgn (by first | assumption | is_list | exact News.isList (by k_asm) (by k_mem)) ktC (take4_fits _) ?_; intro j9 t9 k9 e9 f9 o9); (simp only [List.length_take, List.length_append, List.length_cons, List.length_nil] at e9); (try rw [min_four] at e9); clear ktC))
local macro_rules | `(tactic| walk_at "execs cons") => `(tactic| (k_here; (with_reducible show wpAny _ _ (execs (Stmt.For _ _ _ _ _ :: _) _) _ _ _); k_dflt (refine' law_rest' _ _ _ _ ?F ?hL ?hI ?hns ?e1 ?e2 ?e3 ?f1 ?f2 ?f3 ?o1 ?o2 ?o3 ?B ?K ?T ?_; (case F => assumption); (case hL => assumption); (case hI => assumption); (case hns => assumption); (case e1 => assumption); (case e2 => assumption); (case e3 => assumption); (case f1 => assumption); (case f2 => assumption); (case f3 => assumption); (case o1 => assumption); (case o2 => assumption); (case o3 => assumption); (case B => assumption); (case K => assumption); (case T => assumption)); (intro h9 tk9 m9 F9); (try dsimp only)))
set_option maxRecDepth 100000 in
set_option maxHeartbeats 8000000 in
theorem final : PySem.Challenge.rw_pg0026_01.Holds := Mine.hd (by
  w_strict (
  k_go0
  (all_goals try k_fold)
  k_steps))
end Mine
end
theorem PySem.Challenge.cw_pg0026_01_holds : PySem.Challenge.rw_pg0026_01.Holds :=
  Mine.final
