import PyProof.Rows.All
import Wide.All
import OpenK.AllK
import Wide.FinOn
import Lean
import PySem.Challenge.RW_xc0040_01
set_option Elab.async false
open PySem PySem.W PyProof.Rows
namespace Mine
section
set_option maxRecDepth 100000
set_option maxHeartbeats 0 in
open_top hd for PySem.Challenge.rw_xc0040_01
end
open PySem.Calls
section
set_option maxRecDepth 100000
set_option maxHeartbeats 8000000
section
variable {prog : Program} {w : World} {A : Around} {E : Value → Shared → Prop}

theorem sub_str_str : isSubtype (.type "str") (.type "str") = pure true := by rw [isSubtype_type]; kernel_rfl
theorem meta_str : typeOf (.type "str") = pure (.type "type") := by
  show _ = _
  kernel_rfl
theorem isType_str : isType (.type "str") = pure true := by rfl
theorem kind_iss_nested : builtinKind "issubclass.nested" = none := by decide +kernel
theorem plain_iss_nested : plainId "issubclass.nested" = true := by decide +kernel
theorem args_iss_nested (a b c : Value) : argsOk "issubclass.nested" ⟨[a, b, c], []⟩ := by unfold argsOk; kernel_rfl

theorem iss_nested_one {k : Value} {dep : Int} {tk : Tok} {s : Shared} {Q : Fin → Shared → Prop} (hk : k = .int dep tk)
    (hq : Q (.done (.ret (.bool true))) s) :
    wpAny (model prog w) A (Builtin.«issubclass.nested» ⟨[.type "str", .type "str", k], []⟩) Q E s := by
  subst hk
  have hm := meta_str
  have hself := sub_str_str
  repeat (any_goals (first | assumption | (rw [if_pos hm]) | (rw [hself]) | wp_step))

theorem iss_nested_meets (dep : Int) (tk : Tok) : Meets (Builtin.«issubclass.nested» ⟨[.type "str", .type "str", .int dep tk], []⟩) (fun _ R s => R (.ok (.ret (.bool true))) s) :=
  fun _ _ _ _ _ hs => iss_nested_one rfl hs

theorem iss_nested_tup {tp : Addr} {tk : Tok} {s : Shared} {Q : Fin → Shared → Prop} {cs : List Value} (hcs : cs = [.type "str", .type "bytes"])
    (htp : s.heap.get? tp = some { cls := .type "tuple", data := .seq cs.toArray })
    (hq : ∀ tk', Q (.done (.ret (.bool true))) { s with toks := tk' }) :
    wpAny (model prog w) A (Builtin.«issubclass.nested» ⟨[.type "str", .ref tp, .int 0 tk], []⟩) Q E s := by
  obtain ⟨h, g, d, t, os⟩ := s
  have hT2 : (⟨h, g, d, t, os⟩ : Shared).TypeIs (.ref tp) "tuple" := ⟨_, htp, rfl⟩
  have f1 := F.isi_sub_tuple
  repeat (any_goals (first | assumption | wp_step))
  refine wpAny_arrayLoop ?_
  simp only [Option.getD_some, List.toList_toArray]
  subst hcs
  rw [List.forIn_cons]
  refine wpAny_bind (wpAny_bind (call_function_meets kind_iss_nested plain_iss_nested F.entry_issubclass_nested (args_iss_nested _ _ _) (iss_nested_meets _ _) ?_))
  show wpAny _ _ (truthy (.bool true) >>= _) _ _ _
  refine wpAny_bind (m := truthy (.bool true)) (wpAny_pure ?_)
  repeat (any_goals (first | assumption | wp_step))
  exact hq _

theorem iss_meets {tp : Addr} : Meets (Builtin.«issubclass» ⟨[.type "str", .ref tp], []⟩)
    (fun _ R s => s.heap.get? tp = some { cls := .type "tuple", data := .seq #[.type "str", .type "bytes"] } ∧ ∀ tk', R (.ok (.ret (.bool true))) { s with toks := tk' }) :=
  fun _ _ _ _ _ hs => issubclass_outer (iss_nested_tup rfl hs.1 hs.2)

theorem iss_call {h₀ : Heap} {L tp : Addr} {news : List (Addr × Obj)} {s : Shared} {Q : Value → Shared → Prop} (N : News h₀ L s.heap news)
    (hm : (tp, ({ cls := .type "tuple", data := .seq #[.type "str", .type "bytes"] } : Obj)) ∈ news) (h : ∀ tk, Q (.bool true) { s with toks := tk }) :
    wpAny (model prog w) A (call (.builtin "issubclass") [.type "str", .ref tp]) Q E s :=
  call_issubclass iss_meets ⟨(N _ hm).1, h⟩
end
end
section
theorem calmC0 : True := by w_top off; trivial
set_option maxRecDepth 100000
set_option maxHeartbeats 8000000

noncomputable abbrev PR : Program := Challenge.rw_xc0040_01.row.prog
/-- what a call of the def at f with vs gives: the text x; lv: how many frames it goes down -/
noncomputable abbrev ClS (lv : Nat) (w : World) (p : Program) (loose : List Str) (mean : ExcName → Option Value) (mg mb : Str → Option Value) (f : Addr) (news : List (Addr × Obj)) (pre : Prop) (vs : List Value) (x : Str) : Prop :=
  ∀ (dp un : Nat) (gd : Option (List Code)) (cn : Str) (cs : Scope) (a : Addr) (ccd : Value) (cl : List (Str × Addr)) (outer : List Env) (A₀ : Around) (base h₀ : Heap) (L : Addr) (m : Str → Option Value) (s : Shared) (Q E : Value → Shared → Prop),
    Below A₀ base outer h₀ → Fr h₀ L s.heap m → (hd.heap_39 w.params).In h₀ → News h₀ L s.heap news → Top p loose mean mg mb h₀ → cs.kind = .function →
    pre → dp + lv < recursionLimit → un + 8 * lv < cLine → (∀ (t : Tok) (h' : Heap) (tk' : Nat), Fr h₀ L h' m → News h₀ L h' news → Q (.str x t) { s with heap := h', toks := tk' }) →
      wpAny (model Challenge.rw_xc0040_01.row.prog w) (ktrTop dp un gd cn cs L a ccd cl outer) (call (.ref f) vs) Q E s

theorem un_le {un k lv : Nat} (h : un + 8 * lv < cLine) (e : k ≤ 8 * lv) : un + k < cLine := Nat.lt_of_le_of_lt (Nat.add_le_add_left e un) h
theorem dp_le {dp k lv : Nat} (h : dp + lv < recursionLimit) (e : k ≤ lv) : dp + k < recursionLimit := Nat.lt_of_le_of_lt (Nat.add_le_add_left e dp) h
noncomputable abbrev tupO (vs : List Value) : Obj := { cls := .type "tuple", data := .seq vs.toArray }
/-- the same, where a new tuple of texts comes back -/
noncomputable abbrev ClT (lv : Nat) (w : World) (p : Program) (loose : List Str) (mean : ExcName → Option Value) (mg mb : Str → Option Value) (f : Addr) (news : List (Addr × Obj)) (pre : Prop) (vs : List Value) (xs : List Str) : Prop :=
  ∀ (dp un : Nat) (gd : Option (List Code)) (cn : Str) (cs : Scope) (a : Addr) (ccd : Value) (cl : List (Str × Addr)) (outer : List Env) (A₀ : Around) (base h₀ : Heap) (L : Addr) (m : Str → Option Value) (s : Shared) (Q E : Value → Shared → Prop),
    Below A₀ base outer h₀ → Fr h₀ L s.heap m → (hd.heap_39 w.params).In h₀ → News h₀ L s.heap news → Top p loose mean mg mb h₀ → cs.kind = .function →
    pre → dp + lv < recursionLimit → un + 8 * lv < cLine → (∀ (d : Addr) (ts : List Value) (h' : Heap) (tk' : Nat), Fr h₀ L h' m → News h₀ L h' ((d, tupO ts) :: news) → StrsAre ts xs → (∀ p ∈ news, p.1 < d) → Q (.ref d) { s with heap := h', toks := tk' }) →
      wpAny (model Challenge.rw_xc0040_01.row.prog w) (ktrTop dp un gd cn cs L a ccd cl outer) (call (.ref f) vs) Q E s

section
variable {lv : Nat} {w : World} {p : Program} {loose : List Str} {mean : ExcName → Option Value} {mg mb : Str → Option Value} {f : Addr} {news : List (Addr × Obj)} {pre : Prop} {vs : List Value} {x : Str} {xs : List Str}
    {dp un : Nat} {gd : Option (List Code)} {cn : Str} {cs : Scope} {a : Addr} {ccd : Value} {cl : List (Str × Addr)} {outer : List Env} {A₀ : Around} {base h₀ : Heap} {L : Addr} {m : Str → Option Value} {s : Shared} {Q E : Value → Shared → Prop}
theorem useS 
    (C : ClS lv w p loose mean mg mb f news pre vs x)
    (B : Below A₀ base outer h₀) (F : Fr h₀ L s.heap m) (X : (hd.heap_39 w.params).In h₀) (N : News h₀ L s.heap news) (T : Top p loose mean mg mb h₀) (hk : cs.kind = .function) (hp : pre) (hd : dp + lv < recursionLimit) (hu : un + 8 * lv < cLine)
    (ret : ∀ (t : Tok) (h' : Heap) (tk' : Nat), Fr h₀ L h' m → News h₀ L h' news → Q (.str x t) { s with heap := h', toks := tk' }) :
    wpAny (model Challenge.rw_xc0040_01.row.prog w) (ktrTop dp un gd cn cs L a ccd cl outer) (call (.ref f) vs) Q E s :=
  C dp un gd cn cs a ccd cl outer A₀ base h₀ L m s Q E B F X N T hk hp hd hu ret
theorem useT
    (C : ClT lv w p loose mean mg mb f news pre vs xs)
    (B : Below A₀ base outer h₀) (F : Fr h₀ L s.heap m) (X : (hd.heap_39 w.params).In h₀) (N : News h₀ L s.heap news) (T : Top p loose mean mg mb h₀) (hk : cs.kind = .function) (hp : pre) (hd : dp + lv < recursionLimit) (hu : un + 8 * lv < cLine)
    (ret : ∀ (d : Addr) (ts : List Value) (h' : Heap) (tk' : Nat), Fr h₀ L h' m → News h₀ L h' ((d, tupO ts) :: news) → StrsAre ts xs → (∀ p ∈ news, p.1 < d) → Q (.ref d) { s with heap := h', toks := tk' }) :
    wpAny (model Challenge.rw_xc0040_01.row.prog w) (ktrTop dp un gd cn cs L a ccd cl outer) (call (.ref f) vs) Q E s :=
  C dp un gd cn cs a ccd cl outer A₀ base h₀ L m s Q E B F X N T hk hp hd hu ret
theorem endT {d : Addr} {ts : List Value} {h' : Heap} {tk' : Nat} {led : List (Addr × Obj)}
    (ret : ∀ (d : Addr) (ts : List Value) (h' : Heap) (tk' : Nat), Fr h₀ L h' m → News h₀ L h' ((d, tupO ts) :: news) → StrsAre ts xs → (∀ p ∈ news, p.1 < d) → Q (.ref d) { s with heap := h', toks := tk' })
    (F : Fr h₀ L h' m) (N : News h₀ L h' ((d, tupO ts) :: led)) (hs : ∀ p ∈ news, p ∈ led) (e : StrsAre ts xs) (hl : ∀ p ∈ news, p.1 < d) : Q (.ref d) { s with heap := h', toks := tk' } :=
  ret d ts h' tk' F (cb_drop N fun p hp => by
    rcases List.mem_cons.mp hp with rfl | hp
    · exact .head _
    · exact .tail _ (hs p hp)) e hl
theorem endS {x y : Str} {t : Tok} {h' : Heap} {tk' : Nat} {led : List (Addr × Obj)}
    (ret : ∀ (t : Tok) (h' : Heap) (tk' : Nat), Fr h₀ L h' m → News h₀ L h' news → Q (.str x t) { s with heap := h', toks := tk' })
    (e : y = x) (F : Fr h₀ L h' m) (N : News h₀ L h' led) (hs : ∀ p ∈ news, p ∈ led) : Q (.str y t) { s with heap := h', toks := tk' } := by
  subst e; exact ret t h' tk' F (cb_drop N hs)
end


section
variable (w : World) (p : Program) (loose : List Str) (mean : ExcName → Option Value) (mg mb : Str → Option Value) (news : List (Addr × Obj))
theorem fspath_ok (x : Str) (t : Tok) : ClS 1 w p loose mean mg mb 94 news True [.str x t] x := by
  ((dsimp only [ClS, ClT]; k_fill; intro dp un gd cn cs a ccd cl outer A₀ base h₀ L m s Q E B0 F0 X0 N0 T0 hk hp hdp hun hret; refine wpAny_call ?_; k_dflt cell_enter))
  (repeat' (first
        | (k_unfold; (try dsimp only))
        | (k_end; wrow_close)
        | ((with_reducible show wpAny _ _ (exec _ _) _ _ _); k_fold)
        | (with_reducible ((with_reducible show wpAny _ _ (call (Value.builtin "issubclass") _ _) _ _ _); (k_here; k_dflt (refine' iss_call ?zqN ?zqm ?_; (case zqN => k_asm); (case zqm => k_mem)); intro tk9q; (try dsimp only))))
        | walk1
        | (dsimp only; walk1)
        | (leave1; (try dsimp only))
        | fail "no step"))
  all_goals cb_end hret
theorem get_sep_ok (x : Str) (t : Tok) : ClS 1 w p loose mean mg mb 108 news True [.str x t] (Str.ofString "/") := by
  ((dsimp only [ClS, ClT]; k_fill; intro dp un gd cn cs a ccd cl outer A₀ base h₀ L m s Q E B0 F0 X0 N0 T0 hk hp hdp hun hret; refine wpAny_call ?_; k_dflt cell_enter))
  (repeat' (first
        | (k_unfold; (try dsimp only))
        | (k_end; wrow_close)
        | ((with_reducible show wpAny _ _ (exec _ _) _ _ _); k_fold)
        | (with_reducible ((with_reducible show wpAny _ _ (call (Value.builtin "issubclass") _ _) _ _ _); (k_here; k_dflt (refine' iss_call ?zqN ?zqm ?_; (case zqN => k_asm); (case zqm => k_mem)); intro tk9q; (try dsimp only))))
        | walk1
        | (dsimp only; walk1)
        | (leave1; (try dsimp only))
        | fail "no step"))
  all_goals cb_end hret
end
end
section
theorem calmC1 : True := by w_top off; trivial
set_option maxRecDepth 100000
set_option maxHeartbeats 8000000
set_option linter.unusedSimpArgs false
noncomputable abbrev sl : Str := Str.ofString "/"
noncomputable def rootF (x : Str) : Str := if (Txt.slice x none (some 1) != sl) = true then Str.ofString "" else if (Txt.slice x (some 1) (some 2) != sl) = true then sl else if (Txt.slice x (some 2) (some 3) == sl) = true then sl else Txt.slice x none (some 2)
noncomputable def pathF (x : Str) : Str := if (Txt.slice x none (some 1) != sl) = true then x else if (Txt.slice x (some 1) (some 2) != sl) = true then Txt.slice x (some 1) none else if (Txt.slice x (some 2) (some 3) == sl) = true then Txt.slice x (some 1) none else Txt.slice x (some 2) none
noncomputable def headF (x : Str) : Str := Txt.slice x none (some (Txt.rfind x sl + 1))
noncomputable def tailF (x : Str) : Str := Txt.slice x (some (Txt.rfind x sl + 1)) none
noncomputable def dirF (x : Str) : Str := if ((headF x).length : Int) ≠ 0 then (if (headF x != Txt.mul sl ((headF x).length : Int)) = true then Txt.rstripChars (headF x) sl else headF x) else headF x
noncomputable def joinedF (x y : Str) : Str := if (Txt.slice y none (some 1) == sl) = true then y else if (x != Str.ofString "") = true then (if (Txt.item x ((x.length : Int) - 1) != sl) = true then x ++ sl ++ y else x ++ Str.ofString "" ++ y) else x ++ Str.ofString "" ++ y
section
variable {x y : Str}
theorem df1 (h : ((Txt.slice x none (some (Txt.rfind x sl + 1))).length : Int) ≠ 0) (h2 : (Txt.slice x none (some (Txt.rfind x sl + 1)) != Txt.mul sl ((Txt.slice x none (some (Txt.rfind x sl + 1))).length : Int)) = true) : dirF x = Txt.rstripChars (headF x) sl := (if_pos h).trans (if_pos h2)
theorem df2 (h : ((Txt.slice x none (some (Txt.rfind x sl + 1))).length : Int) ≠ 0) (h2 : (Txt.slice x none (some (Txt.rfind x sl + 1)) != Txt.mul sl ((Txt.slice x none (some (Txt.rfind x sl + 1))).length : Int)) = false) : dirF x = headF x := (if_pos h).trans (if_neg fun c => Bool.false_ne_true (h2.symm.trans c))
theorem df3 (h : ((Txt.slice x none (some (Txt.rfind x sl + 1))).length : Int) = 0) : dirF x = headF x := if_neg fun c => c h
theorem rp1 (h : (Txt.slice x none (some 1) != sl) = true) : rootF x = Str.ofString "" ∧ pathF x = x := ⟨if_pos h, if_pos h⟩
theorem rp2 (h : (Txt.slice x none (some 1) != sl) = false) (h2 : (Txt.slice x (some 1) (some 2) != sl) = true) : rootF x = sl ∧ pathF x = Txt.slice x (some 1) none :=
  have n : ¬ (Txt.slice x none (some 1) != sl) = true := fun c => Bool.false_ne_true (h.symm.trans c)
  ⟨(if_neg n).trans (if_pos h2), (if_neg n).trans (if_pos h2)⟩
theorem rp3 (h : (Txt.slice x none (some 1) != sl) = false) (h2 : (Txt.slice x (some 1) (some 2) != sl) = false) (h3 : (Txt.slice x (some 2) (some 3) == sl) = true) : rootF x = sl ∧ pathF x = Txt.slice x (some 1) none :=
  have n : ¬ (Txt.slice x none (some 1) != sl) = true := fun c => Bool.false_ne_true (h.symm.trans c)
  have n2 : ¬ (Txt.slice x (some 1) (some 2) != sl) = true := fun c => Bool.false_ne_true (h2.symm.trans c)
  ⟨(if_neg n).trans ((if_neg n2).trans (if_pos h3)), (if_neg n).trans ((if_neg n2).trans (if_pos h3))⟩
theorem rp4 (h : (Txt.slice x none (some 1) != sl) = false) (h2 : (Txt.slice x (some 1) (some 2) != sl) = false) (h3 : (Txt.slice x (some 2) (some 3) == sl) = false) : rootF x = Txt.slice x none (some 2) ∧ pathF x = Txt.slice x (some 2) none :=
  have n : ¬ (Txt.slice x none (some 1) != sl) = true := fun c => Bool.false_ne_true (h.symm.trans c)
  have n2 : ¬ (Txt.slice x (some 1) (some 2) != sl) = true := fun c => Bool.false_ne_true (h2.symm.trans c)
  have n3 : ¬ (Txt.slice x (some 2) (some 3) == sl) = true := fun c => Bool.false_ne_true (h3.symm.trans c)
  ⟨(if_neg n).trans ((if_neg n2).trans (if_neg n3)), (if_neg n).trans ((if_neg n2).trans (if_neg n3))⟩
theorem jf1 (h : (Txt.slice y none (some 1) == sl) = true) : joinedF x y = y := if_pos h
theorem jf2 (h : (Txt.slice y none (some 1) == sl) = false) (h2 : (x != Str.ofString "") = true) (h3 : (Txt.item x ((x.length : Int) - 1) != sl) = true) : joinedF x y = x ++ sl ++ y :=
  (if_neg fun c => Bool.false_ne_true (h.symm.trans c)).trans ((if_pos h2).trans (if_pos h3))
theorem jf3 (h : (Txt.slice y none (some 1) == sl) = false) (h2 : (x != Str.ofString "") = true) (h3 : (Txt.item x ((x.length : Int) - 1) != sl) = false) : joinedF x y = x ++ Str.ofString "" ++ y :=
  (if_neg fun c => Bool.false_ne_true (h.symm.trans c)).trans ((if_pos h2).trans (if_neg fun c => Bool.false_ne_true (h3.symm.trans c)))
theorem jf4 (h : (Txt.slice y none (some 1) == sl) = false) (h2 : (x != Str.ofString "") = false) : joinedF x y = x ++ Str.ofString "" ++ y :=
  (if_neg fun c => Bool.false_ne_true (h.symm.trans c)).trans (if_neg fun c => Bool.false_ne_true (h2.symm.trans c))
end
section
variable (w : World) (p : Program) (loose : List Str) (mean : ExcName → Option Value) (mg mb : Str → Option Value) (news : List (Addr × Obj))

theorem splitroot_ok (x : Str) (t : Tok) (h : x.length < 600) : ClT 2 w p loose mean mg mb 129 news True [.str x t] [Str.ofString "", rootF x, pathF x] := by
  ((dsimp only [ClS, ClT]; k_fill; intro dp un gd cn cs a ccd cl outer A₀ base h₀ L m s Q E B0 F0 X0 N0 T0 hk hp hdp hun hret; refine wpAny_call ?_; k_dflt cell_enter))
  (repeat' (first
        | (k_unfold; (try dsimp only))
        | (k_end; wrow_close)
        | ((first | with_reducible show wpAny _ _ (exec _ _) _ _ _ | with_reducible show wpAny _ _ (PySem.isTrue _ _ _) _ _ _); k_fold)
        | (with_reducible ((with_reducible show wpAny _ _ (call (Value.ref _) _ _) _ _ _); (k_here; k_dflt (first | refine' useS (fspath_ok _ _ _ _ _ _ _ _ _) ?zqk1 ?zqk2 ?zqk3 ?zqk4 ?zqk5 ?zqkK ?zqkp ?zqkd ?zqku ?_ | refine' useS (get_sep_ok _ _ _ _ _ _ _ _ _) ?zqk1 ?zqk2 ?zqk3 ?zqk4 ?zqk5 ?zqkK ?zqkp ?zqkd ?zqku ?_); (((case zqk1 => k_asm); (case zqk2 => k_asm); (case zqk3 => k_asm); (case zqk4 => k_asm); (case zqk5 => k_asm); (case zqkK => first | exact rfl | assumption); (case zqkp => first | trivial | assumption); (case zqkd => first | decide | (rw [Nat.add_assoc]; exact dp_le hdp (by decide)) | ktr_room); (case zqku => first | decide | (rw [Nat.add_assoc]; exact un_le hun (by decide)) | ktr_units))); intro t9q h9q tk9q F9q N9q; (try dsimp only); (try k_fold))))
        | walk1
        | (dsimp only; walk1)
        | (leave1; (try dsimp only))
        | fail "no step"))
  all_goals ((refine' endT ?zqr ?zqf ?zqn ?zqs ?_ ?zql; (case zqr => first | with_reducible assumption | assumption); (case zqf => k_asm); (case zqn => k_asm); (case zqs => ((intro pq hpq; first | with_reducible exact hpq | (refine List.mem_cons_of_mem _ ?_; with_reducible exact hpq) | (refine List.mem_cons_of_mem _ (List.mem_cons_of_mem _ ?_); with_reducible exact hpq) | (refine List.mem_cons_of_mem _ (List.mem_cons_of_mem _ (List.mem_cons_of_mem _ ?_)); with_reducible exact hpq) | (refine List.mem_cons_of_mem _ (List.mem_cons_of_mem _ (List.mem_cons_of_mem _ (List.mem_cons_of_mem _ ?_))); with_reducible exact hpq)))); (case zql => (first | assumption | (intro pq hpq; have h9q := ‹_ < _ ∧ AllLt _ _›; exact kst_ltOf h9q.2 pq hpq)))))
  all_goals (first
    | (rw [(rp1 (by with_reducible assumption)).1, (rp1 (by with_reducible assumption)).2]; exact StrsAre.cons _ _ (StrsAre.cons _ _ (StrsAre.cons _ _ StrsAre.nil)))
    | (rw [(rp2 (by with_reducible assumption) (by with_reducible assumption)).1, (rp2 (by with_reducible assumption) (by with_reducible assumption)).2]; exact StrsAre.cons _ _ (StrsAre.cons _ _ (StrsAre.cons _ _ StrsAre.nil)))
    | (rw [(rp3 (by with_reducible assumption) (by with_reducible assumption) (by with_reducible assumption)).1, (rp3 (by with_reducible assumption) (by with_reducible assumption) (by with_reducible assumption)).2]; exact StrsAre.cons _ _ (StrsAre.cons _ _ (StrsAre.cons _ _ StrsAre.nil)))
    | (rw [(rp4 (by with_reducible assumption) (by with_reducible assumption) (by with_reducible assumption)).1, (rp4 (by with_reducible assumption) (by with_reducible assumption) (by with_reducible assumption)).2]; exact StrsAre.cons _ _ (StrsAre.cons _ _ (StrsAre.cons _ _ StrsAre.nil))))

theorem split_ok (x : Str) (t : Tok) (h : x.length < 600)  : ClT 2 w p loose mean mg mb 122 news True [.str x t] [dirF x, tailF x] := by
  ((dsimp only [ClS, ClT]; k_fill; intro dp un gd cn cs a ccd cl outer A₀ base h₀ L m s Q E B0 F0 X0 N0 T0 hk hp hdp hun hret; refine wpAny_call ?_; k_dflt cell_enter))
  (repeat' (first
        | (k_unfold; (try dsimp only))
        | (k_end; wrow_close)
        | ((first | with_reducible show wpAny _ _ (exec _ _) _ _ _ | with_reducible show wpAny _ _ (PySem.isTrue _ _ _) _ _ _); k_fold)
        | (with_reducible ((with_reducible show wpAny _ _ (call (Value.ref _) _ _) _ _ _); (k_here; k_dflt (first | refine' useS (fspath_ok _ _ _ _ _ _ _ _ _) ?zqk1 ?zqk2 ?zqk3 ?zqk4 ?zqk5 ?zqkK ?zqkp ?zqkd ?zqku ?_ | refine' useS (get_sep_ok _ _ _ _ _ _ _ _ _) ?zqk1 ?zqk2 ?zqk3 ?zqk4 ?zqk5 ?zqkK ?zqkp ?zqkd ?zqku ?_); (((case zqk1 => k_asm); (case zqk2 => k_asm); (case zqk3 => k_asm); (case zqk4 => k_asm); (case zqk5 => k_asm); (case zqkK => first | exact rfl | assumption); (case zqkp => first | trivial | assumption); (case zqkd => first | decide | (rw [Nat.add_assoc]; exact dp_le hdp (by decide)) | ktr_room); (case zqku => first | decide | (rw [Nat.add_assoc]; exact un_le hun (by decide)) | ktr_units))); intro t9q h9q tk9q F9q N9q; (try dsimp only); (try k_fold))))
        | walk1
        | (dsimp only; walk1)
        | (leave1; (try dsimp only))
        | fail "no step"))
  all_goals ((refine' endT ?zqr ?zqf ?zqn ?zqs ?_ ?zql; (case zqr => first | with_reducible assumption | assumption); (case zqf => k_asm); (case zqn => k_asm); (case zqs => ((intro pq hpq; first | with_reducible exact hpq | (refine List.mem_cons_of_mem _ ?_; with_reducible exact hpq) | (refine List.mem_cons_of_mem _ (List.mem_cons_of_mem _ ?_); with_reducible exact hpq) | (refine List.mem_cons_of_mem _ (List.mem_cons_of_mem _ (List.mem_cons_of_mem _ ?_)); with_reducible exact hpq) | (refine List.mem_cons_of_mem _ (List.mem_cons_of_mem _ (List.mem_cons_of_mem _ (List.mem_cons_of_mem _ ?_))); with_reducible exact hpq)))); (case zql => (first | assumption | (intro pq hpq; have h9q := ‹_ < _ ∧ AllLt _ _›; exact kst_ltOf h9q.2 pq hpq)))))
  all_goals (first
    | (rw [df1 (by with_reducible assumption) (by with_reducible assumption)]; exact StrsAre.cons _ _ (StrsAre.cons _ _ StrsAre.nil))
    | (rw [df2 (by with_reducible assumption) (by with_reducible assumption)]; exact StrsAre.cons _ _ (StrsAre.cons _ _ StrsAre.nil))
    | (rw [df3 (by with_reducible assumption)]; exact StrsAre.cons _ _ (StrsAre.cons _ _ StrsAre.nil)))

theorem basename_ok (x : Str) (t : Tok)  (h : x.length < 600) : ClS 2 w p loose mean mg mb 136 news True [.str x t] (tailF x) := by
  ((dsimp only [ClS, ClT]; k_fill; intro dp un gd cn cs a ccd cl outer A₀ base h₀ L m s Q E B0 F0 X0 N0 T0 hk hp hdp hun hret; refine wpAny_call ?_; k_dflt cell_enter))
  (repeat' (first
        | (k_unfold; (try dsimp only))
        | (k_end; wrow_close)
        | ((first | with_reducible show wpAny _ _ (exec _ _) _ _ _ | with_reducible show wpAny _ _ (PySem.isTrue _ _ _) _ _ _); k_fold)
        | (with_reducible ((with_reducible show wpAny _ _ (call (Value.ref _) _ _) _ _ _); (k_here; k_dflt (first | refine' useS (fspath_ok _ _ _ _ _ _ _ _ _) ?zqk1 ?zqk2 ?zqk3 ?zqk4 ?zqk5 ?zqkK ?zqkp ?zqkd ?zqku ?_ | refine' useS (get_sep_ok _ _ _ _ _ _ _ _ _) ?zqk1 ?zqk2 ?zqk3 ?zqk4 ?zqk5 ?zqkK ?zqkp ?zqkd ?zqku ?_); (((case zqk1 => k_asm); (case zqk2 => k_asm); (case zqk3 => k_asm); (case zqk4 => k_asm); (case zqk5 => k_asm); (case zqkK => first | exact rfl | assumption); (case zqkp => first | trivial | assumption); (case zqkd => first | decide | (rw [Nat.add_assoc]; exact dp_le hdp (by decide)) | ktr_room); (case zqku => first | decide | (rw [Nat.add_assoc]; exact un_le hun (by decide)) | ktr_units))); intro t9q h9q tk9q F9q N9q; (try dsimp only); (try k_fold))))
        | walk1
        | (dsimp only; walk1)
        | (leave1; (try dsimp only))
        | fail "no step"))
  all_goals (((refine' endS ?zqr ?_ ?zqf ?zqn ?zqs; (case zqr => first | with_reducible assumption | assumption); (case zqf => k_asm); (case zqn => k_asm); (case zqs => ((intro pq hpq; first | with_reducible exact hpq | (refine List.mem_cons_of_mem _ ?_; with_reducible exact hpq) | (refine List.mem_cons_of_mem _ (List.mem_cons_of_mem _ ?_); with_reducible exact hpq) | (refine List.mem_cons_of_mem _ (List.mem_cons_of_mem _ (List.mem_cons_of_mem _ ?_)); with_reducible exact hpq) | (refine List.mem_cons_of_mem _ (List.mem_cons_of_mem _ (List.mem_cons_of_mem _ (List.mem_cons_of_mem _ ?_))); with_reducible exact hpq)))))); (rfl))

theorem dirname_ok (x : Str) (t : Tok) (h : x.length < 600)  : ClS 2 w p loose mean mg mb 143 news True [.str x t] (dirF x) := by
  ((dsimp only [ClS, ClT]; k_fill; intro dp un gd cn cs a ccd cl outer A₀ base h₀ L m s Q E B0 F0 X0 N0 T0 hk hp hdp hun hret; refine wpAny_call ?_; k_dflt cell_enter))
  (repeat' (first
        | (k_unfold; (try dsimp only))
        | (k_end; wrow_close)
        | ((first | with_reducible show wpAny _ _ (exec _ _) _ _ _ | with_reducible show wpAny _ _ (PySem.isTrue _ _ _) _ _ _); k_fold)
        | (with_reducible ((with_reducible show wpAny _ _ (call (Value.ref _) _ _) _ _ _); (k_here; k_dflt (first | refine' useS (fspath_ok _ _ _ _ _ _ _ _ _) ?zqk1 ?zqk2 ?zqk3 ?zqk4 ?zqk5 ?zqkK ?zqkp ?zqkd ?zqku ?_ | refine' useS (get_sep_ok _ _ _ _ _ _ _ _ _) ?zqk1 ?zqk2 ?zqk3 ?zqk4 ?zqk5 ?zqkK ?zqkp ?zqkd ?zqku ?_); (((case zqk1 => k_asm); (case zqk2 => k_asm); (case zqk3 => k_asm); (case zqk4 => k_asm); (case zqk5 => k_asm); (case zqkK => first | exact rfl | assumption); (case zqkp => first | trivial | assumption); (case zqkd => first | decide | (rw [Nat.add_assoc]; exact dp_le hdp (by decide)) | ktr_room); (case zqku => first | decide | (rw [Nat.add_assoc]; exact un_le hun (by decide)) | ktr_units))); intro t9q h9q tk9q F9q N9q; (try dsimp only); (try k_fold))))
        | walk1
        | (dsimp only; walk1)
        | (leave1; (try dsimp only))
        | fail "no step"))
  all_goals ((refine' endS ?zqr ?_ ?zqf ?zqn ?zqs; (case zqr => first | with_reducible assumption | assumption); (case zqf => k_asm); (case zqn => k_asm); (case zqs => ((intro pq hpq; first | with_reducible exact hpq | (refine List.mem_cons_of_mem _ ?_; with_reducible exact hpq) | (refine List.mem_cons_of_mem _ (List.mem_cons_of_mem _ ?_); with_reducible exact hpq) | (refine List.mem_cons_of_mem _ (List.mem_cons_of_mem _ (List.mem_cons_of_mem _ ?_)); with_reducible exact hpq) | (refine List.mem_cons_of_mem _ (List.mem_cons_of_mem _ (List.mem_cons_of_mem _ (List.mem_cons_of_mem _ ?_))); with_reducible exact hpq))))))
  all_goals (first | exact (df1 (by with_reducible assumption) (by with_reducible assumption)).symm | exact (df2 (by with_reducible assumption) (by with_reducible assumption)).symm | exact (df3 (by with_reducible assumption)).symm)

theorem lj_ok (x y : Str) (t u : Tok)  (h : x.length < 600) (h' : y.length < 600) : ClS 1 w p loose mean mg mb 169 news True [.str x t, .str y u] (joinedF x y) := by
  ((dsimp only [ClS, ClT]; k_fill; intro dp un gd cn cs a ccd cl outer A₀ base h₀ L m s Q E B0 F0 X0 N0 T0 hk hp hdp hun hret; refine wpAny_call ?_; k_dflt cell_enter))
  (repeat' (first
        | (k_unfold; (try dsimp only))
        | (k_end; wrow_close)
        | ((first | with_reducible show wpAny _ _ (exec _ _) _ _ _ | with_reducible show wpAny _ _ (PySem.isTrue _ _ _) _ _ _); k_fold)
        | (with_reducible ((with_reducible show wpAny _ _ (subscriptTail (PySem.Expr.Name _ _) (PySem.Expr.BinOp _ _ _ _) (Value.str _ _) (Value.int _ _)) _ _ _); ((with_reducible rename ((_ != _) = true) => hn'q); (have hp'q := len_pos_of_bne hn'q (by first | rfl | decide)); refine item_str (fitsSsize_of (N := 9223372036854775808) (by omega) (by omega) (Int.le_refl _)) (by omega) (by omega) ?_; intro _; (try dsimp only))))
        | (with_reducible ((with_reducible show wpAny _ _ (call (Value.ref _) _ _) _ _ _); (k_here; k_dflt (first | refine' useS (fspath_ok _ _ _ _ _ _ _ _ _) ?zqk1 ?zqk2 ?zqk3 ?zqk4 ?zqk5 ?zqkK ?zqkp ?zqkd ?zqku ?_ | refine' useS (get_sep_ok _ _ _ _ _ _ _ _ _) ?zqk1 ?zqk2 ?zqk3 ?zqk4 ?zqk5 ?zqkK ?zqkp ?zqkd ?zqku ?_); (((case zqk1 => k_asm); (case zqk2 => k_asm); (case zqk3 => k_asm); (case zqk4 => k_asm); (case zqk5 => k_asm); (case zqkK => first | exact rfl | assumption); (case zqkp => first | trivial | assumption); (case zqkd => first | decide | (rw [Nat.add_assoc]; exact dp_le hdp (by decide)) | ktr_room); (case zqku => first | decide | (rw [Nat.add_assoc]; exact un_le hun (by decide)) | ktr_units))); intro t9q h9q tk9q F9q N9q; (try dsimp only); (try k_fold))))
        | walk1
        | (dsimp only; walk1)
        | (leave1; (try dsimp only))
        | fail "no step"))
  all_goals ((refine' endS ?zqr ?_ ?zqf ?zqn ?zqs; (case zqr => first | with_reducible assumption | assumption); (case zqf => k_asm); (case zqn => k_asm); (case zqs => ((intro pq hpq; first | with_reducible exact hpq | (refine List.mem_cons_of_mem _ ?_; with_reducible exact hpq) | (refine List.mem_cons_of_mem _ (List.mem_cons_of_mem _ ?_); with_reducible exact hpq) | (refine List.mem_cons_of_mem _ (List.mem_cons_of_mem _ (List.mem_cons_of_mem _ ?_)); with_reducible exact hpq) | (refine List.mem_cons_of_mem _ (List.mem_cons_of_mem _ (List.mem_cons_of_mem _ (List.mem_cons_of_mem _ ?_))); with_reducible exact hpq))))))
  all_goals (first | exact (jf1 (by with_reducible assumption)).symm | exact (jf2 (by with_reducible assumption) (by with_reducible assumption) (by with_reducible assumption)).symm | exact (jf3 (by with_reducible assumption) (by with_reducible assumption) (by with_reducible assumption)).symm | exact (jf4 (by with_reducible assumption) (by with_reducible assumption)).symm)
end
end
section
set_option maxRecDepth 100000
set_option maxHeartbeats 8000000
theorem strs1 {ts : List Value} {a : Str} (h : StrsAre ts [a]) : ∃ t, ts = [.str a t] := by
  cases h with | cons _ t h => cases h; exact ⟨t, rfl⟩
theorem strs2 {ts : List Value} {a b : Str} (h : StrsAre ts [a, b]) : ∃ t u, ts = [.str a t, .str b u] := by
  cases h with | cons _ t h => obtain ⟨u, rfl⟩ := strs1 h; exact ⟨t, u, rfl⟩
theorem strs3 {ts : List Value} {a b c : Str} (h : StrsAre ts [a, b, c]) : ∃ t u v, ts = [.str a t, .str b u, .str c v] := by
  cases h with | cons _ t h => obtain ⟨u, v, rfl⟩ := strs2 h; exact ⟨t, u, v, rfl⟩

section
variable {prog : Program} {w : World} {A : Around} {E : Value → Shared → Prop} {s : Shared} {env : Env} {h₀ : Heap} {x : Str} {body : List Stmt} {Q : Flow → Shared → Prop}
theorem sIter {l : Addr} {vs : List Value} {ys : List Str} {nn : Nat} {m₀ : Str → Option Value} {news : List (Addr × Obj)} (J : Nat → (Str → Option Value) → List (Addr × Obj) → Prop)
    (hh : A.handled = none) (hl : (l, listOf vs.toArray nn) ∈ news) (hs : StrsAre vs ys) (F : Fr h₀ env.locals s.heap m₀) (N : News h₀ env.locals s.heap news) (hj : J 0 m₀ news)
    (turn : ∀ i y t m₁ news₁ h tk own, ys[i]? = some y → OwnOff own (news₁.map (·.1)) → (l, listOf vs.toArray nn) ∈ news₁ → J i m₁ news₁ → Fr h₀ env.locals h (fun z => if z = x then some (.str y t) else m₁ z) → News h₀ env.locals h (news₁ ++ own) →
      wpAny (model prog w) A (execs body env) (InvPostG h₀ env.locals (fun m' nx => (l, listOf vs.toArray nn) ∈ nx ∧ J (i + 1) m' nx) own { s with heap := h, toks := tk } Q) E { s with heap := h, toks := tk })
    (done : ∀ m₁ news₁ h tk, J ys.length m₁ news₁ → Fr h₀ env.locals h m₁ → News h₀ env.locals h news₁ → Q .next { s with heap := h, toks := tk }) :
    wpAny (model prog w) A (pyIter (.ref l)) (fun it s₂ => LoopAtV prog w A h₀ env x body Q E it s₂) E s := by
  have hlen : vs.length = ys.length := StrsAre.len_eq hs
  refine kdl_iter J hh hl F N hj ?_ (by rw [hlen]; exact done)
  intro i v m₁ news₁ h tk own hv hoff hm hJ F₁ N₁
  have hi : i < ys.length := by rw [← hlen]; exact (List.getElem?_eq_some_iff.mp hv).1
  obtain ⟨t, hx⟩ := hs.at (List.getElem?_eq_getElem hi)
  have ev : v = .str (ys[i]'hi) t := by rw [hx] at hv; exact (Option.some.inj hv).symm
  subst ev
  exact turn i _ t m₁ news₁ h tk own (List.getElem?_eq_getElem hi) hoff hm hJ F₁ N₁

/-- what a turn leaves: the list at nl turned, the frame as it was but for the loop's name -/
noncomputable def LPost (h₀ : Heap) (L : Addr) (x : Str) (m₀ : Str → Option Value) (nl : Addr) (acc : List Str) (rest : List (Addr × Obj)) (s₁ : Shared) (Q : Flow → Shared → Prop) (f : Flow) (s₂ : Shared) : Prop :=
  match f with
  | .ret v => Q (.ret v) s₂
  | .brk => Q .next s₂
  | _ => ∃ h' tk us c m', s₂ = { s₁ with heap := h', toks := tk } ∧ Fr h₀ L h' m' ∧ (∀ z, z ≠ x → m' z = m₀ z) ∧ News h₀ L h' ((nl, listOf us.toArray c) :: rest) ∧ StrsAre us acc

theorem listLoop {l nl : Addr} {vs us₀ : List Value} {ys : List Str} {nn c₀ : Nat} {m₀ : Str → Option Value} {tail : List (Addr × Obj)} (f : List Str → Str → List Str) (acc₀ : List Str)
    (hh : A.handled = none) (hl : (l, listOf vs.toArray nn) ∈ tail) (hs : StrsAre vs ys) (h0 : StrsAre us₀ acc₀) (F : Fr h₀ env.locals s.heap m₀) (N : News h₀ env.locals s.heap ((nl, listOf us₀.toArray c₀) :: tail))
    (hne : ∀ p ∈ tail, p.1 ≠ nl)
    (turn : ∀ i y t us c rest h tk, ys[i]? = some y → StrsAre us ((ys.take i).foldl f acc₀) → (∀ p ∈ rest, p.1 ≠ nl) → Fr h₀ env.locals h (fun z => if z = x then some (.str y t) else m₀ z) → News h₀ env.locals h ((nl, listOf us.toArray c) :: rest) →
      wpAny (model prog w) A (execs body env) (LPost h₀ env.locals x m₀ nl (f ((ys.take i).foldl f acc₀) y) rest { s with heap := h, toks := tk } Q) E { s with heap := h, toks := tk })
    (done : ∀ us c (u : Str → Option Value) h tk, StrsAre us (ys.foldl f acc₀) → Fr h₀ env.locals h (fun z => if z = x then u z else m₀ z) → News h₀ env.locals h ((nl, listOf us.toArray c) :: tail) → Q .next { s with heap := h, toks := tk }) :
    wpAny (model prog w) A (pyIter (.ref l)) (fun it s₂ => LoopAtV prog w A h₀ env x body Q E it s₂) E s := by
  refine sIter (fun i m nx => ∃ us c, nx = (nl, listOf us.toArray c) :: tail ∧ StrsAre us ((ys.take i).foldl f acc₀) ∧ ∀ z, z ≠ x → m z = m₀ z) hh (List.mem_cons_of_mem _ hl) hs F N ⟨us₀, c₀, rfl, h0, fun _ _ => rfl⟩ ?_ ?_
  · rintro i y t m₁ news₁ h tk own hy hoff hm ⟨us, c, rfl, hu, hm₁⟩ F₁ N₁
    rw [map_none hm₁] at F₁
    have hne' : ∀ p ∈ tail ++ own, p.1 ≠ nl := fun p hp => by
      rcases List.mem_append.mp hp with hp | hp
      · exact hne p hp
      · exact hoff p hp nl (List.mem_map.mpr ⟨_, List.Mem.head _, rfl⟩)
    refine wpAny_mono (turn i y t us c (tail ++ own) h tk hy hu hne' F₁ N₁) (fun fl s₂ p => ?_) fun _ _ e => e
    have hs' : (ys.take (i + 1)).foldl f acc₀ = f ((ys.take i).foldl f acc₀) y := by
      rw [List.take_add_one, hy]; simp
    have up : (∃ h' tk' us c m', s₂ = { ({ s with heap := h, toks := tk } : Shared) with heap := h', toks := tk' } ∧ Fr h₀ env.locals h' m' ∧ (∀ z, z ≠ x → m' z = m₀ z) ∧ News h₀ env.locals h' ((nl, listOf us.toArray c) :: (tail ++ own)) ∧ StrsAre us (f ((ys.take i).foldl f acc₀) y)) →
        InvEndG h₀ env.locals (fun m' nx => (l, listOf vs.toArray nn) ∈ nx ∧ ∃ us c, nx = (nl, listOf us.toArray c) :: tail ∧ StrsAre us ((ys.take (i + 1)).foldl f acc₀) ∧ ∀ z, z ≠ x → m' z = m₀ z) own { s with heap := h, toks := tk } s₂ := by
      rintro ⟨h', tk', us', c', m', rfl, F', hm', N', hu'⟩
      refine ⟨h', tk', m', _, (nl, listOf us'.toArray c') :: tail, rfl, F', N', ?_, ?_, ?_, List.mem_cons_of_mem _ hl, us', c', rfl, by rw [hs']; exact hu', hm'⟩
      · intro p hp
        rcases List.mem_cons.mp hp with rfl | hp
        · exact .head _
        · exact .tail _ (List.mem_append.mpr (.inl hp))
      · intro p hp; exact .tail _ (List.mem_append.mpr (.inr hp))
      · intro p hp b hb
        refine hoff p hp b ?_
        simpa using hb
    cases fl with
    | ret v => exact p
    | brk => exact p
    | next => exact up p
    | cont => exact up p
  · rintro m₁ news₁ h tk ⟨us, c, rfl, hu, hm₁⟩ F₁ N₁
    rw [List.take_length] at hu
    exact done us c m₁ h tk hu (by rw [done_none hm₁]; exact F₁) N₁

/-- what a turn leaves: a list of another address may hang at the name y -/
noncomputable def HPost (h₀ : Heap) (L : Addr) (x y : Str) (m₀ : Str → Option Value) (acc : List Str) (rest : List (Addr × Obj)) (s₁ : Shared) (Q : Flow → Shared → Prop) (f : Flow) (s₂ : Shared) : Prop :=
  match f with
  | .ret v => Q (.ret v) s₂
  | .brk => Q .next s₂
  | _ => ∃ h' tk nl us c m' led, s₂ = { s₁ with heap := h', toks := tk } ∧ Fr h₀ L h' m' ∧ m' y = some (.ref nl) ∧ (∀ z, z ≠ x → z ≠ y → m' z = m₀ z) ∧ News h₀ L h' ((nl, listOf us.toArray c) :: led) ∧ (∀ p ∈ rest, p ∈ led) ∧ (∀ p ∈ rest, p.1 ≠ nl) ∧ StrsAre us acc

theorem heldLoop {l nl₀ : Addr} {vs us₀ : List Value} {ys : List Str} {nn c₀ : Nat} {y : Str} {m₀ : Str → Option Value} {tail : List (Addr × Obj)} (f : List Str → Str → List Str) (acc₀ : List Str) (hyx : y ≠ x)
    (hh : A.handled = none) (hl : (l, listOf vs.toArray nn) ∈ tail) (hs : StrsAre vs ys) (h0 : StrsAre us₀ acc₀) (F : Fr h₀ env.locals s.heap (fun z => if z = y then some (.ref nl₀) else m₀ z)) (N : News h₀ env.locals s.heap ((nl₀, listOf us₀.toArray c₀) :: tail))
    (hne : ∀ p ∈ tail, p.1 ≠ nl₀)
    (turn : ∀ i v t nl us c rest h tk, ys[i]? = some v → StrsAre us ((ys.take i).foldl f acc₀) → (∀ p ∈ rest, p.1 ≠ nl) → Fr h₀ env.locals h (fun z => if z = x then some (.str v t) else if z = y then some (.ref nl) else m₀ z) → News h₀ env.locals h ((nl, listOf us.toArray c) :: rest) →
      wpAny (model prog w) A (execs body env) (HPost h₀ env.locals x y m₀ (f ((ys.take i).foldl f acc₀) v) rest { s with heap := h, toks := tk } Q) E { s with heap := h, toks := tk })
    (done : ∀ nl us c (u : Str → Option Value) h tk, StrsAre us (ys.foldl f acc₀) → Fr h₀ env.locals h (fun z => if z = x then u z else if z = y then some (.ref nl) else m₀ z) → News h₀ env.locals h ((nl, listOf us.toArray c) :: tail) → Q .next { s with heap := h, toks := tk }) :
    wpAny (model prog w) A (pyIter (.ref l)) (fun it s₂ => LoopAtV prog w A h₀ env x body Q E it s₂) E s := by
  refine sIter (fun i m nx => ∃ nl us c, nx = (nl, listOf us.toArray c) :: tail ∧ (∀ p ∈ tail, p.1 ≠ nl) ∧ m y = some (.ref nl) ∧ StrsAre us ((ys.take i).foldl f acc₀) ∧ ∀ z, z ≠ x → z ≠ y → m z = m₀ z) hh (List.mem_cons_of_mem _ hl) hs F N ⟨nl₀, us₀, c₀, rfl, hne, if_pos rfl, h0, fun z _ hz => if_neg hz⟩ ?_ ?_
  · rintro i v t m₁ news₁ h tk own hy hoff hm ⟨nl, us, c, rfl, hne₁, hy₁, hu, hm₁⟩ F₁ N₁
    have em : (fun z => if z = x then some (Value.str v t) else m₁ z) = fun z => if z = x then some (.str v t) else if z = y then some (.ref nl) else m₀ z := by
      funext z
      by_cases h1 : z = x
      · simp [h1]
      · simp only [if_neg h1]
        by_cases h2 : z = y
        · subst h2; simp [hy₁]
        · simp only [if_neg h2]; exact hm₁ z h1 h2
    rw [em] at F₁
    have hne' : ∀ p ∈ tail ++ own, p.1 ≠ nl := fun p hp => by
      rcases List.mem_append.mp hp with hp | hp
      · exact hne₁ p hp
      · exact hoff p hp nl (List.mem_map.mpr ⟨_, List.Mem.head _, rfl⟩)
    refine wpAny_mono (turn i v t nl us c (tail ++ own) h tk hy hu hne' F₁ N₁) (fun fl s₂ p => ?_) fun _ _ e => e
    have hs' : (ys.take (i + 1)).foldl f acc₀ = f ((ys.take i).foldl f acc₀) v := by
      rw [List.take_add_one, hy]; simp
    have up : (∃ h' tk' nl us c m' led, s₂ = { ({ s with heap := h, toks := tk } : Shared) with heap := h', toks := tk' } ∧ Fr h₀ env.locals h' m' ∧ m' y = some (.ref nl) ∧ (∀ z, z ≠ x → z ≠ y → m' z = m₀ z) ∧ News h₀ env.locals h' ((nl, listOf us.toArray c) :: led) ∧ (∀ p ∈ tail ++ own, p ∈ led) ∧ (∀ p ∈ tail ++ own, p.1 ≠ nl) ∧ StrsAre us (f ((ys.take i).foldl f acc₀) v)) →
        InvEndG h₀ env.locals (fun m' nx => (l, listOf vs.toArray nn) ∈ nx ∧ ∃ nl us c, nx = (nl, listOf us.toArray c) :: tail ∧ (∀ p ∈ tail, p.1 ≠ nl) ∧ m' y = some (.ref nl) ∧ StrsAre us ((ys.take (i + 1)).foldl f acc₀) ∧ ∀ z, z ≠ x → z ≠ y → m' z = m₀ z) own { s with heap := h, toks := tk } s₂ := by
      rintro ⟨h', tk', nl', us', c', m', led, rfl, F', hy', hm', N', hsub, hne2, hu'⟩
      refine ⟨h', tk', m', _, (nl', listOf us'.toArray c') :: tail, rfl, F', N', ?_, ?_, ?_, List.mem_cons_of_mem _ hl, nl', us', c', rfl, fun p hp => hne2 p (List.mem_append.mpr (.inl hp)), hy', by rw [hs']; exact hu', hm'⟩
      · intro p hp
        rcases List.mem_cons.mp hp with rfl | hp
        · exact .head _
        · exact .tail _ (hsub _ (List.mem_append.mpr (.inl hp)))
      · intro p hp; exact .tail _ (hsub _ (List.mem_append.mpr (.inr hp)))
      · intro p hp b hb
        rw [List.map_cons] at hb
        rcases List.mem_cons.mp hb with rfl | hb
        · exact hne2 p (List.mem_append.mpr (.inr hp))
        · exact hoff p hp b (by rw [List.map_cons]; exact .tail _ hb)
    cases fl with
    | ret v => exact p
    | brk => exact p
    | next => exact up p
    | cont => exact up p
  · rintro m₁ news₁ h tk ⟨nl, us, c, rfl, hne₁, hy₁, hu, hm₁⟩ F₁ N₁
    rw [List.take_length] at hu
    refine done nl us c m₁ h tk hu ?_ N₁
    have em : (fun z => if z = x then m₁ z else if z = y then some (Value.ref nl) else m₀ z) = m₁ := by
      funext z
      by_cases h1 : z = x
      · simp [h1]
      · simp only [if_neg h1]
        by_cases h2 : z = y
        · subst h2; simp [hy₁]
        · simp only [if_neg h2]; exact (hm₁ z h1 h2).symm
    rw [em]; exact F₁
end
end
section
set_option maxRecDepth 100000
set_option maxHeartbeats 8000000
section
variable {prog : Program} {w : World} {A : Around} {E : Value → Shared → Prop} {s : Shared} {h₀ : Heap} {L : Addr} {m : Str → Option Value} {news rest : List (Addr × Obj)} {a nl : Addr} {us vs : List Value} {ys zs : List Str} {n c : Nat}
theorem isL (N : News h₀ L s.heap news) (hm : (a, listOf us.toArray n) ∈ news) : s.heap.IsList a us.toArray := ⟨_, (N _ hm).1, rfl, n, rfl⟩
theorem truthyL {Q : Bool → Shared → Prop} (N : News h₀ L s.heap news) (hm : (a, listOf us.toArray n) ∈ news) (hs : StrsAre us ys) (hz : ys.length < 2 ^ 62)
    (h : Q ((ys.length : Int) != 0) { s with toks := s.toks + 1 + 1 }) : wpAny (model prog w) A (truthy (.ref a)) Q E s := by
  refine wpAny_truthy_list (isL N hm) (by rw [List.size_toArray, hs.length]; omega) ?_
  have e : (!us.toArray.isEmpty) = ((ys.length : Int) != 0) := by
    rw [List.isEmpty_toArray]
    have hl := hs.length
    cases us with
    | nil => rw [show ys.length = 0 from hl.symm]; rfl
    | cons u r =>
      have h1 : ys.length = r.length + 1 := by rw [← hl]; rfl
      rw [h1, Bool.eq_iff_iff]
      simp
      omega
  rw [e]; exact h
theorem lenL {Q : Value → Shared → Prop} (N : News h₀ L s.heap news) (hm : (a, listOf us.toArray n) ∈ news) (hs : StrsAre us ys) (hz : ys.length < 2 ^ 62)
    (h : Q (.int (ys.length : Int) (s.toks + 1)) { s with toks := s.toks + 1 + 1 }) : wpAny (model prog w) A (call (.builtin "len") [.ref a]) Q E s := by
  have e2 : us.toArray.size = ys.length := by rw [List.size_toArray, hs.length]
  exact len_list (isL N hm) (by rw [e2]; omega) (by rw [e2]; exact h)
theorem getD_last (ys : List Str) (d : Str) (h : ys.length ≠ 0) : ys.getD (-1 + (ys.length : Int)).toNat d = ys.getLastD sl := by
  have e : (-1 + (ys.length : Int)).toNat = ys.length - 1 := by rw [Int.add_comm]; exact Int.toNat_sub ys.length 1
  rw [e]
  cases ys with
  | nil => exact absurd rfl h
  | cons y r =>
    rw [List.getD_eq_getElem?_getD, List.getLastD_eq_getLast?, List.getLast?_eq_getElem?]
    rw [List.getElem?_eq_getElem (by simp)]
    rfl
theorem lastL {value slice : Expr} {u : Tok} {Q : Value → Shared → Prop} (N : News h₀ L s.heap news) (hm : (a, listOf us.toArray n) ∈ news) (hs : StrsAre us ys) (hz : ys.length ≠ 0)
    (h : ∀ t, Q (.str (ys.getLastD sl) t) s)
    (hs' : subscripted slice false (.ref a) (.int (-1) u) = operate [.ref a, .int (-1) u] (getItem (.ref a) (.int (-1) u)) := by with_unfolding_all rfl) (hg : ∀ r, letTemporaryGo value (.ref a) r = pure () := by intro _; with_unfolding_all rfl) :
    wpAny (model prog w) A (subscriptTail value slice (.ref a) (.int (-1) u)) Q E s := by
  refine item_strs_neg (isL N hm) hs (by decide) (by omega) (by decide) (fun t => ?_) hs' hg
  rw [getD_last ys _ hz]
  exact h t
theorem itemL {value slice : Expr} {u : Tok} {k : Int} {Q : Value → Shared → Prop} (N : News h₀ L s.heap news) (hm : (a, listOf us.toArray n) ∈ news) (hs : StrsAre us ys) (h0 : 0 ≤ k) (hz : k < ys.length) (hf : ys.length < 2 ^ 62)
    (h : ∀ t, Q (.str (ys.getD k.toNat Str.empty) t) s)
    (hs' : subscripted slice false (.ref a) (.int k u) = operate [.ref a, .int k u] (getItem (.ref a) (.int k u)) := by with_unfolding_all rfl) (hg : ∀ r, letTemporaryGo value (.ref a) r = pure () := by intro _; with_unfolding_all rfl) :
    wpAny (model prog w) A (subscriptTail value slice (.ref a) (.int k u)) Q E s :=
  item_strsA (isL N hm) hs h0 hz (by omega) h hs' hg
theorem appendL {v : Value} {Q : Value → Shared → Prop} (F : Fr h₀ L s.heap m) (N : News h₀ L s.heap ((nl, listOf us.toArray c) :: rest)) (hne : ∀ p ∈ rest, p.1 ≠ nl) (hz : us.length ≤ 1000000)
    (h : ∀ h', Fr h₀ L h' m → News h₀ L h' ((nl, listOf (us ++ [v]).toArray (c + 1)) :: rest) → Q .none { s with heap := h' }) :
    wpAny (model prog w) A (call (.builtin "list.append") [.ref nl, v]) Q E s := by
  refine append_K (hsz := by rw [List.size_toArray, PySem.sizeLine_eq]; omega) F N (Upd.head hne) fun h' F' N' => h h' F' ?_
  rw [List.push_toArray] at N'
  exact N'
theorem strs_last (hs : StrsAre us ys) : ys.length ≠ 0 → ∃ t, us = us.dropLast ++ [.str (ys.getLastD sl) t] := by
  induction hs with
  | nil => intro h; exact absurd rfl h
  | cons y t r ih =>
    intro _
    cases r with
    | nil => exact ⟨t, rfl⟩
    | cons y' t' r' =>
      obtain ⟨u, e⟩ := ih (by simp)
      exact ⟨u, congrArg (List.cons (Value.str y t)) e⟩
theorem popL {Q : Value → Shared → Prop} (F : Fr h₀ L s.heap m) (N : News h₀ L s.heap ((nl, listOf us.toArray c) :: rest)) (hne : ∀ p ∈ rest, p.1 ≠ nl) (hs : StrsAre us ys) (h0 : ys.length ≠ 0) (hz : ys.length ≤ 1000000)
    (h : ∀ h' y t, Fr h₀ L h' m → News h₀ L h' ((nl, listOf us.dropLast.toArray (c + 1)) :: rest) → Q (.str y t) { s with heap := h' }) :
    wpAny (model prog w) A (call (.builtin "list.pop") [.ref nl]) Q E s := by
  obtain ⟨t, e⟩ := strs_last hs h0
  have el := kpa_last (.str (ys.getLastD sl) t) us.dropLast
  rw [← e] at el
  exact kl_pop F N el (Upd.head hne) (by rw [PySem.sizeLine_eq, hs.length]; omega) fun h' F' N' => h h' _ t F' N'
theorem addL {b : Addr} {k : Nat} {Q : Value → Shared → Prop} (F : Fr h₀ L s.heap m) (N : News h₀ L s.heap news) (ha : (a, listOf us.toArray n) ∈ news) (hb : (b, listOf vs.toArray k) ∈ news) (h1 : StrsAre us ys) (h2 : StrsAre vs zs) (hz : ys.length + zs.length ≤ 1000000)
    (h : ∀ D h', Fr h₀ L h' m → News h₀ L h' ((D, listOf (us ++ vs).toArray 0) :: news) → StrsAre (us ++ vs) (ys ++ zs) → (∀ p ∈ news, p.1 < D) → Q (.ref D) { s with heap := h' }) :
    wpAny (model prog w) A (binaryOp .Add (.ref a) (.ref b)) Q E s :=
  add_lists (hsz := by rw [h1.length, h2.length, PySem.sizeLine_eq]; omega) F N (isL N ha) (isL N hb) fun h' F' N' => h _ h' F' N' (strsAre_append h1 h2) fun p hp => Heap.lt_size (N p hp).1
theorem clampN {y : Int} (h0 : 0 ≤ y) (n : Nat) : max (0 : Int) (min y (n : Int)) = ((min y.toNat n : Nat) : Int) := by
  obtain ⟨k, rfl⟩ := Int.eq_ofNat_of_zero_le h0
  rw [Int.toNat_natCast]
  rcases Nat.le_total k n with h | h
  · rw [Nat.min_eq_left h, Int.min_eq_left (Int.ofNat_le.mpr h), Int.max_eq_right (Int.natCast_nonneg _)]
  · rw [Nat.min_eq_right h, Int.min_eq_right (Int.ofNat_le.mpr h), Int.max_eq_right (Int.natCast_nonneg _)]
theorem uptoL {value slice : Expr} {y : Int} {t : Tok} {Q : Value → Shared → Prop} (F : Fr h₀ L s.heap m) (N : News h₀ L s.heap news) (ha : (a, listOf us.toArray n) ∈ news) (h1 : StrsAre us ys) (h0 : 0 ≤ y) (hz : ys.length ≤ 1000000)
    (h : ∀ D h', Fr h₀ L h' m → News h₀ L h' ((D, listOf (us.take y.toNat).toArray 0) :: news) → StrsAre (us.take y.toNat) (ys.take y.toNat) → (∀ p ∈ news, p.1 < D) → Q (.ref D) { s with heap := h' })
    (hs : subscripted slice false (.ref a) (.ref s.heap.objs.size) = operate [.ref s.heap.objs.size, .ref a] (getItem (.ref a) (.ref s.heap.objs.size)) := by with_unfolding_all rfl) (hg : ∀ r, letTemporaryGo value (.ref a) r = pure () := by intro _; with_unfolding_all rfl) :
    wpAny (model prog w) A (subscriptTail value slice (.ref a) (.ref s.heap.objs.size)) Q E { s with heap := s.heap.push { cls := .type "slice", data := .fields #[.none, .int y t, .none] } } := by
  refine kmk_slice_lit F N (isL N ha) .none (.int _ _) (zs := us.take y.toNat) ?_ (fun D h' F' N' l1 => h D h' F' N' (h1.take' _) l1) hs hg (by rw [List.size_toArray, PySem.sizeLine_eq, h1.length]; omega)
  have e : sliceBounds none (some y) none us.toArray.size = (((0 : Nat) : Int), ((min y.toNat us.toArray.size : Nat) : Int), 1) := by
    simp only [sliceBounds, Option.getD_none, show (1 : Int) > 0 by decide, if_true, if_neg (show ¬ (y < 0) by omega)]
    congr 1
    congr 1
    exact clampN h0 _
  rw [kmk_pick_nat _ e]
  show (us.drop 0).take (min y.toNat us.toArray.size - 0) = _
  rw [List.drop_zero, Nat.sub_zero, List.size_toArray, kmk_take_min]
theorem joinL {x : Str} {t : Tok} {Q : Value → Shared → Prop} (N : News h₀ L s.heap news) (ha : (a, listOf us.toArray n) ∈ news) (h1 : StrsAre us ys) (hx : x.length ≤ 2) (hw : (ys.map (·.length)).sum ≤ 1000000) (hl : ys.length ≤ 10000)
    (h : ∀ t' k, Q (.str (Txt.join x ys) t') { s with toks := k }) : wpAny (model prog w) A (call (.builtin "str.join") [.str x t, .ref a]) Q E s :=
  join_listW (isL N ha) (by simpa using h1) (by omega) (by omega) h
theorem eqNilL {b : Addr} {k : Nat} {Q : Value → Shared → Prop} (N : News h₀ L s.heap news) (ha : (a, listOf us.toArray n) ∈ news) (hb : (b, listOf #[] k) ∈ news) (h1 : StrsAre us ys) (hu : A.units < cLine)
    (h : Q (.bool ((ys.length : Int) == 0)) s) : wpAny (model prog w) A (compareOp .Eq (.ref a) (.ref b)) Q E s := by
  have hb' : s.heap.IsList b #[] := ⟨_, (N _ hb).1, rfl, k, rfl⟩
  have hl := h1.length
  by_cases he : ys.length = 0
  · have e : ((ys.length : Int) == 0) = true := by rw [he]; rfl
    rw [e] at h
    have hus : us = [] := List.length_eq_zero_iff.mp (by omega)
    subst hus
    exact PySem.SeqAt.eq_listAt (e := fun _ => true) (isL N ha) hb' rfl hu (fun j h1 => absurd h1 (Nat.not_lt_zero _)) (by simpa using h)
  · have e : ((ys.length : Int) == 0) = false := by
      rw [beq_eq_false_iff_ne]; omega
    rw [e] at h
    refine PySem.SeqAt.eq_list_lengthsAt (isL N ha) hb' ?_ hu h
    rw [bne_iff_ne, List.size_toArray, hl]
    exact he
end
end
section
theorem calmC2 : True := by w_top off; trivial
set_option maxRecDepth 100000
set_option maxHeartbeats 8000000
set_option linter.unusedSimpArgs false


theorem lpost_end {h₀ : Heap} {L : Addr} {x : Str} {m₀ m' : Str → Option Value} {nl : Addr} {acc : List Str} {rest : List (Addr × Obj)} {s₁ : Shared} {Q : Flow → Shared → Prop} {f : Flow} {h' : Heap} {tk : Nat} {us : List Value} {c : Nat}
    (hf : f = .next ∨ f = .cont) (F : Fr h₀ L h' m') (hm : ∀ z, z ≠ x → m' z = m₀ z) (N : News h₀ L h' ((nl, listOf us.toArray c) :: rest)) (hu : StrsAre us acc) : LPost h₀ L x m₀ nl acc rest s₁ Q f { s₁ with heap := h', toks := tk } := by
  rcases hf with rfl | rfl <;> exact ⟨h', tk, us, c, m', rfl, F, hm, N, hu⟩
/-- one turn of normpath's loop -/
noncomputable def stepF (r : Str) (acc : List Str) (c : Str) : List Str :=
  if (c.length : Int) = 0 then acc else if (c == Str.ofString ".") = true then acc
  else if (c != Str.ofString "..") = true then acc ++ [c]
  else if (r.length : Int) = 0 ∧ acc.length = 0 then acc ++ [c]
  else if acc.length ≠ 0 ∧ (acc.getLastD sl == Str.ofString "..") = true then acc ++ [c]
  else acc.dropLast
section
variable {r y : Str} {acc : List Str}
theorem st1 (h : (y.length : Int) = 0) : stepF r acc y = acc := by unfold stepF; rw [if_pos h]
theorem st2 (h0 : (y.length : Int) ≠ 0) (h : (y == Str.ofString ".") = true) : stepF r acc y = acc := by unfold stepF; rw [if_neg h0, if_pos h]
theorem st3 (h0 : (y.length : Int) ≠ 0) (h1 : (y == Str.ofString ".") = false) (h : (y != Str.ofString "..") = true) : stepF r acc y = acc ++ [y] := by
  unfold stepF; rw [if_neg h0, if_neg (by rw [h1]; exact Bool.false_ne_true), if_pos h]
theorem st4 (h0 : (y.length : Int) ≠ 0) (h1 : (y == Str.ofString ".") = false) (h2 : (y != Str.ofString "..") = false) (h3 : (r.length : Int) = 0) (h4 : (acc.length : Int) = 0) : stepF r acc y = acc ++ [y] := by
  unfold stepF; rw [if_neg h0, if_neg (by rw [h1]; exact Bool.false_ne_true), if_neg (by rw [h2]; exact Bool.false_ne_true), if_pos ⟨h3, by omega⟩]
theorem st5 (h0 : (y.length : Int) ≠ 0) (h1 : (y == Str.ofString ".") = false) (h2 : (y != Str.ofString "..") = false) (h4 : (acc.length : Int) ≠ 0) (h5 : (acc.getLastD sl == Str.ofString "..") = true) : stepF r acc y = acc ++ [y] := by
  unfold stepF; rw [if_neg h0, if_neg (by rw [h1]; exact Bool.false_ne_true), if_neg (by rw [h2]; exact Bool.false_ne_true), if_neg (fun c => h4 (by omega)), if_pos ⟨by omega, h5⟩]
theorem st6 (h0 : (y.length : Int) ≠ 0) (h1 : (y == Str.ofString ".") = false) (h2 : (y != Str.ofString "..") = false) (h4 : (acc.length : Int) ≠ 0) (h5 : (acc.getLastD sl == Str.ofString "..") = false) : stepF r acc y = acc.dropLast := by
  unfold stepF; rw [if_neg h0, if_neg (by rw [h1]; exact Bool.false_ne_true), if_neg (by rw [h2]; exact Bool.false_ne_true), if_neg (fun c => h4 (by omega)), if_neg (fun c => by rw [h5] at c; exact Bool.false_ne_true c.2)]
theorem st7 (h0 : (y.length : Int) ≠ 0) (h1 : (y == Str.ofString ".") = false) (h2 : (y != Str.ofString "..") = false) (h3 : (r.length : Int) ≠ 0) (h4 : (acc.length : Int) = 0) : stepF r acc y = acc := by
  unfold stepF; rw [if_neg h0, if_neg (by rw [h1]; exact Bool.false_ne_true), if_neg (by rw [h2]; exact Bool.false_ne_true), if_neg (fun c => h3 c.1), if_neg (fun c => c.1 (by omega))]
  have : acc = [] := List.length_eq_zero_iff.mp (by omega)
  rw [this]; rfl
end
theorem step_cases (r : Str) (acc : List Str) (c : Str) : stepF r acc c = acc ∨ stepF r acc c = acc ++ [c] ∨ stepF r acc c = acc.dropLast := by
  unfold stepF
  (repeat' split) <;> first | exact .inl rfl | exact .inr (.inl rfl) | exact .inr (.inr rfl)
theorem wt_step (r : Str) (ys : List Str) : ∀ acc : List Str, ((ys.foldl (stepF r) acc).map (·.length)).sum + (ys.foldl (stepF r) acc).length ≤ (acc.map (·.length)).sum + acc.length + (ys.map (·.length)).sum + ys.length := by
  have drop : ∀ l : List Str, (l.dropLast.map (·.length)).sum + l.dropLast.length ≤ (l.map (·.length)).sum + l.length := by
    intro l
    induction l with
    | nil => exact Nat.le_refl _
    | cons a l ih =>
      cases l with
      | nil => simp
      | cons b l => simp only [List.dropLast_cons_cons, List.map_cons, List.sum_cons, List.length_cons] at ih ⊢; omega
  have one : ∀ (acc : List Str) (y : Str), ((stepF r acc y).map (·.length)).sum + (stepF r acc y).length ≤ (acc.map (·.length)).sum + acc.length + y.length + 1 := by
    intro acc y
    have e : ((acc ++ [y]).map (·.length)).sum + (acc ++ [y]).length ≤ (acc.map (·.length)).sum + acc.length + y.length + 1 := by
      simp only [List.map_append, List.sum_append, List.map_cons, List.map_nil, List.sum_cons, List.sum_nil, List.length_append, List.length_cons, List.length_nil]; omega
    have d := drop acc
    rcases step_cases r acc y with q | q | q <;> rw [q] <;> clear q
    · clear e d; omega
    · exact e
    · clear e; omega
  induction ys with
  | nil => intro acc; simp
  | cons y ys ih =>
    intro acc
    have h1 := ih (stepF r acc y)
    have h2 := one acc y
    simp only [List.foldl_cons, List.map_cons, List.sum_cons, List.length_cons] at h1 ⊢
    omega
noncomputable def normF (x : Str) : Str := if (x.length : Int) = 0 then Str.ofString "." else
  if ((rootF x ++ Txt.join sl ((Txt.split (pathF x) sl).foldl (stepF (rootF x)) [])).length : Int) = 0 then Str.ofString "." else rootF x ++ Txt.join sl ((Txt.split (pathF x) sl).foldl (stepF (rootF x)) [])
theorem normF_eq0 {x : Str} (h : (x.length : Int) = 0) : normF x = Str.ofString "." := by unfold normF; rw [if_pos h]
theorem normF_eq1 {x : Str} (h : (x.length : Int) ≠ 0) (h2 : ((rootF x ++ Txt.join sl ((Txt.split (pathF x) sl).foldl (stepF (rootF x)) [])).length : Int) ≠ 0) : normF x = rootF x ++ Txt.join sl ((Txt.split (pathF x) sl).foldl (stepF (rootF x)) []) := by unfold normF; rw [if_neg h, if_neg h2]
theorem normF_eq2 {x : Str} (h : (x.length : Int) ≠ 0) (h2 : ((rootF x ++ Txt.join sl ((Txt.split (pathF x) sl).foldl (stepF (rootF x)) [])).length : Int) = 0) : normF x = Str.ofString "." := by unfold normF; rw [if_neg h, if_pos h2]
theorem rootF_len (x : Str) : (rootF x).length ≤ 2 := by
  unfold rootF
  split
  · decide
  · split
    · decide
    · split
      · decide
      · rcases Nat.lt_or_ge x.length 2 with h | h
        · exact Nat.le_trans (Txt.slice_le _ _ _) (by omega)
        · have e := slice_closes_to (x := x) (j := 2) ⟨by decide, by simpa [Str.length] using (by omega : (2 : Int) ≤ x.length)⟩
          rw [beq_iff_eq.mp e]
          show (List.take _ _).toArray.size ≤ 2
          rw [List.size_toArray, List.length_take]
          exact Nat.min_le_left _ _
theorem pathF_len (x : Str) : (pathF x).length ≤ x.length := by
  have h1 := Txt.slice_le x (some 1) none
  have h2 := Txt.slice_le x (some 2) none
  unfold pathF
  split
  · exact Nat.le_refl _
  · split
    · exact h1
    · split
      · exact h1
      · exact h2
section
variable (w : World) (p : Program) (loose : List Str) (mean : ExcName → Option Value) (mg mb : Str → Option Value) (news : List (Addr × Obj))
theorem norm_ok (x : Str) (t : Tok) (h : x.length < 600)  : ClS 3 w p loose mean mg mb 150 news True [.str x t] (normF x) := by
  have hP := pathF_len x
  have hR := rootF_len x
  ((dsimp only [ClS, ClT]; k_fill; intro dp un gd cn cs a ccd cl outer A₀ base h₀ L m s Q E B0 F0 X0 N0 T0 hk hp hdp hun hret; refine wpAny_call ?_; k_dflt cell_enter))
  (repeat' (first
        | (k_unfold; (try dsimp only))
        | (k_end; wrow_close)
        | ((with_reducible show wpAny _ _ (exec _ _) _ _ _); k_fold)
        | (with_reducible ((with_reducible show wpAny _ _ (exec (Stmt.For _ _ _ _ _) _) _ _ _); (k_here; (rename Fr _ _ _ _ => lF'q); (with_unfolding_all refine' For_invVF lF'q ?zqk1 ?zqk2 ?_; (case zqk1 => exact rfl); (case zqk2 => exact rfl); k_whole))))
        | (with_reducible ((with_reducible show wpAny _ _ (call (Value.builtin "str.join") _ _) _ _ _); (k_here; (with_reducible show wpAny _ _ (call (Value.builtin "str.join") [Value.str _ _, Value.ref _]) _ _ _); k_dflt (refine' joinL ?zqN ?zqm ?zqs ?zqx ?zqw ?zqz ?_; (case zqN => k_asm); (case zqm => k_mem); (case zqs => assumption); (case zqx => decide); (case zqw => first | exact Nat.lt_of_lt_of_le (by with_reducible assumption) (by decide) | exact Nat.lt_of_le_of_lt (by with_reducible assumption) (by decide) | exact Nat.le_trans (by with_reducible assumption) (by decide) | omega); (case zqz => first | exact Nat.lt_of_lt_of_le (by with_reducible assumption) (by decide) | exact Nat.lt_of_le_of_lt (by with_reducible assumption) (by decide) | exact Nat.le_trans (by with_reducible assumption) (by decide) | omega)); intro _ _; (try dsimp only))))
        | (with_reducible ((with_reducible show wpAny _ _ (call (Value.builtin "list.pop") _ _) _ _ _); (k_here; (with_reducible show wpAny _ _ (call (Value.builtin _) [Value.ref _]) _ _ _); k_dflt (refine' popL ?zqF ?zqN ?zqe ?zqs ?zqn ?zqz ?_; (case zqF => k_asm); (case zqN => k_asm); (case zqe => assumption); (case zqs => assumption); (case zqn => first | exact Nat.lt_of_lt_of_le (by with_reducible assumption) (by decide) | exact Nat.lt_of_le_of_lt (by with_reducible assumption) (by decide) | exact Nat.le_trans (by with_reducible assumption) (by decide) | omega); (case zqz => first | exact Nat.lt_of_lt_of_le (by with_reducible assumption) (by decide) | exact Nat.lt_of_le_of_lt (by with_reducible assumption) (by decide) | exact Nat.le_trans (by with_reducible assumption) (by decide) | omega)); intro h9q y9q t9q F9q N9q; (try dsimp only))))
        | (with_reducible ((with_reducible show wpAny _ _ (call (Value.builtin "list.append") _ _) _ _ _); (k_here; (with_reducible show wpAny _ _ (call (Value.builtin _) [Value.ref _, _]) _ _ _); k_dflt (refine' appendL ?zqF ?zqN ?zqe ?zqz ?_; (case zqF => k_asm); (case zqN => k_asm); (case zqe => assumption); (case zqz => ((have hL9q := StrsAre.length (by assumption)); omega))); intro h9q F9q N9q; (try dsimp only))))
        | (with_reducible ((with_reducible show wpAny _ _ (subscriptTail (PySem.Expr.Name _ _) (PySem.Expr.UnaryOp _ _ _) (Value.ref _) (Value.int _ _)) _ _ _); (k_here; k_dflt (refine' lastL ?zqN ?zqm ?zqs ?zqz ?_ ?zqhs ?zqhg; (case zqN => k_asm); (case zqm => k_mem); (case zqs => assumption); (case zqz => first | exact Nat.lt_of_lt_of_le (by with_reducible assumption) (by decide) | exact Nat.lt_of_le_of_lt (by with_reducible assumption) (by decide) | exact Nat.le_trans (by with_reducible assumption) (by decide) | omega); (case zqhs => with_unfolding_all rfl); (case zqhg => (intro _; with_unfolding_all rfl))); intro _; (try dsimp only))))
        | (with_reducible ((with_reducible show wpAny _ _ (truthy (Value.ref _)) _ _ _); (k_here; (with_reducible show wpAny _ _ (truthy (Value.ref _)) _ _ _); k_dflt (refine' truthyL ?zqN ?zqm ?zqs ?zqz ?_; (case zqN => k_asm); (case zqm => k_mem); (case zqs => assumption); (case zqz => first | exact Nat.lt_of_lt_of_le (by with_reducible assumption) (by decide) | exact Nat.lt_of_le_of_lt (by with_reducible assumption) (by decide) | exact Nat.le_trans (by with_reducible assumption) (by decide) | omega)); (try dsimp only))))
        | (with_reducible ((with_reducible show wpAny _ _ (call (Value.ref _) _ _) _ _ _); (first | ((k_here; k_dflt ( refine' useT (splitroot_ok _ _ _ _ _ _ _ _ _ ?zqkx) ?zqk1 ?zqk2 ?zqk3 ?zqk4 ?zqk5 ?zqkK ?zqkp ?zqkd ?zqku ?_); (case zqkx => first | assumption | omega); (((case zqk1 => k_asm); (case zqk2 => k_asm); (case zqk3 => k_asm); (case zqk4 => k_asm); (case zqk5 => k_asm); (case zqkK => first | exact rfl | assumption); (case zqkp => first | trivial | assumption); (case zqkd => first | decide | (rw [Nat.add_assoc]; exact dp_le hdp (by decide)) | ktr_room); (case zqku => first | decide | (rw [Nat.add_assoc]; exact un_le hun (by decide)) | ktr_units))); intro d9q ts9q h9q tk9q F9q N9q S9q l9q; (obtain ⟨t7q, u7q, v7q, e7q⟩ := strs3 S9q; subst e7q; clear S9q); (try dsimp only); (try k_fold))) | ((k_here; k_dflt (first | refine' useS (fspath_ok _ _ _ _ _ _ _ _ _) ?zqk1 ?zqk2 ?zqk3 ?zqk4 ?zqk5 ?zqkK ?zqkp ?zqkd ?zqku ?_ | refine' useS (get_sep_ok _ _ _ _ _ _ _ _ _) ?zqk1 ?zqk2 ?zqk3 ?zqk4 ?zqk5 ?zqkK ?zqkp ?zqkd ?zqku ?_); (((case zqk1 => k_asm); (case zqk2 => k_asm); (case zqk3 => k_asm); (case zqk4 => k_asm); (case zqk5 => k_asm); (case zqkK => first | exact rfl | assumption); (case zqkp => first | trivial | assumption); (case zqkd => first | decide | (rw [Nat.add_assoc]; exact dp_le hdp (by decide)) | ktr_room); (case zqku => first | decide | (rw [Nat.add_assoc]; exact un_le hun (by decide)) | ktr_units))); intro t9q h9q tk9q F9q N9q; (try dsimp only); (try k_fold))))))
        | walk1
        | (dsimp only; walk1)
        | (leave1; (try dsimp only))
        | fail "no step"))
  · rename News _ _ _ _ => nN
    rename Fr _ _ _ _ => nF
    rename StrsAre _ _ => nS
    rename _ = Txt.split _ _ => nE
    rename _ ∧ _ ∧ AllLt _ _ => nL
    rw [nE] at nS
    have hlen : ∀ y ∈ Txt.split (pathF x) (Str.ofString "/"), y.length ≤ (pathF x).length := by rw [← nE]; assumption
    have hw := split_weight (pathF x) (Str.ofString "/") (by decide)
    with_unfolding_all refine' listLoop (stepF (rootF x)) [] ?h1 ?h2 nS StrsAre.nil nF nN ?h3 ?_ ?_
    case h1 => rfl
    case h2 => exact .head _
    case h3 => 
      intro p hp
      rcases List.mem_cons.mp hp with rfl | hp
      · exact Nat.ne_of_lt nL.1
      rcases List.mem_cons.mp hp with rfl | hp
      · exact Nat.ne_of_lt nL.2.1
      · exact Nat.ne_of_lt (kst_ltOf nL.2.2 p hp)
    · clear nN nF
      intro i y t us c rest h tk hy hu hne F N
      have hyl : y.length < 1000 := by
        have := hlen y (List.mem_of_getElem? hy)
        omega
      have hal : (((Txt.split (pathF x) (Str.ofString "/")).take i).foldl (stepF (rootF x)) []).length ≤ 2000 := by
        have h1 := wt_step (rootF x) ((Txt.split (pathF x) (Str.ofString "/")).take i) []
        have h2 : (((Txt.split (pathF x) (Str.ofString "/")).take i).map (·.length)).sum ≤ ((Txt.split (pathF x) (Str.ofString "/")).map (·.length)).sum := by
          rw [List.map_take]
          conv => rhs; rw [← List.take_append_drop i ((Txt.split (pathF x) (Str.ofString "/")).map (·.length))]
          rw [List.sum_append]; omega
        have h3 : ((Txt.split (pathF x) (Str.ofString "/")).take i).length ≤ (Txt.split (pathF x) (Str.ofString "/")).length := by rw [List.length_take]; omega
        simp only [List.map_nil, List.sum_nil, List.length_nil] at h1
        omega
      generalize hacc : ((Txt.split (pathF x) (Str.ofString "/")).take i).foldl (stepF (rootF x)) [] = acc at hu hal ⊢
      clear hacc nL hlen nE nS hw
      (repeat' (first
        | (k_unfold; (try dsimp only))
        | (k_end; wrow_close)
        | ((with_reducible show wpAny _ _ (exec _ _) _ _ _); k_fold)
        | (with_reducible ((with_reducible show wpAny _ _ (exec (Stmt.For _ _ _ _ _) _) _ _ _); (k_here; (rename Fr _ _ _ _ => lF'q); (with_unfolding_all refine' For_invVF lF'q ?zqk1 ?zqk2 ?_; (case zqk1 => exact rfl); (case zqk2 => exact rfl); k_whole))))
        | (with_reducible ((with_reducible show wpAny _ _ (call (Value.builtin "str.join") _ _) _ _ _); (k_here; (with_reducible show wpAny _ _ (call (Value.builtin "str.join") [Value.str _ _, Value.ref _]) _ _ _); k_dflt (refine' joinL ?zqN ?zqm ?zqs ?zqx ?zqw ?zqz ?_; (case zqN => k_asm); (case zqm => k_mem); (case zqs => assumption); (case zqx => decide); (case zqw => first | exact Nat.lt_of_lt_of_le (by with_reducible assumption) (by decide) | exact Nat.lt_of_le_of_lt (by with_reducible assumption) (by decide) | exact Nat.le_trans (by with_reducible assumption) (by decide) | omega); (case zqz => first | exact Nat.lt_of_lt_of_le (by with_reducible assumption) (by decide) | exact Nat.lt_of_le_of_lt (by with_reducible assumption) (by decide) | exact Nat.le_trans (by with_reducible assumption) (by decide) | omega)); intro _ _; (try dsimp only))))
        | (with_reducible ((with_reducible show wpAny _ _ (call (Value.builtin "list.pop") _ _) _ _ _); (k_here; (with_reducible show wpAny _ _ (call (Value.builtin _) [Value.ref _]) _ _ _); k_dflt (refine' popL ?zqF ?zqN ?zqe ?zqs ?zqn ?zqz ?_; (case zqF => k_asm); (case zqN => k_asm); (case zqe => assumption); (case zqs => assumption); (case zqn => first | exact Nat.lt_of_lt_of_le (by with_reducible assumption) (by decide) | exact Nat.lt_of_le_of_lt (by with_reducible assumption) (by decide) | exact Nat.le_trans (by with_reducible assumption) (by decide) | omega); (case zqz => first | exact Nat.lt_of_lt_of_le (by with_reducible assumption) (by decide) | exact Nat.lt_of_le_of_lt (by with_reducible assumption) (by decide) | exact Nat.le_trans (by with_reducible assumption) (by decide) | omega)); intro h9q y9q t9q F9q N9q; (try dsimp only))))
        | (with_reducible ((with_reducible show wpAny _ _ (call (Value.builtin "list.append") _ _) _ _ _); (k_here; (with_reducible show wpAny _ _ (call (Value.builtin _) [Value.ref _, _]) _ _ _); k_dflt (refine' appendL ?zqF ?zqN ?zqe ?zqz ?_; (case zqF => k_asm); (case zqN => k_asm); (case zqe => assumption); (case zqz => ((have hL9q := StrsAre.length (by assumption)); omega))); intro h9q F9q N9q; (try dsimp only))))
        | (with_reducible ((with_reducible show wpAny _ _ (subscriptTail (PySem.Expr.Name _ _) (PySem.Expr.UnaryOp _ _ _) (Value.ref _) (Value.int _ _)) _ _ _); (k_here; k_dflt (refine' lastL ?zqN ?zqm ?zqs ?zqz ?_ ?zqhs ?zqhg; (case zqN => k_asm); (case zqm => k_mem); (case zqs => assumption); (case zqz => first | exact Nat.lt_of_lt_of_le (by with_reducible assumption) (by decide) | exact Nat.lt_of_le_of_lt (by with_reducible assumption) (by decide) | exact Nat.le_trans (by with_reducible assumption) (by decide) | omega); (case zqhs => with_unfolding_all rfl); (case zqhg => (intro _; with_unfolding_all rfl))); intro _; (try dsimp only))))
        | (with_reducible ((with_reducible show wpAny _ _ (truthy (Value.ref _)) _ _ _); (k_here; (with_reducible show wpAny _ _ (truthy (Value.ref _)) _ _ _); k_dflt (refine' truthyL ?zqN ?zqm ?zqs ?zqz ?_; (case zqN => k_asm); (case zqm => k_mem); (case zqs => assumption); (case zqz => first | exact Nat.lt_of_lt_of_le (by with_reducible assumption) (by decide) | exact Nat.lt_of_le_of_lt (by with_reducible assumption) (by decide) | exact Nat.le_trans (by with_reducible assumption) (by decide) | omega)); (try dsimp only))))
        | (with_reducible ((with_reducible show wpAny _ _ (call (Value.ref _) _ _) _ _ _); (first | ((k_here; k_dflt ( refine' useT (splitroot_ok _ _ _ _ _ _ _ _ _ ?zqkx) ?zqk1 ?zqk2 ?zqk3 ?zqk4 ?zqk5 ?zqkK ?zqkp ?zqkd ?zqku ?_); (case zqkx => first | assumption | omega); (((case zqk1 => k_asm); (case zqk2 => k_asm); (case zqk3 => k_asm); (case zqk4 => k_asm); (case zqk5 => k_asm); (case zqkK => first | exact rfl | assumption); (case zqkp => first | trivial | assumption); (case zqkd => first | decide | (rw [Nat.add_assoc]; exact dp_le hdp (by decide)) | ktr_room); (case zqku => first | decide | (rw [Nat.add_assoc]; exact un_le hun (by decide)) | ktr_units))); intro d9q ts9q h9q tk9q F9q N9q S9q l9q; (obtain ⟨t7q, u7q, v7q, e7q⟩ := strs3 S9q; subst e7q; clear S9q); (try dsimp only); (try k_fold))) | ((k_here; k_dflt (first | refine' useS (fspath_ok _ _ _ _ _ _ _ _ _) ?zqk1 ?zqk2 ?zqk3 ?zqk4 ?zqk5 ?zqkK ?zqkp ?zqkd ?zqku ?_ | refine' useS (get_sep_ok _ _ _ _ _ _ _ _ _) ?zqk1 ?zqk2 ?zqk3 ?zqk4 ?zqk5 ?zqkK ?zqkp ?zqkd ?zqku ?_); (((case zqk1 => k_asm); (case zqk2 => k_asm); (case zqk3 => k_asm); (case zqk4 => k_asm); (case zqk5 => k_asm); (case zqkK => first | exact rfl | assumption); (case zqkp => first | trivial | assumption); (case zqkd => first | decide | (rw [Nat.add_assoc]; exact dp_le hdp (by decide)) | ktr_room); (case zqku => first | decide | (rw [Nat.add_assoc]; exact un_le hun (by decide)) | ktr_units))); intro t9q h9q tk9q F9q N9q; (try dsimp only); (try k_fold))))))
        | walk1
        | (dsimp only; walk1)
        | (leave1; (try dsimp only))
        | fail "no step"))
      all_goals (try dsimp only)
      all_goals (try k_unfold)
      all_goals (refine lpost_end (by first | exact .inl rfl | exact .inr rfl) (by k_asm) (by intro z hz; exact if_neg hz) (by k_asm) ?_)
      all_goals (first
        | (rw [st1 (by with_reducible assumption)]; exact hu)
        | (rw [st2 (by with_reducible assumption) (by with_reducible assumption)]; exact hu)
        | (rw [st3 (by with_reducible assumption) (by with_reducible assumption) (by with_reducible assumption)]; exact strsAre_append hu (.cons _ _ .nil))
        | (rw [st4 (by with_reducible assumption) (by with_reducible assumption) (by with_reducible assumption) (by with_reducible assumption) (by with_reducible assumption)]; exact strsAre_append hu (.cons _ _ .nil))
        | (rw [st5 (by with_reducible assumption) (by with_reducible assumption) (by with_reducible assumption) (by with_reducible assumption) (by with_reducible assumption)]; exact strsAre_append hu (.cons _ _ .nil))
        | (rw [st6 (by with_reducible assumption) (by with_reducible assumption) (by with_reducible assumption) (by with_reducible assumption) (by with_reducible assumption)]; exact strsAre_dropLast hu)
        | (rw [st7 (by with_reducible assumption) (by with_reducible assumption) (by with_reducible assumption) (by with_reducible assumption) (by with_reducible assumption)]; exact hu)
        | (exfalso; omega))
    · intro us c u h tk hu F N
      have h1 := wt_step (rootF x) (Txt.split (pathF x) (Str.ofString "/")) []
      simp only [List.map_nil, List.sum_nil, List.length_nil] at h1
      have hj := StrLaws.join_length_le (Str.ofString "/") (List.foldl (stepF (rootF x)) [] (Txt.split (pathF x) (Str.ofString "/")))
      rw [← StrLaws.glued_eq_join, show (Str.ofString "/").length = 1 from rfl, Nat.mul_one] at hj
      change (Txt.join (Str.ofString "/") _).length ≤ _ at hj
      have b1 : ((List.foldl (stepF (rootF x)) [] (Txt.split (pathF x) (Str.ofString "/"))).map (·.length)).sum ≤ 1000 := by omega
      have b2 : (List.foldl (stepF (rootF x)) [] (Txt.split (pathF x) (Str.ofString "/"))).length ≤ 1000 := by omega
      have b3 : (Txt.join (Str.ofString "/") (List.foldl (stepF (rootF x)) [] (Txt.split (pathF x) (Str.ofString "/")))).length ≤ 2000 := by omega
      clear nL hlen nE nS nN nF h1 hj hw
      (repeat' (first
        | (k_unfold; (try dsimp only))
        | (k_end; wrow_close)
        | ((with_reducible show wpAny _ _ (exec _ _) _ _ _); k_fold)
        | (with_reducible ((with_reducible show wpAny _ _ (exec (Stmt.For _ _ _ _ _) _) _ _ _); (k_here; (rename Fr _ _ _ _ => lF'q); (with_unfolding_all refine' For_invVF lF'q ?zqk1 ?zqk2 ?_; (case zqk1 => exact rfl); (case zqk2 => exact rfl); k_whole))))
        | (with_reducible ((with_reducible show wpAny _ _ (call (Value.builtin "str.join") _ _) _ _ _); (k_here; (with_reducible show wpAny _ _ (call (Value.builtin "str.join") [Value.str _ _, Value.ref _]) _ _ _); k_dflt (refine' joinL ?zqN ?zqm ?zqs ?zqx ?zqw ?zqz ?_; (case zqN => k_asm); (case zqm => k_mem); (case zqs => assumption); (case zqx => decide); (case zqw => first | exact Nat.lt_of_lt_of_le (by with_reducible assumption) (by decide) | exact Nat.lt_of_le_of_lt (by with_reducible assumption) (by decide) | exact Nat.le_trans (by with_reducible assumption) (by decide) | omega); (case zqz => first | exact Nat.lt_of_lt_of_le (by with_reducible assumption) (by decide) | exact Nat.lt_of_le_of_lt (by with_reducible assumption) (by decide) | exact Nat.le_trans (by with_reducible assumption) (by decide) | omega)); intro _ _; (try dsimp only))))
        | (with_reducible ((with_reducible show wpAny _ _ (call (Value.builtin "list.pop") _ _) _ _ _); (k_here; (with_reducible show wpAny _ _ (call (Value.builtin _) [Value.ref _]) _ _ _); k_dflt (refine' popL ?zqF ?zqN ?zqe ?zqs ?zqn ?zqz ?_; (case zqF => k_asm); (case zqN => k_asm); (case zqe => assumption); (case zqs => assumption); (case zqn => first | exact Nat.lt_of_lt_of_le (by with_reducible assumption) (by decide) | exact Nat.lt_of_le_of_lt (by with_reducible assumption) (by decide) | exact Nat.le_trans (by with_reducible assumption) (by decide) | omega); (case zqz => first | exact Nat.lt_of_lt_of_le (by with_reducible assumption) (by decide) | exact Nat.lt_of_le_of_lt (by with_reducible assumption) (by decide) | exact Nat.le_trans (by with_reducible assumption) (by decide) | omega)); intro h9q y9q t9q F9q N9q; (try dsimp only))))
        | (with_reducible ((with_reducible show wpAny _ _ (call (Value.builtin "list.append") _ _) _ _ _); (k_here; (with_reducible show wpAny _ _ (call (Value.builtin _) [Value.ref _, _]) _ _ _); k_dflt (refine' appendL ?zqF ?zqN ?zqe ?zqz ?_; (case zqF => k_asm); (case zqN => k_asm); (case zqe => assumption); (case zqz => ((have hL9q := StrsAre.length (by assumption)); omega))); intro h9q F9q N9q; (try dsimp only))))
        | (with_reducible ((with_reducible show wpAny _ _ (subscriptTail (PySem.Expr.Name _ _) (PySem.Expr.UnaryOp _ _ _) (Value.ref _) (Value.int _ _)) _ _ _); (k_here; k_dflt (refine' lastL ?zqN ?zqm ?zqs ?zqz ?_ ?zqhs ?zqhg; (case zqN => k_asm); (case zqm => k_mem); (case zqs => assumption); (case zqz => first | exact Nat.lt_of_lt_of_le (by with_reducible assumption) (by decide) | exact Nat.lt_of_le_of_lt (by with_reducible assumption) (by decide) | exact Nat.le_trans (by with_reducible assumption) (by decide) | omega); (case zqhs => with_unfolding_all rfl); (case zqhg => (intro _; with_unfolding_all rfl))); intro _; (try dsimp only))))
        | (with_reducible ((with_reducible show wpAny _ _ (truthy (Value.ref _)) _ _ _); (k_here; (with_reducible show wpAny _ _ (truthy (Value.ref _)) _ _ _); k_dflt (refine' truthyL ?zqN ?zqm ?zqs ?zqz ?_; (case zqN => k_asm); (case zqm => k_mem); (case zqs => assumption); (case zqz => first | exact Nat.lt_of_lt_of_le (by with_reducible assumption) (by decide) | exact Nat.lt_of_le_of_lt (by with_reducible assumption) (by decide) | exact Nat.le_trans (by with_reducible assumption) (by decide) | omega)); (try dsimp only))))
        | (with_reducible ((with_reducible show wpAny _ _ (call (Value.ref _) _ _) _ _ _); (first | ((k_here; k_dflt ( refine' useT (splitroot_ok _ _ _ _ _ _ _ _ _ ?zqkx) ?zqk1 ?zqk2 ?zqk3 ?zqk4 ?zqk5 ?zqkK ?zqkp ?zqkd ?zqku ?_); (case zqkx => first | assumption | omega); (((case zqk1 => k_asm); (case zqk2 => k_asm); (case zqk3 => k_asm); (case zqk4 => k_asm); (case zqk5 => k_asm); (case zqkK => first | exact rfl | assumption); (case zqkp => first | trivial | assumption); (case zqkd => first | decide | (rw [Nat.add_assoc]; exact dp_le hdp (by decide)) | ktr_room); (case zqku => first | decide | (rw [Nat.add_assoc]; exact un_le hun (by decide)) | ktr_units))); intro d9q ts9q h9q tk9q F9q N9q S9q l9q; (obtain ⟨t7q, u7q, v7q, e7q⟩ := strs3 S9q; subst e7q; clear S9q); (try dsimp only); (try k_fold))) | ((k_here; k_dflt (first | refine' useS (fspath_ok _ _ _ _ _ _ _ _ _) ?zqk1 ?zqk2 ?zqk3 ?zqk4 ?zqk5 ?zqkK ?zqkp ?zqkd ?zqku ?_ | refine' useS (get_sep_ok _ _ _ _ _ _ _ _ _) ?zqk1 ?zqk2 ?zqk3 ?zqk4 ?zqk5 ?zqkK ?zqkp ?zqkd ?zqku ?_); (((case zqk1 => k_asm); (case zqk2 => k_asm); (case zqk3 => k_asm); (case zqk4 => k_asm); (case zqk5 => k_asm); (case zqkK => first | exact rfl | assumption); (case zqkp => first | trivial | assumption); (case zqkd => first | decide | (rw [Nat.add_assoc]; exact dp_le hdp (by decide)) | ktr_room); (case zqku => first | decide | (rw [Nat.add_assoc]; exact un_le hun (by decide)) | ktr_units))); intro t9q h9q tk9q F9q N9q; (try dsimp only); (try k_fold))))))
        | walk1
        | (dsimp only; walk1)
        | (leave1; (try dsimp only))
        | fail "no step"))
      · ((refine' endS ?zqr ?_ ?zqf ?zqn ?zqs; (case zqr => first | with_reducible assumption | assumption); (case zqf => k_asm); (case zqn => k_asm); (case zqs => ((intro pq hpq; first | with_reducible exact hpq | (refine List.mem_cons_of_mem _ ?_; with_reducible exact hpq) | (refine List.mem_cons_of_mem _ (List.mem_cons_of_mem _ ?_); with_reducible exact hpq) | (refine List.mem_cons_of_mem _ (List.mem_cons_of_mem _ (List.mem_cons_of_mem _ ?_)); with_reducible exact hpq) | (refine List.mem_cons_of_mem _ (List.mem_cons_of_mem _ (List.mem_cons_of_mem _ (List.mem_cons_of_mem _ ?_))); with_reducible exact hpq))))))
        exact (normF_eq1 (by with_reducible assumption) (by with_reducible assumption)).symm
      · ((refine' endS ?zqr ?_ ?zqf ?zqn ?zqs; (case zqr => first | with_reducible assumption | assumption); (case zqf => k_asm); (case zqn => k_asm); (case zqs => ((intro pq hpq; first | with_reducible exact hpq | (refine List.mem_cons_of_mem _ ?_; with_reducible exact hpq) | (refine List.mem_cons_of_mem _ (List.mem_cons_of_mem _ ?_); with_reducible exact hpq) | (refine List.mem_cons_of_mem _ (List.mem_cons_of_mem _ (List.mem_cons_of_mem _ ?_)); with_reducible exact hpq) | (refine List.mem_cons_of_mem _ (List.mem_cons_of_mem _ (List.mem_cons_of_mem _ (List.mem_cons_of_mem _ ?_))); with_reducible exact hpq))))))
        exact (normF_eq2 (by with_reducible assumption) (by with_reducible assumption)).symm
  · ((refine' endS ?zqr ?_ ?zqf ?zqn ?zqs; (case zqr => first | with_reducible assumption | assumption); (case zqf => k_asm); (case zqn => k_asm); (case zqs => ((intro pq hpq; first | with_reducible exact hpq | (refine List.mem_cons_of_mem _ ?_; with_reducible exact hpq) | (refine List.mem_cons_of_mem _ (List.mem_cons_of_mem _ ?_); with_reducible exact hpq) | (refine List.mem_cons_of_mem _ (List.mem_cons_of_mem _ (List.mem_cons_of_mem _ ?_)); with_reducible exact hpq) | (refine List.mem_cons_of_mem _ (List.mem_cons_of_mem _ (List.mem_cons_of_mem _ (List.mem_cons_of_mem _ ?_))); with_reducible exact hpq))))))
    exact (normF_eq0 (by with_reducible assumption)).symm
end
end
section
set_option maxRecDepth 100000
set_option maxHeartbeats 8000000
section
variable {prog : Program} {w : World} {A : Around} {E : Value → Shared → Prop} {s : Shared} {env : Env} {h₀ : Heap} {body : List Stmt} {Q : Flow → Shared → Prop} {target : Expr}
theorem allObj_mono : ∀ {ws : List (Addr × String)} {k k' : List (Addr × Obj) → Prop}, (∀ its, k its → k' its) → AllObj ws k → AllObj ws k'
  | [], _, _, h, x => h _ x
  | _ :: _, _, _, h, x => fun o ho => allObj_mono (fun its => h (_ :: its)) (x o ho)
theorem restInd {ws : List (Addr × String)} {keep : List (Addr × Obj)} (J : List Itm → (Str → Option Value) → List (Addr × Obj) → Prop)
    (turn : ∀ a r m news, J (a :: r) m news → ∀ v h tk, a.Is v h → Fr h₀ env.locals h m → AllObj ws (fun its => News h₀ env.locals h (its ++ news) →
      wpAny (model prog w) A (assign target env v) (fun _ s₂ => wpAny (model prog w) A (execs body env) (UnrPostW h₀ env.locals { s with heap := h, toks := tk } its (fun m' n' => SubL keep n' ∧ J r m' n') Q) E s₂) E { s with heap := h, toks := tk }))
    (done : ∀ m news, J [] m news → ∀ h tk, Fr h₀ env.locals h m → News h₀ env.locals h news → Q .next { s with heap := h, toks := tk }) :
    ∀ xs m news, J xs m news → ItemsRest prog w A E h₀ env target body Q s ws keep xs m news := by
  intro xs
  induction xs with
  | nil => exact fun m news hJ => ItemsRest.zero (done m news hJ)
  | cons a r ih =>
    intro m news hJ v h tk hv F
    refine allObj_mono (fun its hk N => ?_) (turn a r m news hJ v h tk hv F)
    refine wpAny_mono (hk N) (fun _ s₂ h₂ => wpAny_mono h₂ (fun f s₃ p => ?_) fun _ _ e => e) fun _ _ e => e
    have up : UnrEndW h₀ env.locals { s with heap := h, toks := tk } its (fun m' n' => SubL keep n' ∧ J r m' n') s₃ →
        UnrEndW h₀ env.locals { s with heap := h, toks := tk } its (fun m' n' => SubL keep n' ∧ ItemsRest prog w A E h₀ env target body Q s ws keep r m' n') s₃ := by
      rintro ⟨h', tk', m', news', e, F', N', hne, hk, hJ'⟩
      exact ⟨h', tk', m', news', e, F', N', hne, hk, ih m' news' hJ'⟩
    cases f with
    | ret v => exact p
    | brk => exact p
    | next => exact up p
    | cont => exact up p

/-- what a turn leaves: the text at the name y turned -/
noncomputable def TPost (h₀ : Heap) (L : Addr) (x y : Str) (m₀ : Str → Option Value) (P : Str → Prop) (led : List (Addr × Obj)) (s₁ : Shared) (Q : Flow → Shared → Prop) (f : Flow) (s₂ : Shared) : Prop :=
  match f with
  | .ret v => Q (.ret v) s₂
  | .brk => Q .next s₂
  | _ => ∃ h' tk c u m' led', s₂ = { s₁ with heap := h', toks := tk } ∧ Fr h₀ L h' m' ∧ m' y = some (.str c u) ∧ (∀ z, z ≠ x → z ≠ y → m' z = m₀ z) ∧ News h₀ L h' led' ∧ (∀ p ∈ led, p ∈ led') ∧ P c
theorem tpost_end {L : Addr} {x y : Str} {m₀ m' : Str → Option Value} {P : Str → Prop} {led led' : List (Addr × Obj)} {s₁ : Shared} {f : Flow} {h' : Heap} {tk : Nat} {c : Str} {u : Tok}
    (hf : f = .next ∨ f = .cont) (F : Fr h₀ L h' m') (hy : m' y = some (.str c u)) (hm : ∀ z, z ≠ x → z ≠ y → m' z = m₀ z) (N : News h₀ L h' led') (hs : ∀ p ∈ led, p ∈ led') (hP : P c) : TPost h₀ L x y m₀ P led s₁ Q f { s₁ with heap := h', toks := tk } := by
  rcases hf with rfl | rfl <;> exact ⟨h', tk, c, u, m', led', rfl, F, hy, hm, N, hs, hP⟩
theorem subL_of {l all : List (Addr × Obj)} (h : ∀ p ∈ l, p ∈ all) : SubL l all := by
  induction l with
  | nil => trivial
  | cons p r ih => exact ⟨h p (.head _), ih fun q hq => h q (.tail _ hq)⟩
theorem tupFold {ax : Addr} {ts : List Value} {ys : List Str} {x y : Str} {m₀ : Str → Option Value} {news : List (Addr × Obj)} {c₀ : Str} {u₀ : Tok} (P : List Str → Str → Prop) (hxy : y ≠ x)
    (hh : A.handled = none) (hm : (ax, tupO ts) ∈ news) (hs : StrsAre ts ys) (F : Fr h₀ env.locals s.heap (fun z => if z = y then some (.str c₀ u₀) else m₀ z)) (N : News h₀ env.locals s.heap news) (hP : P ys c₀)
    (turn : ∀ v r t c u ux h tk led, P (v :: r) c → Fr h₀ env.locals h (fun z => if z = x then ux else if z = y then some (.str c u) else m₀ z) → News h₀ env.locals h led →
      wpAny (model prog w) A (assign target env (.str v t)) (fun _ s₂ => wpAny (model prog w) A (execs body env) (TPost h₀ env.locals x y m₀ (P r) led { s with heap := h, toks := tk } Q) E s₂) E { s with heap := h, toks := tk })
    (done : ∀ c u ux h tk, P [] c → Fr h₀ env.locals h (fun z => if z = x then ux else if z = y then some (.str c u) else m₀ z) → News h₀ env.locals h news → Q .next { s with heap := h, toks := tk }) :
    wpAny (model prog w) A (pyIter (.ref ax)) (fun it s₂ => TurnsAt prog w A h₀ env target body Q E it s₂) E s := by
  refine iter_tupTurns (vs := ts) (n := 0) hh F N hm rfl rfl fun I hI => ?_
  refine restInd (fun its m nw => nw = news ∧ ∃ r vs c u, its = vs.map .val ∧ StrsAre vs r ∧ m y = some (.str c u) ∧ (∀ z, z ≠ x → z ≠ y → m z = m₀ z) ∧ P r c) ?_ ?_ _ _ _ ⟨rfl, ys, ts, c₀, u₀, rfl, hs, if_pos rfl, fun z _ hz => if_neg hz, hP⟩
  · rintro a r m nw ⟨rfl, ys', vs, c, u, hi, hs', hy, hz, hP'⟩ v h tk hv F₁ o ho N₁
    cases hs' with
    | nil => cases hi
    | @cons y' t' vs' yr hr =>
      rw [List.map_cons] at hi
      obtain ⟨rfl, rfl⟩ := List.cons.inj hi
      have hv' : v = .str y' t' := hv
      subst hv'
      have em : m = fun z => if z = x then m x else if z = y then some (.str c u) else m₀ z := by
        funext z
        by_cases h1 : z = x
        · simp [h1]
        · simp only [if_neg h1]
          by_cases h2 : z = y
          · subst h2; simp [hy]
          · simp only [if_neg h2]; exact hz z h1 h2
      rw [em] at F₁
      refine wpAny_mono (turn y' _ t' c u (m x) h tk _ hP' F₁ N₁) (fun _ s₂ h₂ => wpAny_mono h₂ (fun f s₃ p => ?_) fun _ _ e => e) fun _ _ e => e
      have up : (∃ h' tk' c u m' led', s₃ = { ({ s with heap := h, toks := tk } : Shared) with heap := h', toks := tk' } ∧ Fr h₀ env.locals h' m' ∧ m' y = some (.str c u) ∧ (∀ z, z ≠ x → z ≠ y → m' z = m₀ z) ∧ News h₀ env.locals h' led' ∧ (∀ p ∈ [(I, o)] ++ nw, p ∈ led') ∧ P yr c) →
          UnrEndW h₀ env.locals { s with heap := h, toks := tk } [(I, o)] (fun m' n' => SubL [(ax, tupO ts)] n' ∧ (n' = nw ∧ ∃ r'' vs'' c u, vs'.map Itm.val = vs''.map Itm.val ∧ StrsAre vs'' r'' ∧ m' y = some (.str c u) ∧ (∀ z, z ≠ x → z ≠ y → m' z = m₀ z) ∧ P r'' c)) s₃ := by
        rintro ⟨h', tk', c', u', m', led', rfl, F', hy', hz', N', hs'', hP''⟩
        refine ⟨h', tk', m', nw, rfl, F', fun p hp => N' p (hs'' p hp), ?_, ⟨hm, trivial⟩, rfl, _, _, c', u', rfl, hr, hy', hz', hP''⟩
        intro p hp q hq
        rw [List.mem_singleton.mp hq]
        exact Nat.ne_of_lt (hI p hp)
      cases f with
      | ret v => exact p
      | brk => exact p
      | next => exact up p
      | cont => exact up p
  · rintro m nw ⟨rfl, ys', vs, c, u, hi, hs', hy, hz, hP'⟩ h tk F₁ N₁
    have hv : vs = [] := by cases vs with | nil => rfl | cons _ _ => cases hi
    subst hv
    cases hs'
    refine done c u (m x) h tk hP' ?_ N₁
    have em : (fun z => if z = x then m x else if z = y then some (Value.str c u) else m₀ z) = m := by
      funext z
      by_cases h1 : z = x
      · simp [h1]
      · simp only [if_neg h1]
        by_cases h2 : z = y
        · subst h2; simp [hy]
        · simp only [if_neg h2]; exact (hz z h1 h2).symm
    rw [em]; exact F₁
end
end
section
theorem calmC3 : True := by w_top off; trivial
set_option maxRecDepth 100000
set_option maxHeartbeats 8000000
set_option linter.unusedSimpArgs false
noncomputable def joinStep (c v : Str) : Str := if Txt.startswith v sl = true then v else if (c.length : Int) = 0 then v else if Txt.endswith c sl = true then c ++ v else c ++ (sl ++ v)
section
variable {c v : Str}
theorem js1 (h : Txt.startswith v sl = true) : joinStep c v = v := by unfold joinStep; rw [if_pos h]
theorem js2 (h : Txt.startswith v sl = false) (h1 : (c.length : Int) = 0) : joinStep c v = v := by unfold joinStep; rw [if_neg (by rw [h]; exact Bool.false_ne_true), if_pos h1]
theorem js3 (h : Txt.startswith v sl = false) (h1 : (c.length : Int) ≠ 0) (h2 : Txt.endswith c sl = true) : joinStep c v = c ++ v := by unfold joinStep; rw [if_neg (by rw [h]; exact Bool.false_ne_true), if_neg h1, if_pos h2]
theorem js4 (h : Txt.startswith v sl = false) (h1 : (c.length : Int) ≠ 0) (h2 : Txt.endswith c sl = false) : joinStep c v = c ++ (sl ++ v) := by
  unfold joinStep; rw [if_neg (by rw [h]; exact Bool.false_ne_true), if_neg h1, if_neg (by rw [h2]; exact Bool.false_ne_true)]
end
section
variable (w : World) (p : Program) (loose : List Str) (mean : ExcName → Option Value) (mg mb : Str → Option Value) (news : List (Addr × Obj))

theorem join2_ok (x y : Str) (t u : Tok) (h : x.length < 600) (h' : y.length < 600) : ClS 2 w p loose mean mg mb 115 news True [.str x t, .str y u] (joinStep x y) := by
  ((dsimp only [ClS, ClT]; k_fill; intro dp un gd cn cs a ccd cl outer A₀ base h₀ L m s Q E B0 F0 X0 N0 T0 hk hp hdp hun hret; refine wpAny_call ?_; k_dflt (refine' kp_rest ?zqk1 ?zqk2 ?zqk3 ?zqk4 ?zqk5 ?zqkA ?zqkF ?zqkK ?zqk6 ?zqk7 ?zqk8 ?zqkV ?zqkP ?zqkG ?zqkB ?_ ?zqc2 ?zqc3 ?zqc4 ?zqc5; (case zqkA => exact rfl); (case zqkF => exact rfl); (case zqkK => assumption); (case zqk1 => k_asm); (case zqk2 => k_asm); (case zqk3 => k_asm); (case zqk4 => k_asm); (case zqk5 => k_asm); (case zqk6 => k_is); (case zqk7 => k_is); (case zqk8 => ktr_room); (case zqkV => kl_lit); (case zqkP => exact rfl); (case zqkG => exact fun _ => rfl); (case zqkB => exact fun _ => locs rfl); (case zqc5 => decide); (case zqc2 => exact rfl); (case zqc3 => exact rfl); (case zqc4 => exact rfl); k_whole; intro D' g' L' h' l1 FG' F' N' B' X' T'; (try k_lt l1); (try dsimp only); (try k_lift B'); (try k_fold))))
  (repeat' (first
        | (k_unfold; (try dsimp only))
        | (k_end; wrow_close)
        | ((with_reducible show wpAny _ _ (exec _ _) _ _ _); k_fold)
        | (with_reducible ((with_reducible show wpAny _ _ (exec (Stmt.For _ _ _ _ _) _) _ _ _); (k_here; (rename Fr _ _ _ _ => lF'q); (with_unfolding_all refine' For_turns lF'q ?_; k_whole))))
        | (with_reducible ((with_reducible show wpAny _ _ (call (Value.ref _) _ _) _ _ _); (k_here; k_dflt (first | refine' useS (fspath_ok _ _ _ _ _ _ _ _ _) ?zqk1 ?zqk2 ?zqk3 ?zqk4 ?zqk5 ?zqkK ?zqkp ?zqkd ?zqku ?_ | refine' useS (get_sep_ok _ _ _ _ _ _ _ _ _) ?zqk1 ?zqk2 ?zqk3 ?zqk4 ?zqk5 ?zqkK ?zqkp ?zqkd ?zqku ?_); (((case zqk1 => k_asm); (case zqk2 => k_asm); (case zqk3 => k_asm); (case zqk4 => k_asm); (case zqk5 => k_asm); (case zqkK => first | exact rfl | assumption); (case zqkp => first | trivial | assumption); (case zqkd => first | decide | (rw [Nat.add_assoc]; exact dp_le hdp (by decide)) | ktr_room); (case zqku => first | decide | (rw [Nat.add_assoc]; exact un_le hun (by decide)) | ktr_units))); intro t9q h9q tk9q F9q N9q; (try dsimp only); (try k_fold))))
        | walk1
        | (dsimp only; walk1)
        | (leave1; (try dsimp only))
        | fail "no step"))
  rename News _ _ _ _ => nN
  rename Fr _ _ _ _ => nF
  with_unfolding_all refine' tupFold (x := Str.ofString "b") (y := Str.ofString "path") (fun r c => r.foldl joinStep c = joinStep x y ∧ c.length + (r.map (fun v => v.length + 1)).sum < 2000) (by decide) ?h1 ?h2 (.cons y u .nil) nF nN ?h3 ?_ ?_
  case h1 => rfl
  case h2 => exact .head _
  case h3 => exact ⟨rfl, by simp; omega⟩
  · clear nN nF
    intro v r t c u ux h tk led hP F N
    obtain ⟨hP, hl⟩ := hP
    rw [List.map_cons, List.sum_cons] at hl
    rw [List.foldl_cons] at hP
    (repeat' (first
        | (k_unfold; (try dsimp only))
        | (k_end; wrow_close)
        | ((with_reducible show wpAny _ _ (exec _ _) _ _ _); k_fold)
        | (with_reducible ((with_reducible show wpAny _ _ (exec (Stmt.For _ _ _ _ _) _) _ _ _); (k_here; (rename Fr _ _ _ _ => lF'q); (with_unfolding_all refine' For_turns lF'q ?_; k_whole))))
        | (with_reducible ((with_reducible show wpAny _ _ (call (Value.ref _) _ _) _ _ _); (k_here; k_dflt (first | refine' useS (fspath_ok _ _ _ _ _ _ _ _ _) ?zqk1 ?zqk2 ?zqk3 ?zqk4 ?zqk5 ?zqkK ?zqkp ?zqkd ?zqku ?_ | refine' useS (get_sep_ok _ _ _ _ _ _ _ _ _) ?zqk1 ?zqk2 ?zqk3 ?zqk4 ?zqk5 ?zqkK ?zqkp ?zqkd ?zqku ?_); (((case zqk1 => k_asm); (case zqk2 => k_asm); (case zqk3 => k_asm); (case zqk4 => k_asm); (case zqk5 => k_asm); (case zqkK => first | exact rfl | assumption); (case zqkp => first | trivial | assumption); (case zqkd => first | decide | (rw [Nat.add_assoc]; exact dp_le hdp (by decide)) | ktr_room); (case zqku => first | decide | (rw [Nat.add_assoc]; exact un_le hun (by decide)) | ktr_units))); intro t9q h9q tk9q F9q N9q; (try dsimp only); (try k_fold))))
        | walk1
        | (dsimp only; walk1)
        | (leave1; (try dsimp only))
        | fail "no step"))
    all_goals (refine tpost_end (by first | exact .inl rfl | exact .inr rfl) (by k_asm) (by rfl) (by intro z h1 h2; ((repeat (first | with_reducible refine (if_neg h1).trans ?_ | with_reducible refine (if_neg h2).trans ?_)); rfl)) (by k_asm) (fun p hp => hp) ⟨?_, ?_⟩)
    all_goals first
      | (rw [js1 (by with_reducible assumption)] at hP; exact hP)
      | (rw [js2 (by with_reducible assumption) (by with_reducible assumption)] at hP; exact hP)
      | (rw [js3 (by with_reducible assumption) (by with_reducible assumption) (by with_reducible assumption)] at hP; exact hP)
      | (rw [js4 (by with_reducible assumption) (by with_reducible assumption) (by with_reducible assumption)] at hP; exact hP)
      | omega
      | ((try simp only [Str.length_append, show (Str.ofString "/").length = 1 from rfl]); omega)
      | fail "left"
  · intro c u ux h tk hP F N
    obtain ⟨hP, -⟩ := hP
    (repeat' (first
        | (k_unfold; (try dsimp only))
        | (k_end; wrow_close)
        | ((with_reducible show wpAny _ _ (exec _ _) _ _ _); k_fold)
        | (with_reducible ((with_reducible show wpAny _ _ (exec (Stmt.For _ _ _ _ _) _) _ _ _); (k_here; (rename Fr _ _ _ _ => lF'q); (with_unfolding_all refine' For_turns lF'q ?_; k_whole))))
        | (with_reducible ((with_reducible show wpAny _ _ (call (Value.ref _) _ _) _ _ _); (k_here; k_dflt (first | refine' useS (fspath_ok _ _ _ _ _ _ _ _ _) ?zqk1 ?zqk2 ?zqk3 ?zqk4 ?zqk5 ?zqkK ?zqkp ?zqkd ?zqku ?_ | refine' useS (get_sep_ok _ _ _ _ _ _ _ _ _) ?zqk1 ?zqk2 ?zqk3 ?zqk4 ?zqk5 ?zqkK ?zqkp ?zqkd ?zqku ?_); (((case zqk1 => k_asm); (case zqk2 => k_asm); (case zqk3 => k_asm); (case zqk4 => k_asm); (case zqk5 => k_asm); (case zqkK => first | exact rfl | assumption); (case zqkp => first | trivial | assumption); (case zqkd => first | decide | (rw [Nat.add_assoc]; exact dp_le hdp (by decide)) | ktr_room); (case zqku => first | decide | (rw [Nat.add_assoc]; exact un_le hun (by decide)) | ktr_units))); intro t9q h9q tk9q F9q N9q; (try dsimp only); (try k_fold))))
        | walk1
        | (dsimp only; walk1)
        | (leave1; (try dsimp only))
        | fail "no step"))
    all_goals ((refine' endS ?zqr ?_ ?zqf ?zqn ?zqs; (case zqr => first | with_reducible assumption | assumption); (case zqf => k_asm); (case zqn => k_asm); (case zqs => ((intro pq hpq; first | with_reducible exact hpq | (refine List.mem_cons_of_mem _ ?_; with_reducible exact hpq) | (refine List.mem_cons_of_mem _ (List.mem_cons_of_mem _ ?_); with_reducible exact hpq) | (refine List.mem_cons_of_mem _ (List.mem_cons_of_mem _ (List.mem_cons_of_mem _ ?_)); with_reducible exact hpq) | (refine List.mem_cons_of_mem _ (List.mem_cons_of_mem _ (List.mem_cons_of_mem _ (List.mem_cons_of_mem _ ?_))); with_reducible exact hpq))))))
    all_goals exact hP

theorem join3_ok (x y z : Str) (t u v : Tok) (h : x.length < 600) (h' : y.length < 600) (h'' : z.length < 600) : ClS 2 w p loose mean mg mb 115 news True [.str x t, .str y u, .str z v] (joinStep (joinStep x y) z) := by
  ((dsimp only [ClS, ClT]; k_fill; intro dp un gd cn cs a ccd cl outer A₀ base h₀ L m s Q E B0 F0 X0 N0 T0 hk hp hdp hun hret; refine wpAny_call ?_; k_dflt (refine' kp_rest ?zqk1 ?zqk2 ?zqk3 ?zqk4 ?zqk5 ?zqkA ?zqkF ?zqkK ?zqk6 ?zqk7 ?zqk8 ?zqkV ?zqkP ?zqkG ?zqkB ?_ ?zqc2 ?zqc3 ?zqc4 ?zqc5; (case zqkA => exact rfl); (case zqkF => exact rfl); (case zqkK => assumption); (case zqk1 => k_asm); (case zqk2 => k_asm); (case zqk3 => k_asm); (case zqk4 => k_asm); (case zqk5 => k_asm); (case zqk6 => k_is); (case zqk7 => k_is); (case zqk8 => ktr_room); (case zqkV => kl_lit); (case zqkP => exact rfl); (case zqkG => exact fun _ => rfl); (case zqkB => exact fun _ => locs rfl); (case zqc5 => decide); (case zqc2 => exact rfl); (case zqc3 => exact rfl); (case zqc4 => exact rfl); k_whole; intro D' g' L' h' l1 FG' F' N' B' X' T'; (try k_lt l1); (try dsimp only); (try k_lift B'); (try k_fold))))
  (repeat' (first
        | (k_unfold; (try dsimp only))
        | (k_end; wrow_close)
        | ((with_reducible show wpAny _ _ (exec _ _) _ _ _); k_fold)
        | (with_reducible ((with_reducible show wpAny _ _ (exec (Stmt.For _ _ _ _ _) _) _ _ _); (k_here; (rename Fr _ _ _ _ => lF'q); (with_unfolding_all refine' For_turns lF'q ?_; k_whole))))
        | (with_reducible ((with_reducible show wpAny _ _ (call (Value.ref _) _ _) _ _ _); (k_here; k_dflt (first | refine' useS (fspath_ok _ _ _ _ _ _ _ _ _) ?zqk1 ?zqk2 ?zqk3 ?zqk4 ?zqk5 ?zqkK ?zqkp ?zqkd ?zqku ?_ | refine' useS (get_sep_ok _ _ _ _ _ _ _ _ _) ?zqk1 ?zqk2 ?zqk3 ?zqk4 ?zqk5 ?zqkK ?zqkp ?zqkd ?zqku ?_); (((case zqk1 => k_asm); (case zqk2 => k_asm); (case zqk3 => k_asm); (case zqk4 => k_asm); (case zqk5 => k_asm); (case zqkK => first | exact rfl | assumption); (case zqkp => first | trivial | assumption); (case zqkd => first | decide | (rw [Nat.add_assoc]; exact dp_le hdp (by decide)) | ktr_room); (case zqku => first | decide | (rw [Nat.add_assoc]; exact un_le hun (by decide)) | ktr_units))); intro t9q h9q tk9q F9q N9q; (try dsimp only); (try k_fold))))
        | walk1
        | (dsimp only; walk1)
        | (leave1; (try dsimp only))
        | fail "no step"))
  rename News _ _ _ _ => nN
  rename Fr _ _ _ _ => nF
  with_unfolding_all refine' tupFold (x := Str.ofString "b") (y := Str.ofString "path") (fun r c => r.foldl joinStep c = joinStep (joinStep x y) z ∧ c.length + (r.map (fun v => v.length + 1)).sum < 2000) (by decide) ?h1 ?h2 (.cons y u (.cons z v .nil)) nF nN ?h3 ?_ ?_
  case h1 => rfl
  case h2 => exact .head _
  case h3 => exact ⟨rfl, by simp; omega⟩
  · clear nN nF
    intro v r t c u ux h tk led hP F N
    obtain ⟨hP, hl⟩ := hP
    rw [List.map_cons, List.sum_cons] at hl
    rw [List.foldl_cons] at hP
    (repeat' (first
        | (k_unfold; (try dsimp only))
        | (k_end; wrow_close)
        | ((with_reducible show wpAny _ _ (exec _ _) _ _ _); k_fold)
        | (with_reducible ((with_reducible show wpAny _ _ (exec (Stmt.For _ _ _ _ _) _) _ _ _); (k_here; (rename Fr _ _ _ _ => lF'q); (with_unfolding_all refine' For_turns lF'q ?_; k_whole))))
        | (with_reducible ((with_reducible show wpAny _ _ (call (Value.ref _) _ _) _ _ _); (k_here; k_dflt (first | refine' useS (fspath_ok _ _ _ _ _ _ _ _ _) ?zqk1 ?zqk2 ?zqk3 ?zqk4 ?zqk5 ?zqkK ?zqkp ?zqkd ?zqku ?_ | refine' useS (get_sep_ok _ _ _ _ _ _ _ _ _) ?zqk1 ?zqk2 ?zqk3 ?zqk4 ?zqk5 ?zqkK ?zqkp ?zqkd ?zqku ?_); (((case zqk1 => k_asm); (case zqk2 => k_asm); (case zqk3 => k_asm); (case zqk4 => k_asm); (case zqk5 => k_asm); (case zqkK => first | exact rfl | assumption); (case zqkp => first | trivial | assumption); (case zqkd => first | decide | (rw [Nat.add_assoc]; exact dp_le hdp (by decide)) | ktr_room); (case zqku => first | decide | (rw [Nat.add_assoc]; exact un_le hun (by decide)) | ktr_units))); intro t9q h9q tk9q F9q N9q; (try dsimp only); (try k_fold))))
        | walk1
        | (dsimp only; walk1)
        | (leave1; (try dsimp only))
        | fail "no step"))
    all_goals (refine tpost_end (by first | exact .inl rfl | exact .inr rfl) (by k_asm) (by rfl) (by intro z h1 h2; ((repeat (first | with_reducible refine (if_neg h1).trans ?_ | with_reducible refine (if_neg h2).trans ?_)); rfl)) (by k_asm) (fun p hp => hp) ⟨?_, ?_⟩)
    all_goals first
      | (rw [js1 (by with_reducible assumption)] at hP; exact hP)
      | (rw [js2 (by with_reducible assumption) (by with_reducible assumption)] at hP; exact hP)
      | (rw [js3 (by with_reducible assumption) (by with_reducible assumption) (by with_reducible assumption)] at hP; exact hP)
      | (rw [js4 (by with_reducible assumption) (by with_reducible assumption) (by with_reducible assumption)] at hP; exact hP)
      | omega
      | ((try simp only [Str.length_append, show (Str.ofString "/").length = 1 from rfl]); omega)
      | fail "left"
  · intro c u ux h tk hP F N
    obtain ⟨hP, -⟩ := hP
    (repeat' (first
        | (k_unfold; (try dsimp only))
        | (k_end; wrow_close)
        | ((with_reducible show wpAny _ _ (exec _ _) _ _ _); k_fold)
        | (with_reducible ((with_reducible show wpAny _ _ (exec (Stmt.For _ _ _ _ _) _) _ _ _); (k_here; (rename Fr _ _ _ _ => lF'q); (with_unfolding_all refine' For_turns lF'q ?_; k_whole))))
        | (with_reducible ((with_reducible show wpAny _ _ (call (Value.ref _) _ _) _ _ _); (k_here; k_dflt (first | refine' useS (fspath_ok _ _ _ _ _ _ _ _ _) ?zqk1 ?zqk2 ?zqk3 ?zqk4 ?zqk5 ?zqkK ?zqkp ?zqkd ?zqku ?_ | refine' useS (get_sep_ok _ _ _ _ _ _ _ _ _) ?zqk1 ?zqk2 ?zqk3 ?zqk4 ?zqk5 ?zqkK ?zqkp ?zqkd ?zqku ?_); (((case zqk1 => k_asm); (case zqk2 => k_asm); (case zqk3 => k_asm); (case zqk4 => k_asm); (case zqk5 => k_asm); (case zqkK => first | exact rfl | assumption); (case zqkp => first | trivial | assumption); (case zqkd => first | decide | (rw [Nat.add_assoc]; exact dp_le hdp (by decide)) | ktr_room); (case zqku => first | decide | (rw [Nat.add_assoc]; exact un_le hun (by decide)) | ktr_units))); intro t9q h9q tk9q F9q N9q; (try dsimp only); (try k_fold))))
        | walk1
        | (dsimp only; walk1)
        | (leave1; (try dsimp only))
        | fail "no step"))
    all_goals ((refine' endS ?zqr ?_ ?zqf ?zqn ?zqs; (case zqr => first | with_reducible assumption | assumption); (case zqf => k_asm); (case zqn => k_asm); (case zqs => ((intro pq hpq; first | with_reducible exact hpq | (refine List.mem_cons_of_mem _ ?_; with_reducible exact hpq) | (refine List.mem_cons_of_mem _ (List.mem_cons_of_mem _ ?_); with_reducible exact hpq) | (refine List.mem_cons_of_mem _ (List.mem_cons_of_mem _ (List.mem_cons_of_mem _ ?_)); with_reducible exact hpq) | (refine List.mem_cons_of_mem _ (List.mem_cons_of_mem _ (List.mem_cons_of_mem _ (List.mem_cons_of_mem _ ?_))); with_reducible exact hpq))))))
    all_goals exact hP
end
end
section
theorem calmC4 : True := by w_top off; trivial
set_option maxRecDepth 100000
set_option maxHeartbeats 8000000
set_option linter.unusedSimpArgs false
noncomputable def heldF (top : Int) (acc : List Str) (c : Str) : List Str :=
  if (c == Str.ofString "..") = true then
    (if (acc.length : Int) = 0 then acc ++ (if 0 < top then [] else [Str.ofString ".."])
    else if (acc.getD ((acc.length : Int) - 1).toNat Str.empty == Str.ofString "..") = true then acc ++ (if 0 < top then [] else [Str.ofString ".."])
    else acc.take ((acc.length : Int) - 1).toNat)
  else if ([Str.ofString "", Str.ofString "."].any fun x => x == c) = true then acc else acc ++ [c]
section
variable {top : Int} {acc : List Str} {c : Str}
theorem hf1 (h : (c == Str.ofString "..") = true) (h1 : (acc.length : Int) = 0) (h2 : 0 < top) : heldF top acc c = acc ++ [] := by unfold heldF; rw [if_pos h, if_pos h1, if_pos h2]
theorem hf2 (h : (c == Str.ofString "..") = true) (h1 : (acc.length : Int) = 0) (h2 : ¬ 0 < top) : heldF top acc c = acc ++ [Str.ofString ".."] := by unfold heldF; rw [if_pos h, if_pos h1, if_neg h2]
theorem hf3 (h : (c == Str.ofString "..") = true) (h1 : (acc.length : Int) ≠ 0) (h3 : (acc.getD ((acc.length : Int) - 1).toNat Str.empty == Str.ofString "..") = true) (h2 : 0 < top) : heldF top acc c = acc ++ [] := by unfold heldF; rw [if_pos h, if_neg h1, if_pos h3, if_pos h2]
theorem hf4 (h : (c == Str.ofString "..") = true) (h1 : (acc.length : Int) ≠ 0) (h3 : (acc.getD ((acc.length : Int) - 1).toNat Str.empty == Str.ofString "..") = true) (h2 : ¬ 0 < top) : heldF top acc c = acc ++ [Str.ofString ".."] := by unfold heldF; rw [if_pos h, if_neg h1, if_pos h3, if_neg h2]
theorem hf5 (h : (c == Str.ofString "..") = true) (h1 : (acc.length : Int) ≠ 0) (h3 : (acc.getD ((acc.length : Int) - 1).toNat Str.empty == Str.ofString "..") = false) : heldF top acc c = acc.take ((acc.length : Int) - 1).toNat := by
  unfold heldF; rw [if_pos h, if_neg h1, if_neg (by rw [h3]; exact Bool.false_ne_true)]
theorem hf6 (h : (c == Str.ofString "..") = false) (h1 : ([Str.ofString "", Str.ofString "."].any fun x => x == c) = true) : heldF top acc c = acc := by unfold heldF; rw [if_neg (by rw [h]; exact Bool.false_ne_true), if_pos h1]
theorem hf7 (h : (c == Str.ofString "..") = false) (h1 : ([Str.ofString "", Str.ofString "."].any fun x => x == c) = false) : heldF top acc c = acc ++ [c] := by
  unfold heldF; rw [if_neg (by rw [h]; exact Bool.false_ne_true), if_neg (by rw [h1]; exact Bool.false_ne_true)]
end
theorem held_cut (top : Int) (acc : List Str) (c : Str) : heldF top acc c = acc ∨ heldF top acc c = acc ++ [Str.ofString ".."] ∨ heldF top acc c = acc ++ [c] ∨ heldF top acc c = acc.take ((acc.length : Int) - 1).toNat := by
  unfold heldF
  (repeat' split) <;> first | exact .inl rfl | exact .inr (.inl rfl) | exact .inr (.inr (.inl rfl)) | exact .inr (.inr (.inr rfl)) | exact .inl (List.append_nil _)
theorem wt_held (top : Int) (ys : List Str) : ∀ acc : List Str, ((ys.foldl (heldF top) acc).map (·.length)).sum + 3 * (ys.foldl (heldF top) acc).length ≤ (acc.map (·.length)).sum + 3 * acc.length + (ys.map (·.length)).sum + 5 * ys.length := by
  have drop : ∀ (l : List Str) (k : Nat), ((l.take k).map (·.length)).sum + 3 * (l.take k).length ≤ (l.map (·.length)).sum + 3 * l.length := by
    intro l k
    rw [List.map_take]
    have e : (l.map (·.length)).sum = ((l.map (·.length)).take k).sum + ((l.map (·.length)).drop k).sum := by rw [← List.sum_append, List.take_append_drop]
    rw [e, List.length_take]; omega
  have one : ∀ (acc : List Str) (y : Str), ((heldF top acc y).map (·.length)).sum + 3 * (heldF top acc y).length ≤ (acc.map (·.length)).sum + 3 * acc.length + y.length + 5 := by
    intro acc y
    have d := drop acc ((acc.length : Int) - 1).toNat
    have dd : (Str.ofString "..").length = 2 := rfl
    have a : ∀ z : Str, z.length ≤ y.length + 2 → ((acc ++ [z]).map (·.length)).sum + 3 * (acc ++ [z]).length ≤ (acc.map (·.length)).sum + 3 * acc.length + y.length + 5 := fun z hz => by
      simp only [List.map_append, List.sum_append, List.map_cons, List.map_nil, List.sum_cons, List.sum_nil, List.length_append, List.length_cons, List.length_nil]; clear d; omega
    rcases held_cut top acc y with q | q | q | q <;> rw [q] <;> clear q
    · clear a d dd; omega
    · exact a _ (by omega)
    · exact a _ (by omega)
    · clear a dd; omega
  induction ys with
  | nil => intro acc; simp
  | cons y ys ih =>
    intro acc
    have h1 := ih (heldF top acc y)
    have h2 := one acc y
    simp only [List.foldl_cons, List.map_cons, List.sum_cons, List.length_cons] at h1 ⊢
    omega
theorem hpost_end {h₀ : Heap} {L : Addr} {x y : Str} {m₀ m' : Str → Option Value} {nl : Addr} {acc : List Str} {rest led : List (Addr × Obj)} {s₁ : Shared} {Q : Flow → Shared → Prop} {f : Flow} {h' : Heap} {tk : Nat} {us : List Value} {c : Nat}
    (hf : f = .next ∨ f = .cont) (F : Fr h₀ L h' m') (hy : m' y = some (.ref nl)) (hm : ∀ z, z ≠ x → z ≠ y → m' z = m₀ z) (N : News h₀ L h' ((nl, listOf us.toArray c) :: led)) (hs : ∀ p ∈ rest, p ∈ led) (hne : ∀ p ∈ rest, p.1 ≠ nl) (hu : StrsAre us acc) : HPost h₀ L x y m₀ acc rest s₁ Q f { s₁ with heap := h', toks := tk } := by
  rcases hf with rfl | rfl <;> exact ⟨h', tk, nl, us, c, m', led, rfl, F, hy, hm, N, hs, hne, hu⟩
noncomputable def prefF (top : Int) : Str := if top = 2 then Str.ofString "//" else if 0 < top then Str.ofString "/" else Str.ofString ""
noncomputable def topF (x : Str) : Int := (x.length : Int) - (Txt.lstripChars x (Str.ofString "/")).length
noncomputable def walkedF (x : Str) : Str :=
  if (prefF (topF x) ++ Txt.join sl ((Txt.split x sl).foldl (heldF (topF x)) []) != Str.ofString "") = true then prefF (topF x) ++ Txt.join sl ((Txt.split x sl).foldl (heldF (topF x)) []) else Str.ofString "."
theorem wk (x p : Str) (hp : prefF (topF x) = p) (h : (p ++ Txt.join (Str.ofString "/") (List.foldl (heldF ((x.length : Int) - (Txt.lstripChars x (Str.ofString "/")).length)) [] (Txt.split x (Str.ofString "/"))) != Str.ofString "") = true) :
    p ++ Txt.join (Str.ofString "/") (List.foldl (heldF ((x.length : Int) - (Txt.lstripChars x (Str.ofString "/")).length)) [] (Txt.split x (Str.ofString "/"))) = walkedF x := by
  unfold walkedF; rw [hp]; exact (if_pos h).symm
theorem wk' (x p : Str) (hp : prefF (topF x) = p) (h : (p ++ Txt.join (Str.ofString "/") (List.foldl (heldF ((x.length : Int) - (Txt.lstripChars x (Str.ofString "/")).length)) [] (Txt.split x (Str.ofString "/"))) != Str.ofString "") = false) :
    Str.ofString "." = walkedF x := by
  unfold walkedF; rw [hp]; exact (if_neg (fun c => Bool.false_ne_true (h.symm.trans c))).symm
theorem pf1 {x : Str} (h : (x.length : Int) - (Txt.lstripChars x (Str.ofString "/")).length = 2) : prefF (topF x) = Str.ofString "//" := if_pos h
theorem pf2 {x : Str} (h : (x.length : Int) - (Txt.lstripChars x (Str.ofString "/")).length ≠ 2) (h2 : 0 < (x.length : Int) - (Txt.lstripChars x (Str.ofString "/")).length) : prefF (topF x) = Str.ofString "/" := (if_neg h).trans (if_pos h2)
theorem pf3 {x : Str} (h : (x.length : Int) - (Txt.lstripChars x (Str.ofString "/")).length ≠ 2) (h2 : ¬ 0 < (x.length : Int) - (Txt.lstripChars x (Str.ofString "/")).length) : prefF (topF x) = Str.ofString "" := (if_neg h).trans (if_neg h2)
theorem swapN {h₀ h : Heap} {L : Addr} {a b : Addr × Obj} {r : List (Addr × Obj)} (N : News h₀ L h (a :: b :: r)) : News h₀ L h (b :: a :: r) := fun p hp => by
  rcases List.mem_cons.mp hp with rfl | hp
  · exact N _ (.tail _ (.head _))
  rcases List.mem_cons.mp hp with rfl | hp
  · exact N _ (.head _)
  · exact N _ (.tail _ (.tail _ hp))
section
variable (w : World) (p : Program) (loose : List Str) (mean : ExcName → Option Value) (mg mb : Str → Option Value) (news : List (Addr × Obj))
theorem lw_ok (x : Str) (t : Tok) (h : x.length < 600)  : ClS 12 w p loose mean mg mb 162 news True [.str x t] (walkedF x) := by
  ((dsimp only [ClS, ClT]; k_fill; intro dp un gd cn cs a ccd cl outer A₀ base h₀ L m s Q E B0 F0 X0 N0 T0 hk hp hdp hun hret; refine wpAny_call ?_; k_dflt cell_enter))
  (repeat' (first
        | (k_unfold; (try dsimp only))
        | (k_end; wrow_close)
        | ((first | with_reducible show wpAny _ _ (exec _ _) _ _ _ | with_reducible show wpAny _ _ (PySem.isTrue _ _ _) _ _ _); k_fold)
        | (with_reducible ((with_reducible show wpAny _ _ (exec (Stmt.For _ _ _ _ _) _) _ _ _); (k_here; (rename Fr _ _ _ _ => lF'q); (with_unfolding_all refine' For_invVF lF'q ?zqk1 ?zqk2 ?_; (case zqk1 => exact rfl); (case zqk2 => exact rfl); k_whole))))
        | (with_reducible ((with_reducible show wpAny _ _ (subscriptTail (PySem.Expr.Name _ _) (PySem.Expr.BinOp _ _ _ _) (Value.ref _) (Value.int _ _)) _ _ _); (k_here; k_dflt (refine' itemL ?zqN ?zqm ?zqs ?zqy ?zqz ?zqf ?_ ?zqhs ?zqhg; (case zqN => k_asm); (case zqm => k_mem); (case zqs => assumption); (case zqy => first | exact Nat.lt_of_lt_of_le (by with_reducible assumption) (by decide) | exact Nat.lt_of_le_of_lt (by with_reducible assumption) (by decide) | exact Nat.le_trans (by with_reducible assumption) (by decide) | omega); (case zqz => first | exact Nat.lt_of_lt_of_le (by with_reducible assumption) (by decide) | exact Nat.lt_of_le_of_lt (by with_reducible assumption) (by decide) | exact Nat.le_trans (by with_reducible assumption) (by decide) | omega); (case zqf => first | exact Nat.lt_of_lt_of_le (by with_reducible assumption) (by decide) | exact Nat.lt_of_le_of_lt (by with_reducible assumption) (by decide) | exact Nat.le_trans (by with_reducible assumption) (by decide) | omega); (case zqhs => with_unfolding_all rfl); (case zqhg => (intro _; with_unfolding_all rfl))); intro _; (try dsimp only))))
        | (with_reducible ((with_reducible show wpAny _ _ (subscriptTail (PySem.Expr.Name _ _) _ (Value.ref _) (Value.ref _)) _ _ _); (k_here; (with_reducible show wpAny _ _ (subscriptTail _ (PySem.Expr.Slice none _ none _) (Value.ref _) (Value.ref _)) _ _ _); k_dflt (refine' uptoL ?zqF ?zqN ?zqm ?zqs ?zqy ?zqz ?_ ?zqhs ?zqhg; (case zqF => k_asm); (case zqN => k_asm); (case zqm => k_mem); (case zqs => assumption); (case zqy => first | exact Nat.lt_of_lt_of_le (by with_reducible assumption) (by decide) | exact Nat.lt_of_le_of_lt (by with_reducible assumption) (by decide) | exact Nat.le_trans (by with_reducible assumption) (by decide) | omega); (case zqz => first | exact Nat.lt_of_lt_of_le (by with_reducible assumption) (by decide) | exact Nat.lt_of_le_of_lt (by with_reducible assumption) (by decide) | exact Nat.le_trans (by with_reducible assumption) (by decide) | omega); (case zqhs => with_unfolding_all rfl); (case zqhg => (intro _; with_unfolding_all rfl))); intro D9q h9q F9q N9q S9q l9q; (try k_lt l9q); (try dsimp only))))
        | (with_reducible ((with_reducible show wpAny _ _ (binaryOp _ (Value.ref _) (Value.ref _)) _ _ _); (k_here; (with_reducible show wpAny _ _ (binaryOp _ (Value.ref _) (Value.ref _)) _ _ _); k_dflt (refine' addL ?zqF ?zqN ?zqm ?zqm2 ?zqs ?zqs2 ?zqz ?_; (case zqF => k_asm); (case zqN => k_asm); (case zqm => k_mem); (case zqm2 => k_mem); (case zqs => assumption); (case zqs2 => first | exact StrsAre.nil | exact StrsAre.cons _ _ StrsAre.nil | assumption); (case zqz => ((try simp only [List.length_cons, List.length_nil]); omega))); intro D9q h9q F9q N9q S9q l9q; (try k_lt l9q); (try dsimp only))))
        | (with_reducible ((with_reducible show wpAny _ _ (compareOp CmpOp.Eq (Value.ref _) (Value.ref _)) _ _ _); (k_here; (with_reducible show wpAny _ _ (compareOp CmpOp.Eq (Value.ref _) (Value.ref _)) _ _ _); k_dflt (refine' eqNilL ?zqN ?zqm ?zqm2 ?zqs ?zqu ?_; (case zqN => k_asm); (case zqm => k_mem); (case zqm2 => k_mem); (case zqs => assumption); (case zqu => ktr_units)); (try dsimp only))))
        | (with_reducible ((with_reducible show wpAny _ _ (call (Value.builtin "str.join") _ _) _ _ _); (k_here; (with_reducible show wpAny _ _ (call (Value.builtin "str.join") [Value.str _ _, Value.ref _]) _ _ _); k_dflt (refine' joinL ?zqN ?zqm ?zqs ?zqx ?zqw ?zqz ?_; (case zqN => k_asm); (case zqm => k_mem); (case zqs => assumption); (case zqx => decide); (case zqw => first | exact Nat.lt_of_lt_of_le (by with_reducible assumption) (by decide) | exact Nat.lt_of_le_of_lt (by with_reducible assumption) (by decide) | exact Nat.le_trans (by with_reducible assumption) (by decide) | omega); (case zqz => first | exact Nat.lt_of_lt_of_le (by with_reducible assumption) (by decide) | exact Nat.lt_of_le_of_lt (by with_reducible assumption) (by decide) | exact Nat.le_trans (by with_reducible assumption) (by decide) | omega)); intro _ _; (try dsimp only))))
        | (with_reducible ((with_reducible show wpAny _ _ (call (Value.builtin "len") _ _) _ _ _); (k_here; (with_reducible show wpAny _ _ (call (Value.builtin "len") [Value.ref _]) _ _ _); k_dflt (refine' lenL ?zqN ?zqm ?zqs ?zqz ?_; (case zqN => k_asm); (case zqm => k_mem); (case zqs => assumption); (case zqz => first | exact Nat.lt_of_lt_of_le (by with_reducible assumption) (by decide) | exact Nat.lt_of_le_of_lt (by with_reducible assumption) (by decide) | exact Nat.le_trans (by with_reducible assumption) (by decide) | omega)); (try dsimp only))))
        | walk1
        | (dsimp only; walk1)
        | (leave1; (try dsimp only))
        | fail "no step"))
  · rename News _ _ _ _ => nN
    rename Fr _ _ _ _ => nF
    rename StrsAre _ _ => nS
    rename _ = Txt.split _ _ => nE
    rw [nE] at nS
    have hlen : ∀ y ∈ Txt.split x (Str.ofString "/"), y.length ≤ x.length := by rw [← nE]; assumption
    have hw := split_weight x (Str.ofString "/") (by decide)
    with_unfolding_all refine' heldLoop (y := Str.ofString "held") (heldF ((x.length : Int) - (Txt.lstripChars x (Str.ofString "/")).length)) [] (by decide) ?h1 ?h2 nS StrsAre.nil nF (swapN nN) ?h3 ?_ ?_
    case h1 => rfl
    case h2 => exact .head _
    case h3 =>
      intro p hp
      rcases List.mem_cons.mp hp with rfl | hp
      · exact Nat.ne_of_gt (Heap.lt_size ((by assumption : News _ _ _ (_ :: news)) _ (.head _)).1)
      · exact Nat.ne_of_lt (by first | assumption | exact (by assumption : ∀ p ∈ news, p.1 < _) p hp)
    · clear nN nF
      intro i v t nl us c rest h tk hy hu hne F N
      have hyl : v.length < 1000 := by
        have := hlen v (List.mem_of_getElem? hy)
        omega
      have hal : (((Txt.split x (Str.ofString "/")).take i).foldl (heldF ((x.length : Int) - (Txt.lstripChars x (Str.ofString "/")).length)) []).length ≤ 2000 := by
        have h1 := wt_held ((x.length : Int) - (Txt.lstripChars x (Str.ofString "/")).length) ((Txt.split x (Str.ofString "/")).take i) []
        have h2 : (((Txt.split x (Str.ofString "/")).take i).map (·.length)).sum ≤ ((Txt.split x (Str.ofString "/")).map (·.length)).sum := by
          rw [List.map_take]
          conv => rhs; rw [← List.take_append_drop i ((Txt.split x (Str.ofString "/")).map (·.length))]
          rw [List.sum_append]; omega
        have h3 : ((Txt.split x (Str.ofString "/")).take i).length ≤ (Txt.split x (Str.ofString "/")).length := by rw [List.length_take]; omega
        simp only [List.map_nil, List.sum_nil, List.length_nil] at h1
        omega
      generalize hacc : ((Txt.split x (Str.ofString "/")).take i).foldl (heldF ((x.length : Int) - (Txt.lstripChars x (Str.ofString "/")).length)) [] = acc at hu hal ⊢
      clear hacc hlen nE nS hw
      (repeat' (first
        | (k_unfold; (try dsimp only))
        | (k_end; wrow_close)
        | ((first | with_reducible show wpAny _ _ (exec _ _) _ _ _ | with_reducible show wpAny _ _ (PySem.isTrue _ _ _) _ _ _); k_fold)
        | (with_reducible ((with_reducible show wpAny _ _ (exec (Stmt.For _ _ _ _ _) _) _ _ _); (k_here; (rename Fr _ _ _ _ => lF'q); (with_unfolding_all refine' For_invVF lF'q ?zqk1 ?zqk2 ?_; (case zqk1 => exact rfl); (case zqk2 => exact rfl); k_whole))))
        | (with_reducible ((with_reducible show wpAny _ _ (subscriptTail (PySem.Expr.Name _ _) (PySem.Expr.BinOp _ _ _ _) (Value.ref _) (Value.int _ _)) _ _ _); (k_here; k_dflt (refine' itemL ?zqN ?zqm ?zqs ?zqy ?zqz ?zqf ?_ ?zqhs ?zqhg; (case zqN => k_asm); (case zqm => k_mem); (case zqs => assumption); (case zqy => first | exact Nat.lt_of_lt_of_le (by with_reducible assumption) (by decide) | exact Nat.lt_of_le_of_lt (by with_reducible assumption) (by decide) | exact Nat.le_trans (by with_reducible assumption) (by decide) | omega); (case zqz => first | exact Nat.lt_of_lt_of_le (by with_reducible assumption) (by decide) | exact Nat.lt_of_le_of_lt (by with_reducible assumption) (by decide) | exact Nat.le_trans (by with_reducible assumption) (by decide) | omega); (case zqf => first | exact Nat.lt_of_lt_of_le (by with_reducible assumption) (by decide) | exact Nat.lt_of_le_of_lt (by with_reducible assumption) (by decide) | exact Nat.le_trans (by with_reducible assumption) (by decide) | omega); (case zqhs => with_unfolding_all rfl); (case zqhg => (intro _; with_unfolding_all rfl))); intro _; (try dsimp only))))
        | (with_reducible ((with_reducible show wpAny _ _ (subscriptTail (PySem.Expr.Name _ _) _ (Value.ref _) (Value.ref _)) _ _ _); (k_here; (with_reducible show wpAny _ _ (subscriptTail _ (PySem.Expr.Slice none _ none _) (Value.ref _) (Value.ref _)) _ _ _); k_dflt (refine' uptoL ?zqF ?zqN ?zqm ?zqs ?zqy ?zqz ?_ ?zqhs ?zqhg; (case zqF => k_asm); (case zqN => k_asm); (case zqm => k_mem); (case zqs => assumption); (case zqy => first | exact Nat.lt_of_lt_of_le (by with_reducible assumption) (by decide) | exact Nat.lt_of_le_of_lt (by with_reducible assumption) (by decide) | exact Nat.le_trans (by with_reducible assumption) (by decide) | omega); (case zqz => first | exact Nat.lt_of_lt_of_le (by with_reducible assumption) (by decide) | exact Nat.lt_of_le_of_lt (by with_reducible assumption) (by decide) | exact Nat.le_trans (by with_reducible assumption) (by decide) | omega); (case zqhs => with_unfolding_all rfl); (case zqhg => (intro _; with_unfolding_all rfl))); intro D9q h9q F9q N9q S9q l9q; (try k_lt l9q); (try dsimp only))))
        | (with_reducible ((with_reducible show wpAny _ _ (binaryOp _ (Value.ref _) (Value.ref _)) _ _ _); (k_here; (with_reducible show wpAny _ _ (binaryOp _ (Value.ref _) (Value.ref _)) _ _ _); k_dflt (refine' addL ?zqF ?zqN ?zqm ?zqm2 ?zqs ?zqs2 ?zqz ?_; (case zqF => k_asm); (case zqN => k_asm); (case zqm => k_mem); (case zqm2 => k_mem); (case zqs => assumption); (case zqs2 => first | exact StrsAre.nil | exact StrsAre.cons _ _ StrsAre.nil | assumption); (case zqz => ((try simp only [List.length_cons, List.length_nil]); omega))); intro D9q h9q F9q N9q S9q l9q; (try k_lt l9q); (try dsimp only))))
        | (with_reducible ((with_reducible show wpAny _ _ (compareOp CmpOp.Eq (Value.ref _) (Value.ref _)) _ _ _); (k_here; (with_reducible show wpAny _ _ (compareOp CmpOp.Eq (Value.ref _) (Value.ref _)) _ _ _); k_dflt (refine' eqNilL ?zqN ?zqm ?zqm2 ?zqs ?zqu ?_; (case zqN => k_asm); (case zqm => k_mem); (case zqm2 => k_mem); (case zqs => assumption); (case zqu => ktr_units)); (try dsimp only))))
        | (with_reducible ((with_reducible show wpAny _ _ (call (Value.builtin "str.join") _ _) _ _ _); (k_here; (with_reducible show wpAny _ _ (call (Value.builtin "str.join") [Value.str _ _, Value.ref _]) _ _ _); k_dflt (refine' joinL ?zqN ?zqm ?zqs ?zqx ?zqw ?zqz ?_; (case zqN => k_asm); (case zqm => k_mem); (case zqs => assumption); (case zqx => decide); (case zqw => first | exact Nat.lt_of_lt_of_le (by with_reducible assumption) (by decide) | exact Nat.lt_of_le_of_lt (by with_reducible assumption) (by decide) | exact Nat.le_trans (by with_reducible assumption) (by decide) | omega); (case zqz => first | exact Nat.lt_of_lt_of_le (by with_reducible assumption) (by decide) | exact Nat.lt_of_le_of_lt (by with_reducible assumption) (by decide) | exact Nat.le_trans (by with_reducible assumption) (by decide) | omega)); intro _ _; (try dsimp only))))
        | (with_reducible ((with_reducible show wpAny _ _ (call (Value.builtin "len") _ _) _ _ _); (k_here; (with_reducible show wpAny _ _ (call (Value.builtin "len") [Value.ref _]) _ _ _); k_dflt (refine' lenL ?zqN ?zqm ?zqs ?zqz ?_; (case zqN => k_asm); (case zqm => k_mem); (case zqs => assumption); (case zqz => first | exact Nat.lt_of_lt_of_le (by with_reducible assumption) (by decide) | exact Nat.lt_of_le_of_lt (by with_reducible assumption) (by decide) | exact Nat.le_trans (by with_reducible assumption) (by decide) | omega)); (try dsimp only))))
        | walk1
        | (dsimp only; walk1)
        | (leave1; (try dsimp only))
        | fail "no step"))
      all_goals (first
        | (refine hpost_end (by first | exact .inl rfl | exact .inr rfl) (by k_asm) (by rfl) (by intro z h1 h2; (repeat (first | with_reducible refine (if_neg h1).trans ?_ | with_reducible refine (if_neg h2).trans ?_)); rfl) (by k_asm) (by ((intro pq hpq; first | with_reducible exact hpq | (refine List.mem_cons_of_mem _ ?_; with_reducible exact hpq) | (refine List.mem_cons_of_mem _ (List.mem_cons_of_mem _ ?_); with_reducible exact hpq) | (refine List.mem_cons_of_mem _ (List.mem_cons_of_mem _ (List.mem_cons_of_mem _ ?_)); with_reducible exact hpq) | (refine List.mem_cons_of_mem _ (List.mem_cons_of_mem _ (List.mem_cons_of_mem _ (List.mem_cons_of_mem _ ?_))); with_reducible exact hpq)))) ?_ ?_; (first | (exact fun p hp => Nat.ne_of_lt (kst_ltOf (And.right (And.right (And.right (by assumption)))) p hp)) | (exact fun p hp => Nat.ne_of_lt (kst_ltOf (And.right (And.right (by assumption))) p hp))))
        | (refine hpost_end (by first | exact .inl rfl | exact .inr rfl) (by k_asm) (by rfl) (by intro z h1 h2; (repeat (first | with_reducible refine (if_neg h1).trans ?_ | with_reducible refine (if_neg h2).trans ?_)); rfl) (swapN (by k_asm)) (by ((intro pq hpq; first | with_reducible exact hpq | (refine List.mem_cons_of_mem _ ?_; with_reducible exact hpq) | (refine List.mem_cons_of_mem _ (List.mem_cons_of_mem _ ?_); with_reducible exact hpq) | (refine List.mem_cons_of_mem _ (List.mem_cons_of_mem _ (List.mem_cons_of_mem _ ?_)); with_reducible exact hpq) | (refine List.mem_cons_of_mem _ (List.mem_cons_of_mem _ (List.mem_cons_of_mem _ (List.mem_cons_of_mem _ ?_))); with_reducible exact hpq)))) hne ?_)
        | fail "left")
      all_goals first
        | (rw [hf1 (by with_reducible assumption) (by with_reducible assumption) (by with_reducible assumption)]; assumption)
        | (rw [hf2 (by with_reducible assumption) (by with_reducible assumption) (by with_reducible assumption)]; assumption)
        | (rw [hf3 (by with_reducible assumption) (by with_reducible assumption) (by with_reducible assumption) (by with_reducible assumption)]; assumption)
        | (rw [hf4 (by with_reducible assumption) (by with_reducible assumption) (by with_reducible assumption) (by with_reducible assumption)]; assumption)
        | (rw [hf5 (by with_reducible assumption) (by with_reducible assumption) (by with_reducible assumption)]; assumption)
        | (rw [hf6 (by with_reducible assumption) (by with_reducible assumption)]; assumption)
        | (rw [hf7 (by with_reducible assumption) (by with_reducible assumption)]; assumption)
        | fail "left"
    · intro nl us c u h tk hu F N
      have h1 := wt_held ((x.length : Int) - (Txt.lstripChars x (Str.ofString "/")).length) (Txt.split x (Str.ofString "/")) []
      simp only [List.map_nil, List.sum_nil, List.length_nil] at h1
      have hj := StrLaws.join_length_le (Str.ofString "/") (List.foldl (heldF ((x.length : Int) - (Txt.lstripChars x (Str.ofString "/")).length)) [] (Txt.split x (Str.ofString "/")))
      rw [← StrLaws.glued_eq_join, show (Str.ofString "/").length = 1 from rfl, Nat.mul_one] at hj
      change (Txt.join (Str.ofString "/") _).length ≤ _ at hj
      have b1 : ((List.foldl (heldF ((x.length : Int) - (Txt.lstripChars x (Str.ofString "/")).length)) [] (Txt.split x (Str.ofString "/"))).map (·.length)).sum ≤ 3000 := by omega
      have b2 : (List.foldl (heldF ((x.length : Int) - (Txt.lstripChars x (Str.ofString "/")).length)) [] (Txt.split x (Str.ofString "/"))).length ≤ 3000 := by omega
      have b3 : (Txt.join (Str.ofString "/") (List.foldl (heldF ((x.length : Int) - (Txt.lstripChars x (Str.ofString "/")).length)) [] (Txt.split x (Str.ofString "/")))).length ≤ 6000 := by omega
      clear hlen nE nS nN nF h1 hj hw
      (repeat' (first
        | (k_unfold; (try dsimp only))
        | (k_end; wrow_close)
        | ((first | with_reducible show wpAny _ _ (exec _ _) _ _ _ | with_reducible show wpAny _ _ (PySem.isTrue _ _ _) _ _ _); k_fold)
        | (with_reducible ((with_reducible show wpAny _ _ (exec (Stmt.For _ _ _ _ _) _) _ _ _); (k_here; (rename Fr _ _ _ _ => lF'q); (with_unfolding_all refine' For_invVF lF'q ?zqk1 ?zqk2 ?_; (case zqk1 => exact rfl); (case zqk2 => exact rfl); k_whole))))
        | (with_reducible ((with_reducible show wpAny _ _ (subscriptTail (PySem.Expr.Name _ _) (PySem.Expr.BinOp _ _ _ _) (Value.ref _) (Value.int _ _)) _ _ _); (k_here; k_dflt (refine' itemL ?zqN ?zqm ?zqs ?zqy ?zqz ?zqf ?_ ?zqhs ?zqhg; (case zqN => k_asm); (case zqm => k_mem); (case zqs => assumption); (case zqy => first | exact Nat.lt_of_lt_of_le (by with_reducible assumption) (by decide) | exact Nat.lt_of_le_of_lt (by with_reducible assumption) (by decide) | exact Nat.le_trans (by with_reducible assumption) (by decide) | omega); (case zqz => first | exact Nat.lt_of_lt_of_le (by with_reducible assumption) (by decide) | exact Nat.lt_of_le_of_lt (by with_reducible assumption) (by decide) | exact Nat.le_trans (by with_reducible assumption) (by decide) | omega); (case zqf => first | exact Nat.lt_of_lt_of_le (by with_reducible assumption) (by decide) | exact Nat.lt_of_le_of_lt (by with_reducible assumption) (by decide) | exact Nat.le_trans (by with_reducible assumption) (by decide) | omega); (case zqhs => with_unfolding_all rfl); (case zqhg => (intro _; with_unfolding_all rfl))); intro _; (try dsimp only))))
        | (with_reducible ((with_reducible show wpAny _ _ (subscriptTail (PySem.Expr.Name _ _) _ (Value.ref _) (Value.ref _)) _ _ _); (k_here; (with_reducible show wpAny _ _ (subscriptTail _ (PySem.Expr.Slice none _ none _) (Value.ref _) (Value.ref _)) _ _ _); k_dflt (refine' uptoL ?zqF ?zqN ?zqm ?zqs ?zqy ?zqz ?_ ?zqhs ?zqhg; (case zqF => k_asm); (case zqN => k_asm); (case zqm => k_mem); (case zqs => assumption); (case zqy => first | exact Nat.lt_of_lt_of_le (by with_reducible assumption) (by decide) | exact Nat.lt_of_le_of_lt (by with_reducible assumption) (by decide) | exact Nat.le_trans (by with_reducible assumption) (by decide) | omega); (case zqz => first | exact Nat.lt_of_lt_of_le (by with_reducible assumption) (by decide) | exact Nat.lt_of_le_of_lt (by with_reducible assumption) (by decide) | exact Nat.le_trans (by with_reducible assumption) (by decide) | omega); (case zqhs => with_unfolding_all rfl); (case zqhg => (intro _; with_unfolding_all rfl))); intro D9q h9q F9q N9q S9q l9q; (try k_lt l9q); (try dsimp only))))
        | (with_reducible ((with_reducible show wpAny _ _ (binaryOp _ (Value.ref _) (Value.ref _)) _ _ _); (k_here; (with_reducible show wpAny _ _ (binaryOp _ (Value.ref _) (Value.ref _)) _ _ _); k_dflt (refine' addL ?zqF ?zqN ?zqm ?zqm2 ?zqs ?zqs2 ?zqz ?_; (case zqF => k_asm); (case zqN => k_asm); (case zqm => k_mem); (case zqm2 => k_mem); (case zqs => assumption); (case zqs2 => first | exact StrsAre.nil | exact StrsAre.cons _ _ StrsAre.nil | assumption); (case zqz => ((try simp only [List.length_cons, List.length_nil]); omega))); intro D9q h9q F9q N9q S9q l9q; (try k_lt l9q); (try dsimp only))))
        | (with_reducible ((with_reducible show wpAny _ _ (compareOp CmpOp.Eq (Value.ref _) (Value.ref _)) _ _ _); (k_here; (with_reducible show wpAny _ _ (compareOp CmpOp.Eq (Value.ref _) (Value.ref _)) _ _ _); k_dflt (refine' eqNilL ?zqN ?zqm ?zqm2 ?zqs ?zqu ?_; (case zqN => k_asm); (case zqm => k_mem); (case zqm2 => k_mem); (case zqs => assumption); (case zqu => ktr_units)); (try dsimp only))))
        | (with_reducible ((with_reducible show wpAny _ _ (call (Value.builtin "str.join") _ _) _ _ _); (k_here; (with_reducible show wpAny _ _ (call (Value.builtin "str.join") [Value.str _ _, Value.ref _]) _ _ _); k_dflt (refine' joinL ?zqN ?zqm ?zqs ?zqx ?zqw ?zqz ?_; (case zqN => k_asm); (case zqm => k_mem); (case zqs => assumption); (case zqx => decide); (case zqw => first | exact Nat.lt_of_lt_of_le (by with_reducible assumption) (by decide) | exact Nat.lt_of_le_of_lt (by with_reducible assumption) (by decide) | exact Nat.le_trans (by with_reducible assumption) (by decide) | omega); (case zqz => first | exact Nat.lt_of_lt_of_le (by with_reducible assumption) (by decide) | exact Nat.lt_of_le_of_lt (by with_reducible assumption) (by decide) | exact Nat.le_trans (by with_reducible assumption) (by decide) | omega)); intro _ _; (try dsimp only))))
        | (with_reducible ((with_reducible show wpAny _ _ (call (Value.builtin "len") _ _) _ _ _); (k_here; (with_reducible show wpAny _ _ (call (Value.builtin "len") [Value.ref _]) _ _ _); k_dflt (refine' lenL ?zqN ?zqm ?zqs ?zqz ?_; (case zqN => k_asm); (case zqm => k_mem); (case zqs => assumption); (case zqz => first | exact Nat.lt_of_lt_of_le (by with_reducible assumption) (by decide) | exact Nat.lt_of_le_of_lt (by with_reducible assumption) (by decide) | exact Nat.le_trans (by with_reducible assumption) (by decide) | omega)); (try dsimp only))))
        | walk1
        | (dsimp only; walk1)
        | (leave1; (try dsimp only))
        | fail "no step"))
      all_goals ((refine' endS ?zqr ?_ ?zqf ?zqn ?zqs; (case zqr => first | with_reducible assumption | assumption); (case zqf => k_asm); (case zqn => k_asm); (case zqs => ((intro pq hpq; first | with_reducible exact hpq | (refine List.mem_cons_of_mem _ ?_; with_reducible exact hpq) | (refine List.mem_cons_of_mem _ (List.mem_cons_of_mem _ ?_); with_reducible exact hpq) | (refine List.mem_cons_of_mem _ (List.mem_cons_of_mem _ (List.mem_cons_of_mem _ ?_)); with_reducible exact hpq) | (refine List.mem_cons_of_mem _ (List.mem_cons_of_mem _ (List.mem_cons_of_mem _ (List.mem_cons_of_mem _ ?_))); with_reducible exact hpq))))))
      all_goals first
        | exact wk x _ (pf1 (by with_reducible assumption)) (by with_reducible assumption)
        | exact wk x _ (pf2 (by with_reducible assumption) (by with_reducible assumption)) (by with_reducible assumption)
        | exact wk x _ (pf3 (by with_reducible assumption) (by with_reducible assumption)) (by with_reducible assumption)
        | exact wk' x _ (pf1 (by with_reducible assumption)) (by with_reducible assumption)
        | exact wk' x _ (pf2 (by with_reducible assumption) (by with_reducible assumption)) (by with_reducible assumption)
        | exact wk' x _ (pf3 (by with_reducible assumption) (by with_reducible assumption)) (by with_reducible assumption)
        | fail "left"
end
end
section
set_option maxRecDepth 100000
set_option maxHeartbeats 8000000
theorem map_slot_init : Slot "map" "__init__" "object.__init__" :=
  .of (owner := "object") (n := "__init__") (by rw [typeLookup_type, builtinLookup_eq_fast]; kernel_rfl) (by decide +kernel) (by decide +kernel) (by decide +kernel)
    (by first | exact .inl (by decide +kernel) | exact .inr (by decide +kernel)) (by rw [isSubtype_type]; kernel_rfl)
theorem map_slot_iter : Slot "map" "__iter__" "map.__iter__" :=
  .of (owner := "map") (n := "__iter__") (by rw [typeLookup_type, builtinLookup_eq_fast]; kernel_rfl) (by decide +kernel) (by decide +kernel) (by decide +kernel)
    (by first | exact .inl (by decide +kernel) | exact .inr (by decide +kernel)) (by rw [isSubtype_type]; kernel_rfl)
theorem map_slot_next : Slot "map" "__next__" "map.__next__" :=
  .of (owner := "map") (n := "__next__") (by rw [typeLookup_type, builtinLookup_eq_fast]; kernel_rfl) (by decide +kernel) (by decide +kernel) (by decide +kernel)
    (by first | exact .inl (by decide +kernel) | exact .inr (by decide +kernel)) (by rw [isSubtype_type]; kernel_rfl)
theorem map_entry_next : entryFor table "map.__next__" = some Builtin.«map.__next__» := entryFor_of_tree (by kernel_rfl)
theorem map_entry_new : entryFor table "map.__new__" = some Builtin.«map.__new__» := entryFor_of_tree (by kernel_rfl)
theorem map_entry_iter : entryFor table "map.__iter__" = some Builtin.«dict_keyiterator.__iter__» :=
  entryFor_alias (id' := "dict_keyiterator.__iter__") (by kernel_rfl) (by first | rfl | decide +kernel | (unfold String.splitOn; simp +decide [String.splitOnAux])) (by decide +kernel) (by kernel_rfl)
theorem owner_map : Manifest.owners.lookup (String.ofList ['p', 'a', 'm'].reverse) = some Manifest.sig_map := by kernel_rfl
theorem map_args_next (a : Value) : argsOk "map.__next__" ⟨[a], []⟩ := by
  unfold argsOk; rw [signature?_of (id := "map.__next__") (n := ['_', '_', 't', 'x', 'e', 'n', '_', '_']) (o := ['p', 'a', 'm']) (by kernel_rfl) owner_map]; kernel_rfl
theorem map_args_iter (a : Value) : argsOk "map.__iter__" ⟨[a], []⟩ := by
  unfold argsOk; rw [signature?_of (id := "map.__iter__") (n := ['_', '_', 'r', 'e', 't', 'i', '_', '_']) (o := ['p', 'a', 'm']) (by kernel_rfl) owner_map]; kernel_rfl
theorem map_mro : mroOf (.type "map") = pure [.type "map", .type "object"] := by rw [mroOf_type]; kernel_rfl
theorem map_lookup_new : typeLookup (.type "map") "__new__" = pure (some (.builtin "map.__new__")) := by rw [typeLookup_type, builtinLookup_eq_fast]; kernel_rfl
theorem map_called : TypeCalled "map" "map.__new__" "object.__init__" :=
  ⟨by decide +kernel, by decide +kernel, ⟨_, _, map_mro⟩, madeBy_type map_mro map_lookup_new (by decide +kernel), by decide +kernel, by rw [isSubtype_type]; kernel_rfl, map_slot_init⟩
theorem map_typeCall (a b : Value) : checkTypeCall "map" ⟨[a, b], []⟩ = pure () := by kernel_rfl
theorem map_newCall (a b : Value) : checkBuiltinCall "map.__new__" ⟨[.type "map", a, b], []⟩ = pure () := by kernel_rfl
theorem map_sub : isSubtype (.type "map") (.type "map") = pure true := by rw [isSubtype_type]; kernel_rfl
theorem map_no_len : typeLookup (.type "map") "__len__" = pure none := by rw [typeLookup_type, builtinLookup_eq_fast]; kernel_rfl
theorem map_no_hint : typeLookup (.type "map") "__length_hint__" = pure none := by rw [typeLookup_type, builtinLookup_eq_fast]; kernel_rfl
noncomputable abbrev mapO (TI : Addr) (f : Value) : Obj := { cls := .type "map", data := .fields #[.ref TI, f] }
noncomputable abbrev iterO (l : Addr) (i : Nat) : Obj := { cls := .type "list_iterator", data := .fields #[.ref l, .int i 0] }
theorem newsPush {h₀ h : Heap} {L : Addr} {m : Str → Option Value} {news : List (Addr × Obj)} (F : Fr h₀ L h m) (N : News h₀ L h news) (o : Obj) (ho : (h.push o).get? h.objs.size = some o) :
    Fr h₀ L (h.push o) m ∧ News h₀ L (h.push o) ((h.objs.size, o) :: news) := by
  refine ⟨F.keptAll fun b x e => Heap.get?_push_of_some _ e, ?_⟩
  intro p hp
  rcases List.mem_cons.mp hp with rfl | hp
  · refine ⟨ho, Nat.ne_of_gt F.ns.lt, ?_⟩
    cases hq : h₀.get? h.objs.size with
    | none => rfl
    | some x => exact absurd (Heap.lt_size (F.keep _ _ hq)) (Nat.lt_irrefl _)
  · exact ⟨Heap.get?_push_of_some _ (N p hp).1, (N p hp).2⟩
noncomputable abbrev mH1 (h : Heap) (l : Addr) : Heap := h.push (iterO l 0)
noncomputable abbrev mH2 (h : Heap) (l : Addr) : Heap := (mH1 h l).push { cls := .type "tuple", data := .seq #[.ref h.objs.size] }
noncomputable abbrev mH3 (h : Heap) (l : Addr) (f : Value) : Heap := (mH2 h l).push { cls := .type "map", data := .fields #[.ref (mH1 h l).objs.size, f] }
theorem meets_map_new (l : Addr) (f : Value) (xs : Array Value) :
    Meets (Builtin.«map.__new__» ⟨[.type "map", f, .ref l], []⟩) (fun _ R s => s.heap.IsList l xs ∧
      R (.ok (.ret (.ref (mH2 s.heap l).objs.size))) { s with heap := mH3 s.heap l f }) :=
  .of_wp fun prog w A R s h => by
    obtain ⟨hp, g, d, tk, os⟩ := s; obtain ⟨hl, h⟩ := h
    have hsub := map_sub
    have hL : Heap.IsList (Shared.heap ⟨hp, g, d, tk, os⟩) l xs := hl
    wp_walk using wpAny_pyIter_list hL
    exact ⟨_, rfl, h⟩
theorem mapCall {prog : Program} {w : World} {A : Around} {E : Value → Shared → Prop} {s : Shared} {h₀ : Heap} {L : Addr} {m : Str → Option Value} {news : List (Addr × Obj)} {f pl : Addr} {us : List Value} {n : Nat} {Q : Value → Shared → Prop}
   (F : Fr h₀ L s.heap m) (N : News h₀ L s.heap news) (hm : (pl, listOf us.toArray n) ∈ news)
   (h : ∀ z TI it h', Fr h₀ L h' m → News h₀ L h' ((z, mapO TI (.ref f)) :: (TI, tupO [.ref it]) :: (it, iterO pl 0) :: news) → (∀ p ∈ news, p.1 < it) → it < TI → TI < z → Q (.ref z) { s with heap := h' }) :
   wpAny (model prog w) A (call (.type "map") [.ref f, .ref pl]) Q E s := by
  have hl : s.heap.IsList pl us.toArray := ⟨_, (N _ hm).1, rfl, n, rfl⟩
  refine callType_new map_called (by decide) (map_typeCall _ _) (map_newCall _ _) (fun obj => PySem.F.args_object_init_3 obj _ _) map_entry_new (meets_map_new pl (.ref f) us.toArray) ⟨hl, ?_⟩
  have z1 : (mH1 s.heap pl).objs.size = s.heap.objs.size + 1 := Heap.size_push ..
  have z2 : (mH2 s.heap pl).objs.size = s.heap.objs.size + 1 + 1 := by rw [Heap.size_push, z1]
  obtain ⟨F1, N1⟩ := newsPush F N (iterO pl 0) (Heap.get?_push_size _ rfl)
  obtain ⟨F2, N2⟩ := newsPush F1 N1 { cls := .type "tuple", data := .seq #[.ref s.heap.objs.size] } (Heap.get?_push_size _ rfl)
  obtain ⟨F3, N3⟩ := newsPush F2 N2 { cls := .type "map", data := .fields #[.ref (mH1 s.heap pl).objs.size, .ref f] } (Heap.get?_push_size _ rfl)
  show _ ∧ _
  refine ⟨⟨_, (N3 _ (.head _)).1, rfl⟩, h _ _ _ _ F3 N3 (fun p hp => Heap.lt_size (N p hp).1) ?_ ?_⟩
  · show s.heap.objs.size < (mH1 s.heap pl).objs.size
    rw [z1]; exact Nat.lt_succ_self _
  · show (mH1 s.heap pl).objs.size < (mH2 s.heap pl).objs.size
    rw [z2, z1]; exact Nat.lt_succ_self _
section
variable {w : World} {p : Program} {loose : List Str} {mean : ExcName → Option Value} {mg mb : Str → Option Value}
    {dp un : Nat} {gd : Option (List Code)} {cn : Str} {cs : Scope} {a : Addr} {ccd : Value} {cl : List (Str × Addr)} {outer : List Env} {A₀ : Around} {base h₀ : Heap} {L : Addr} {m : Str → Option Value} {s : Shared} {E : Value → Shared → Prop}
theorem mapNext {rest : List (Addr × Obj)} {z TI it pl : Addr} {oi : Obj} {i : Nat} {us : List Value} {n : Nat} {x : Str} {t : Tok} {Q : Option Value → Shared → Prop}
    (B : Below A₀ base outer h₀) (F : Fr h₀ L s.heap m) (X : (hd.heap_39 w.params).In h₀) (N : News h₀ L s.heap ((it, oi) :: rest)) (T : Top p loose mean mg mb h₀) (hk : cs.kind = .function)
    (hc : oi.cls = .type "list_iterator") (hod : oi.data = .fields #[.ref pl, .int i 0]) (hz : (z, mapO TI (.ref 94)) ∈ rest) (hTI : (TI, tupO [.ref it]) ∈ rest) (hpl : (pl, listOf us.toArray n) ∈ rest) (hne : ∀ p ∈ rest, p.1 ≠ it)
    (hi : us.toArray[i]? = some (.str x t)) (hd' : dp + 1 < recursionLimit) (hu : un + 10 < cLine)
    (ret : ∀ (t : Tok) (oi' : Obj) (h' : Heap) (tk' : Nat), Fr h₀ L h' m → News h₀ L h' ((it, oi') :: rest) → oi'.cls = .type "list_iterator" → oi'.data = .fields #[.ref pl, .int (i + 1 : Nat) 0] → Q (some (.str x t)) { s with heap := h', toks := tk' }) :
    wpAny (model Challenge.rw_xc0040_01.row.prog w) (ktrTop dp un gd cn cs L a ccd cl outer) (pyNext (.ref z)) Q E s := by
  have hit : s.heap.IsListIter it pl i := ⟨oi, (N _ (.head _)).1, hc, hod⟩
  have gz := (N _ (.tail _ hz)).1
  have gTI := (N _ (.tail _ hTI)).1
  have gpl : s.heap.IsList pl us.toArray := ⟨_, (N _ (.tail _ hpl)).1, rfl, n, rfl⟩
  have hT : s.TypeIs (.ref z) "map" := ⟨_, gz, rfl⟩
  unfold pyNext
  refine wpAny_bind (wpAny_attempt (wpAny_callSpecial?_slot (name := Str.ofString "__next__") hT map_slot_next (wpAny_call_entry map_slot_next hT map_entry_next ?_ (map_args_next _))))
  show wpAny _ _ (field (.ref z) 0 >>= _) _ _ _
  refine wpAny_bind (wpAny_field gz rfl (x := .ref TI) rfl ?_)
  refine wpAny_bind (wpAny_seqItems gTI rfl ?_)
  show wpAny _ _ (forIn #[Value.ref it] _ _ >>= _) _ _ _
  simp only [List.forIn_toArray, List.forIn_cons, List.forIn_nil]
  refine wpAny_bind (wpAny_bind (wpAny_bind (wpAny_holding ?_)))
  refine wpAny_nextOf_list_item hit gpl hi fun h₁ hit₁ hs₁ => ?_
  obtain ⟨oi', hoi', hc', hd1⟩ := hit₁
  have F1 : Fr h₀ L h₁ m := F.change hs₁ (N _ (.head _)).2.1 (N _ (.head _)).2.2
  have N1 : News h₀ L h₁ ((it, oi') :: rest) := N.setHead hne hs₁ hoi'
  refine wpAny_pure (wpAny_pure ?_)
  refine wpAny_bind (wpAny_field (N1 _ (.tail _ hz)).1 rfl (x := .ref 94) rfl ?_)
  refine wpAny_bind (wpAny_holding ?_)
  show wpAny _ (ktrTop dp (un + 1) gd cn cs L a ccd cl outer) (call (.ref 94) [.str x t]) _ _ _
  refine useS (fspath_ok w p loose mean mg mb _ x t) B F1 X N1 T hk trivial hd' (by omega) fun t' h' tk' F2 N2 => ?_
  refine wpAny_bind (wpAny_letGo ?_)
  exact wpAny_pure ⟨_, rfl, wpAny_pure (ret t' oi' h' tk' F2 N2 hc' hd1)⟩
end
end
section
set_option maxRecDepth 100000
set_option maxHeartbeats 8000000
section
variable {w : World} {p : Program} {loose : List Str} {mean : ExcName → Option Value} {mg mb : Str → Option Value}
    {dp un : Nat} {gd : Option (List Code)} {cn : Str} {cs : Scope} {a : Addr} {ccd : Value} {cl : List (Str × Addr)} {outer : List Env} {A₀ : Around} {base h₀ : Heap} {L : Addr} {m : Str → Option Value} {s : Shared} {E : Value → Shared → Prop}
theorem mapEnd {rest : List (Addr × Obj)} {z TI it pl : Addr} {oi : Obj} {i : Nat} {us : List Value} {n : Nat} {Q : Option Value → Shared → Prop}
    (F : Fr h₀ L s.heap m) (N : News h₀ L s.heap ((it, oi) :: rest))
    (hc : oi.cls = .type "list_iterator") (hod : oi.data = .fields #[.ref pl, .int i 0]) (hz : (z, mapO TI (.ref 94)) ∈ rest) (hTI : (TI, tupO [.ref it]) ∈ rest) (hpl : (pl, listOf us.toArray n) ∈ rest) (hne : ∀ p ∈ rest, p.1 ≠ it)
    (hi : us.toArray[i]? = none)
    (ret : ∀ (h' : Heap), Fr h₀ L h' m → News h₀ L h' rest → Q none { s with heap := h' }) :
    wpAny (model Challenge.rw_xc0040_01.row.prog w) (ktrTop dp un gd cn cs L a ccd cl outer) (pyNext (.ref z)) Q E s := by
  have hit : s.heap.IsListIter it pl i := ⟨oi, (N _ (.head _)).1, hc, hod⟩
  have gz := (N _ (.tail _ hz)).1
  have gTI := (N _ (.tail _ hTI)).1
  have gpl : s.heap.IsList pl us.toArray := ⟨_, (N _ (.tail _ hpl)).1, rfl, n, rfl⟩
  have hT : s.TypeIs (.ref z) "map" := ⟨_, gz, rfl⟩
  unfold pyNext
  refine wpAny_bind (wpAny_attempt (wpAny_callSpecial?_slot (name := Str.ofString "__next__") hT map_slot_next (wpAny_call_entry map_slot_next hT map_entry_next ?_ (map_args_next _))))
  show wpAny _ _ (field (.ref z) 0 >>= _) _ _ _
  refine wpAny_bind (wpAny_field gz rfl (x := .ref TI) rfl ?_)
  refine wpAny_bind (wpAny_seqItems gTI rfl ?_)
  show wpAny _ _ (forIn #[Value.ref it] _ _ >>= _) _ _ _
  simp only [List.forIn_toArray, List.forIn_cons, List.forIn_nil]
  refine wpAny_bind (wpAny_bind (wpAny_bind (wpAny_holding ?_)))
  refine wpAny_nextOf_list_end rfl hit gpl hi fun h₁ e hs₁ he => ?_
  obtain ⟨o, ho, hcl⟩ := he
  refine wpAny_bind (wpAny_isInstance (T := "StopIteration") (b := true) ⟨o, ho, hcl⟩ isSubtype_stop ?_)
  refine wpAny_pure (ret _ ?_ ?_)
  · obtain ⟨oL, a1, a2, hoL, a3⟩ := F.ns
    refine ⟨⟨oL, a1, a2, hs₁ L _ (N _ (.head _)).2.1.symm hoL, a3⟩, fun b x e => hs₁ b x ?_ (F.keep b x e), F.above⟩
    rintro rfl
    rw [(N _ (.head _)).2.2] at e
    cases e
  · exact fun p hp => ⟨hs₁ _ _ (hne p hp) (N p (.tail _ hp)).1, (N p (.tail _ hp)).2⟩
theorem mapLoop {rest : List (Addr × Obj)} {z TI it pl S : Addr} {us : List Value} {n : Nat} {R : Result → Shared → Prop} {res : Value}
    (B : Below A₀ base outer h₀) (X : (hd.heap_39 w.params).In h₀) (T : Top p loose mean mg mb h₀) (hk : cs.kind = .function)
    (hz : (z, mapO TI (.ref 94)) ∈ rest) (hTI : (TI, tupO [.ref it]) ∈ rest) (hpl : (pl, listOf us.toArray n) ∈ rest) (hne : ∀ p ∈ rest, p.1 ≠ it) (hneS : ∀ p ∈ rest, p.1 ≠ S) (hS : S ≠ it)
    (hd' : dp + 1 < recursionLimit) (hu : un + 11 < cLine) (hsz : us.length ≤ 1000) :
    ∀ (r : List Value) (ys : List Str) (i : Nat) (s : Shared) (acc : List Value) (c : Nat) (oi : Obj), us.drop i = r → StrsAre r ys → Fr h₀ L s.heap m → News h₀ L s.heap ((it, oi) :: (S, listOf acc.toArray c) :: rest) →
      oi.cls = .type "list_iterator" → oi.data = .fields #[.ref pl, .int i 0] → acc.length = i → i ≤ us.length →
      (∀ h' tk' acc' c', Fr h₀ L h' m → News h₀ L h' ((S, listOf (acc ++ acc').toArray c') :: rest) → StrsAre acc' ys → R (.ok (.ret res)) { s with heap := h', toks := tk' }) →
      codeAny (model Challenge.rw_xc0040_01.row.prog w) (ktrTop dp un gd cn cs L a ccd cl outer) (.builtin "list.extend.loop" ⟨[.ref S, .ref z, res], []⟩) R s := by
  intro r
  induction r with
  | nil =>
    intro ys i s acc c oi hr hy F N hc hod hacc hle hR
    cases hy
    refine codeAny_builtin PySem.F.entry_extend_loop ?_
    rw [Around.under_plainId PySem.F.plain_extend_loop _]
    show wpAny _ (ktrTop dp (un + 1) gd cn cs L a ccd cl outer) (pyNext (.ref z) >>= _) _ _ s
    refine wpAny_bind (mapEnd (us := us) F N hc hod (.tail _ hz) (.tail _ hTI) (.tail _ hpl) ?_ ?_ fun h' F' N' => ?_)
    · intro p hp
      rcases List.mem_cons.mp hp with rfl | hp
      · exact hS
      · exact hne p hp
    · rw [List.getElem?_toArray]
      have := List.drop_eq_nil_iff.mp hr
      exact List.getElem?_eq_none this
    · exact wpAny_pure (hR h' s.toks [] c F' (by rw [List.append_nil]; exact N') .nil)
  | cons v r ih =>
    intro ys i s acc c oi hr hy F N hc hod hacc hle hR
    cases hy with
    | cons x t hy' =>
    rename_i ys'
    have hlt : i < us.length := by
      rcases Nat.lt_or_ge i us.length with h | h
      · exact h
      · rw [List.drop_eq_nil_iff.mpr h] at hr; cases hr
    have hgi : us[i]? = some (.str x t) := by
      have := congrArg (·[0]?) hr
      simpa using this
    have hdr : us.drop (i + 1) = r := by
      rw [← List.drop_drop, hr]; rfl
    refine codeAny_builtin PySem.F.entry_extend_loop ?_
    rw [Around.under_plainId PySem.F.plain_extend_loop _]
    show wpAny _ (ktrTop dp (un + 1) gd cn cs L a ccd cl outer) (pyNext (.ref z) >>= _) _ _ s
    refine wpAny_bind (mapNext (us := us) (x := x) (t := t) B F X N T hk hc hod (.tail _ hz) (.tail _ hTI) (.tail _ hpl) ?_ ?_ hd' (by omega) fun t' oi' h' tk' F' N' hc' hod' => ?_)
    · intro p hp
      rcases List.mem_cons.mp hp with rfl | hp
      · exact hS
      · exact hne p hp
    · rw [List.getElem?_toArray]; exact hgi
    show wpAny _ (ktrTop dp (un + 1) gd cn cs L a ccd cl outer) (updateSeq S (·.push (.str x t')) >>= _) _ _ _
    have hS' := (N' _ (.tail _ (.head _))).1
    refine wpAny_bind ?_
    refine wpAny_updateSeq hS' rfl ?_ (by rw [List.size_toArray, hacc, PySem.sizeLine_eq]; omega) (by show (acc.toArray.push (.str x t')).size ≤ sizeLine + 1; rw [Array.size_push, List.size_toArray, hacc, PySem.sizeLine_eq]; omega)
    have g2 := Heap.get?_update_self (Obj.mapSeq (·.push (Value.str x t'))) hS' rfl
    have sb : Heap.SameBut S h' (h'.update S (Obj.mapSeq (·.push (Value.str x t')))) := Heap.SameBut.update ..
    have F2 := F'.change sb (N' _ (.tail _ (.head _))).2.1 (N' _ (.tail _ (.head _))).2.2
    have N2 := News.setSecond N' (Ne.symm hS) hneS sb g2
    have e1 : Obj.mapSeq (·.push (Value.str x t')) (listOf acc.toArray c) = listOf (acc ++ [Value.str x t']).toArray (c + 1) := by
      simp [Obj.mapSeq]
    rw [e1] at N2
    refine wpAny_pure ⟨plainId_quiet PySem.F.plain_extend_loop _, ih ys' (i + 1) _ (acc ++ [.str x t']) (c + 1) oi' hdr hy' F2 N2 hc' hod' (by simp [hacc]) hlt fun h3 tk3 acc3 c3 F3 N3 S3 => ?_⟩
    exact hR h3 tk3 (.str x t' :: acc3) c3 F3 (by simpa using N3) (.cons x t' S3)
theorem mapCollect {news : List (Addr × Obj)} {z TI it pl : Addr} {us : List Value} {n : Nat} {xs : List Str} {Q : List Value → Shared → Prop}
    (B : Below A₀ base outer h₀) (F : Fr h₀ L s.heap m) (X : (hd.heap_39 w.params).In h₀) (T : Top p loose mean mg mb h₀) (hk : cs.kind = .function)
    (N : News h₀ L s.heap ((z, mapO TI (.ref 94)) :: (TI, tupO [.ref it]) :: (it, iterO pl 0) :: news)) (hm : (pl, listOf us.toArray n) ∈ news) (hne : ∀ p ∈ news, p.1 < it) (l1 : it < TI) (l2 : TI < z)
    (hus : StrsAre us xs) (hd' : dp + 1 < recursionLimit) (hu : un + 12 < cLine) (hsz : us.length ≤ 1000)
    (hQ : ∀ h' tk' acc, Fr h₀ L h' m → News h₀ L h' news → StrsAre acc xs → Q acc { s with heap := h', toks := tk' }) :
    wpAny (model Challenge.rw_xc0040_01.row.prog w) (ktrTop dp un gd cn cs L a ccd cl outer) (collect (.ref z)) Q E s := by
  have gz := (N _ (.head _)).1
  have hSz : s.heap.objs.size ≠ z := (N.apart _ (.head _)).symm
  have hT0 : s.TypeIs (.ref z) "map" := ⟨_, gz, rfl⟩
  unfold collect
  refine wpAny_bind (wpAny_runValue (codeAny_builtin PySem.F.entry_proto_collect ?_))
  rw [Around.under_plainId PySem.F.plain_proto_collect _]
  show wpAny _ _ (newList [] >>= fun l => again (.builtin "list.__iadd__" ⟨[l, .ref z], []⟩)) _ _ s
  refine wpAny_bind (wpAny_newObj_type ?_)
  refine wpAny_pure ⟨plainId_quiet PySem.F.plain_list_iadd _, codeAny_builtin PySem.F.entry_list_iadd ?_⟩
  rw [Around.under_plainId PySem.F.plain_list_iadd _]
  obtain ⟨F1, N1⟩ := newsPush F N { cls := .type "list", data := .seq ([] : List Value).toArray } (Heap.get?_push_size _ rfl)
  have hT : Shared.TypeIs { s with heap := s.heap.push { cls := .type "list", data := .seq ([] : List Value).toArray } } (.ref z) "map" := ⟨_, (N1 _ (.tail _ (.head _))).1, rfl⟩
  show wpAny _ _ (Builtin.List.listExtendWith (.ref s.heap.objs.size) (.ref z) (.ref s.heap.objs.size)) _ _ _
  unfold Builtin.List.listExtendWith
  refine wpAny_bind (wpAny_typeOf hT ?_)
  have h1 : Builtin.List.listSameRef (.ref s.heap.objs.size) (.ref z) = false := by simp [Builtin.List.listSameRef, hSz]
  have h2 : (Value.type "map" == Value.type "list") = false := by decide
  have h3 : (Value.type "map" == Value.type "tuple") = false := by decide
  rw [h1, h2, h3, if_neg (by decide)]
  refine wpAny_bind (wpAny_pyIter_slot hT map_slot_iter (wpAny_call_entry map_slot_iter hT map_entry_iter ?_ (map_args_iter _)))
  show wpAny _ _ (ret (.ref z)) _ _ _
  refine wpAny_pure ⟨_, rfl, "map", _, hT, map_slot_next.lookup, ?_⟩
  refine wpAny_bind (wpAny_holding ?_)
  unfold Builtin.List.listLengthHint
  refine wpAny_bind (wpAny_specialOf hT map_no_len ?_)
  show wpAny _ _ (specialOf (Value.ref z) (Str.ofString "__length_hint__") >>= _) _ _ _
  refine wpAny_bind (wpAny_specialOf hT map_no_hint ?_)
  refine wpAny_pure ?_
  show wpAny _ _ (rule "list.extend.makes-room" >>= fun _ => Builtin.List.listTouch (.ref s.heap.objs.size) >>= fun _ =>
    again (.builtin "list.extend.loop" ⟨[.ref s.heap.objs.size, .ref z, .ref s.heap.objs.size], []⟩)) _ _ _
  refine wpAny_bind (wpAny_rule ?_)
  refine wpAny_bind ?_
  show wpAny _ _ (updateSeq s.heap.objs.size (·.push .none) >>= fun _ => updateSeq s.heap.objs.size (·.pop)) _ _ _
  have hS₁ := (N1 _ (.head _)).1
  refine wpAny_bind (wpAny_updateSeq hS₁ rfl ?_)
  have hS₂ := Heap.get?_update_self (Obj.mapSeq (·.push Value.none)) hS₁ rfl
  refine wpAny_updateSeq hS₂ rfl ?_
  have hS₃ := Heap.get?_update_self (Obj.mapSeq (·.pop)) hS₂ rfl
  have ap := N.apart
  have F2 := F1.change (h' := (s.heap.push { cls := .type "list", data := .seq ([] : List Value).toArray }).update s.heap.objs.size (Obj.mapSeq (·.push Value.none))) (Heap.SameBut.update ..) (N1 _ (.head _)).2.1 (N1 _ (.head _)).2.2
  have N2 := News.setHead N1 ap (Heap.SameBut.update ..) hS₂
  have F3 := F2.change (h' := ((s.heap.push { cls := .type "list", data := .seq ([] : List Value).toArray }).update s.heap.objs.size (Obj.mapSeq (·.push Value.none))).update s.heap.objs.size (Obj.mapSeq (·.pop))) (Heap.SameBut.update ..) (N1 _ (.head _)).2.1 (N1 _ (.head _)).2.2
  have N3 := News.setHead N2 ap (Heap.SameBut.update ..) hS₃
  have N4 : News h₀ L (((s.heap.push { cls := .type "list", data := .seq ([] : List Value).toArray }).update s.heap.objs.size (Obj.mapSeq (·.push Value.none))).update s.heap.objs.size (Obj.mapSeq (·.pop)))
      ((it, iterO pl 0) :: (s.heap.objs.size, listOf ([] : List Value).toArray 2) :: (z, mapO TI (.ref 94)) :: (TI, tupO [.ref it]) :: news) := by
    intro q hq
    refine N3 q ?_
    simp only [List.mem_cons] at hq ⊢
    rcases hq with h | h | h | h | h
    · exact .inr (.inr (.inr (.inl h)))
    · exact .inl h
    · exact .inr (.inl h)
    · exact .inr (.inr (.inl h))
    · exact .inr (.inr (.inr (.inr h)))
  refine wpAny_pure ⟨plainId_quiet PySem.F.plain_extend_loop _, ?_⟩
  refine mapLoop (us := us) (n := n) (pl := pl) (rest := (z, mapO TI (.ref 94)) :: (TI, tupO [.ref it]) :: news) (m := m) (h₀ := h₀) B X T hk (.head _) (.tail _ (.head _)) (.tail _ (.tail _ hm)) ?_ ?_ ?_ hd' (by omega) hsz us xs 0 _ [] 2 (iterO pl 0) rfl hus F3 N4 rfl rfl rfl (Nat.zero_le _) fun h' tk' acc' c' F' N' S' => ?_
  · intro q hq
    rcases List.mem_cons.mp hq with rfl | hq
    · exact Nat.ne_of_gt (Nat.lt_trans l1 l2)
    · rcases List.mem_cons.mp hq with rfl | hq
      · exact Nat.ne_of_gt l1
      · exact Nat.ne_of_lt (hne q hq)
  · intro q hq
    refine ap q ?_
    rcases List.mem_cons.mp hq with rfl | hq
    · exact .head _
    · rcases List.mem_cons.mp hq with rfl | hq
      · exact .tail _ (.head _)
      · exact .tail _ (.tail _ (.tail _ hq))
  · exact (ap _ (.tail _ (.tail _ (.head _)))).symm
  show wpAny _ _ (load s.heap.objs.size >>= _) _ _ _
  refine wpAny_bind (wpAny_load (N' _ (.head _)).1 ?_)
  refine wpAny_pure ?_
  have e : ([] ++ acc').toArray.toList = acc' := by simp
  show Q ([] ++ acc').toArray.toList _
  rw [e]
  exact hQ h' tk' acc' F' (fun q hq => N' q (.tail _ (.tail _ (.tail _ hq)))) S'
theorem tupMap {news : List (Addr × Obj)} {z TI it pl : Addr} {us : List Value} {n : Nat} {xs : List Str} {Q : Value → Shared → Prop}
    (B : Below A₀ base outer h₀) (F : Fr h₀ L s.heap m) (X : (hd.heap_39 w.params).In h₀) (T : Top p loose mean mg mb h₀) (hk : cs.kind = .function)
    (N : News h₀ L s.heap ((z, mapO TI (.ref 94)) :: (TI, tupO [.ref it]) :: (it, iterO pl 0) :: news)) (hm : (pl, listOf us.toArray n) ∈ news) (hne : ∀ p ∈ news, p.1 < it) (l1 : it < TI) (l2 : TI < z)
    (hus : StrsAre us xs) (hd' : dp + 1 < recursionLimit) (hu : un + 16 < cLine) (hsz : us.length ≤ 1000)
    (hQ : ∀ D h' tk' acc, Fr h₀ L h' m → News h₀ L h' ((D, tupO acc) :: news) → StrsAre acc xs → (∀ p ∈ news, p.1 < D) → Q (.ref D) { s with heap := h', toks := tk' }) :
    wpAny (model Challenge.rw_xc0040_01.row.prog w) (ktrTop dp un gd cn cs L a ccd cl outer) (call (.type "tuple") [.ref z]) Q E s := by
  have hTI : s.TypeIs (.ref z) "map" := ⟨_, (N _ (.head _)).1, rfl⟩
  refine callType_codes (Q₁ := fun obj s₁ => s₁.TypeIs obj "tuple" ∧ Q obj s₁) PySem.F.called_tuple (PySem.F.typeCall_tuple_1 _) PySem.F.entry_object_init
    ?_ fun obj s₁ h₁ => ⟨h₁.1, PySem.F.args_object_init_2 obj _, object_init_meets PySem.F.called_tuple.init.lookup PySem.F.called_tuple.made (by decide) _ w _ _ s₁ ⟨h₁.1, rfl, h₁.2⟩⟩
  refine codeAny_of_tree ?_
  show wpAny _ _ (do checkBuiltinCall "tuple.__new__" ⟨[.type "tuple", .ref z], []⟩; again (.builtin "tuple.__new__" ⟨[.type "tuple", .ref z], []⟩)) _ _ s
  refine wpAny_bind (wpAny_of_eq (PySem.F.newCall_tuple_1 _) (wpAny_pure ⟨plainId_quiet PySem.F.plain_tuple_new _, codeAny_builtin PySem.F.entry_tuple_new ?_⟩))
  rw [Around.under_plainId PySem.F.plain_tuple_new _]
  have hsub := sub_tuple_self
  have hinit := init_tuple_lookup
  have hmh := madeHere_tuple
  have hcol := fun Q2 E2 h2 => mapCollect (w := w) (dp := dp) (un := un + 2) (gd := gd) (cn := cn) (a := a) (ccd := ccd) (cl := cl) (Q := Q2) (E := E2) B F X T hk N hm hne l1 l2 hus hd' (by omega) hsz h2
  wp_walk using wpAny_typeOf hTI, hcol
  intro h' tk' acc F' N' S'
  show wpAny _ _ (Builtin.Tuple.tupleExact acc.toArray >>= fun v => ret v) _ _ _
  unfold Builtin.Tuple.tupleExact
  have hlen := S'.length
  have hlen2 := hus.length
  refine wpAny_bind (wpAny_newObj_type ?_ (by show acc.toArray.size ≤ sizeLine; rw [List.size_toArray, hlen, ← hlen2, PySem.sizeLine_eq]; omega))
  obtain ⟨F2, N2⟩ := newsPush F' N' (tupO acc) (Heap.get?_push_size _ rfl)
  exact wpAny_pure ⟨⟨_, Heap.get?_push_size _ rfl, rfl⟩, hQ _ _ _ acc F2 N2 S' fun q hq => Heap.lt_size (N' q hq).1⟩
end
end
section
set_option maxRecDepth 100000
set_option maxHeartbeats 8000000
section
variable {prog : Program} {w : World} {A : Around} {E : Value → Shared → Prop} {s : Shared} {h₀ : Heap} {L : Addr} {m : Str → Option Value} {env : Env}
/-- a tuple of the ledger, as a comprehension's source -/
noncomputable def TupAt (ax : Addr) (its : Array Value) (news : List (Addr × Obj)) : Prop := ∃ o, (ax, o) ∈ news ∧ o.cls = .type "tuple" ∧ ∃ n, o.data = .seq its n
theorem TupAt.is {h₀ h : Heap} {L ax : Addr} {its : Array Value} {news : List (Addr × Obj)} (x : TupAt ax its news) (N : News h₀ L h news) : h.IsTuple ax its := by
  obtain ⟨o, hm, r⟩ := x
  exact ⟨o, (N _ hm).1, r⟩
theorem tup_st {ax I : Addr} {its : Array Value} : ∀ i (h h' : Heap) (o : Obj) (nw : List (Addr × Obj)), (h.IsTupleIter I ax i ∧ h.IsTuple ax its) → h.get? I = some o → h'.get? I = some o → (∀ b o, h₀.get? b = some o → h'.get? b = some o) → News h₀ L h' nw → TupAt ax its nw → (h'.IsTupleIter I ax i ∧ h'.IsTuple ax its) :=
  fun i h h' o nw st e e' _ N S => ⟨by obtain ⟨o', q, r⟩ := st.1; rw [e] at q; cases q; exact ⟨o, e', r⟩, S.is N⟩
noncomputable def SrcTup (prog : Program) (w : World) (A : Around) (h₀ : Heap) (L : Addr) (m : Str → Option Value) (env : Env) (elt : Expr) (x : Str) (scope : Scope) (cl : List (Str × Addr)) (Fin : Shared → List Value → List (Addr × Obj) → Prop) (xv : Value) (s₁ : Shared) : Prop :=
  ∃ ax its news, xv = .ref ax ∧ A.handled = none ∧ Fr h₀ L s₁.heap m ∧ News h₀ L s₁.heap news ∧ TupAt ax its news ∧ its.size ≤ sizeLine ∧
    ∀ s₂ : Shared, (∃ h, s₂ = { s₁ with heap := h }) → LCg.CompRest prog w A h₀ L m env elt x scope cl s₂ (TupAt ax its) (fun i v => its[i]? = some v) (Fin s₂) its.size 0 [] news
theorem SrcTup.ledger {elt : Expr} {x : Str} {scope : Scope} {cl : List (Str × Addr)} {Fin : Shared → List Value → List (Addr × Obj) → Prop} {ax : Addr} {vs : List Value} {news : List (Addr × Obj)} {s₁ : Shared}
    (hh : A.handled = none) (F : Fr h₀ L s₁.heap m) (N : News h₀ L s₁.heap news) (hm : (ax, tupO vs) ∈ news) (hsz : vs.toArray.size ≤ sizeLine)
    (h : ∀ g, LCg.CompRest prog w A h₀ L m env elt x scope cl { s₁ with heap := g } (TupAt ax vs.toArray) (fun i v => vs.toArray[i]? = some v) (Fin { s₁ with heap := g }) vs.toArray.size 0 [] news) :
    SrcTup prog w A h₀ L m env elt x scope cl Fin (.ref ax) s₁ := ⟨ax, vs.toArray, news, rfl, hh, F, N, ⟨_, hm, rfl, _, rfl⟩, hsz, fun _ ⟨g, e⟩ => e ▸ h g⟩
theorem assignTup {elt iter : Expr} {x y : Str} {px py : Pos} {scope : Scope} {cl : List (Str × Addr)} {pos spos : Pos} {Q : Flow → Shared → Prop} (F₀ : Fr h₀ L s.heap m) (hLe : env.locals = L)
    (hsw : swapsWith (.ListComp elt [⟨.Name x px, iter, [], 0⟩] scope pos) (some (.Name y py)) spos.line env = pure true)
    (hclos : closureFor scope env = pure cl) (hcell : ∀ z ∈ scope.names, z.2 ≠ .cell) (hkind : scope.kind = .function)
    (hnames : ∀ z ∈ scope.names, z.2 = .local → scope.names.lookup z.1 = some .local) (hx : scope.names.lookup x = some .local)
    (hy : env.kindOf y = some .local) (hp : (env.scope.kind == .class || (env.scope.kind == .module && env.locals != env.globals)) = false)
    (h : wpAny (model prog w) A (eval iter env) (SrcTup prog w A h₀ L m env elt x scope cl (fun s₂ => LCg.FinA h₀ L m s₂ y Q)) E s)
    (hs : ∀ x, foldedSetIterable iter env x = pure x := by intro _; rfl) :
    wpAny (model prog w) A (exec (.Assign [.Name y py] (.ListComp elt [⟨.Name x px, iter, [], 0⟩] scope pos) spos) env) Q E s := by
  subst hLe
  rw [exec_Assign_Name_used _ _ _ _ hsw]
  refine wpAny_bind (wpAny_standAt (wpAny_bind ?_))
  show wpAny _ A (do let _ ← comprehension (.ListComp elt [⟨.Name x px, iter, [], 0⟩] scope pos) scope env _ (newList []) false (eval iter env) (some (assign (.Name y py) env))) _ _ s
  refine wpAny_bind (wpAny_mono (wpAny_comprehension_free (use := some (assign (.Name y py) env)) (Q := fun _ s' => Q .next s') rfl hs hclos hkind hnames
    (wpAny_mono h (fun xv s₁ h₁ => ?_) fun _ _ e => e)) (fun _ s' hq => wpAny_pure (wpAny_pure hq)) fun _ _ e => e)
  obtain ⟨ax, its, news, rfl, hh, F, N, S, hsz, R⟩ := h₁
  have hl := S.is N
  have hlt : ax < s₁.heap.objs.size := by obtain ⟨_, e, _⟩ := hl; exact Heap.lt_size e
  refine wpAny_pyIter_tuple hl ?_
  have up : ∀ b o, s₁.heap.get? b = some o → (s₁.heap.push { cls := .type "tuple_iterator", data := .fields #[.ref ax, .int 0 0] }).get? b = some o := fun b o e => Heap.get?_push_of_some _ e
  refine LCg.block_U (Walks.tuple hh s₁.heap.objs.size ax (Nat.ne_of_lt hlt) its) hsz (fun i h st => by obtain ⟨o, e, _⟩ := st.1; exact ⟨o, e⟩) tup_st hcell hkind hx ⟨⟨_, Heap.get?_push_size _ rfl, rfl, rfl⟩, by obtain ⟨o, e, r⟩ := hl; exact ⟨o, up _ _ e, r⟩⟩ (fun b hb => ?_)
    (F.keeps up) (N.grown up) (Nat.ne_of_lt F.ns.lt) (next_is_new F) (fun p hp => Nat.ne_of_lt (Heap.lt_size (N p hp).1)) S (R _ ⟨_, rfl⟩) ?_
  · show b < (s₁.heap.push _).objs.size
    rw [Heap.size_push]
    rcases List.mem_cons.mp hb with rfl | hb
    · exact Nat.lt_succ_self _
    · rw [List.mem_singleton.mp hb]; exact Nat.lt_succ_of_lt hlt
  · intro D C h' tk m' ys news' F' N' o1 hn hC₀ hD₀ hCL hDL hCD offC fin
    show wpAny _ A (assign (.Name y py) env (.ref D)) _ _ _
    refine wpAny_assign_Name (wpAny_storeName_local hy F'.ns (fun h₂ hn₂ hs₂ => ?_) hp)
    have hL₀ : h₀.get? env.locals = none := Heap.get?_none_of_le F'.above
    have F₂ : Fr h₀ env.locals h₂ (fun z => if z = y then some (.ref D) else m z) := ⟨hn₂, fun b o e => hs₂.extBut b o (fun q => by rw [q, hL₀] at e; cases e) (F'.keep b o e), F'.above⟩
    refine ⟨m', hn.sameBut hs₂ hCL, fun h'' hs'' => fin D h'' _ (F₂.change hs'' hCL hC₀) (fun p hp => ?_) o1⟩
    have z : h₂.get? p.1 = some p.2 := hs₂.extBut _ _ (N' p hp).2.1 (N' p hp).1
    refine ⟨hs''.extBut _ _ ?_ z, (N' p hp).2⟩
    rcases List.mem_cons.mp hp with rfl | hp
    · exact Ne.symm hCD
    · exact offC p hp
theorem compEnd1 {h1 h' : Heap} {I C D : Addr} {s₁ : Shared} {o oI oC oD : Obj} {S : List (Addr × Obj) → Prop} {rest : Value → List (Addr × Obj) → Prop} {y : Value} {tk : Nat} {led : List (Addr × Obj)}
    (N : News h₀ L h' ((h1.objs.size, o) :: (I, oI) :: (C, oC) :: (D, oD) :: led)) (N1 : News h₀ L h1 ((I, oI) :: (C, oC) :: (D, oD) :: led)) (F : Fr h₀ L h' m) (off : LCg.Off3 I C D led) (hS : S ((h1.objs.size, o) :: led)) (r : rest y ((h1.objs.size, o) :: led)) :
    LCg.CompEnd h₀ L m s₁ I oI C oC D oD S rest y { s₁ with heap := h', toks := tk } := by
  refine LCg.CompEnd.intro F N ((h1.objs.size, o) :: led) ?_ ⟨⟨?_, ?_, ?_⟩, off⟩ hS r
  · intro p hp
    simp only [List.mem_cons] at hp ⊢
    rcases hp with h | h | h | h | h
    · exact .inr (.inl h)
    · exact .inr (.inr (.inl h))
    · exact .inr (.inr (.inr (.inl h)))
    · exact .inl h
    · exact .inr (.inr (.inr (.inr h)))
  · exact Nat.ne_of_gt (Heap.lt_size (N1 _ (.head _)).1)
  · exact Nat.ne_of_gt (Heap.lt_size (N1 _ (.tail _ (.head _))).1)
  · exact Nat.ne_of_gt (Heap.lt_size (N1 _ (.tail _ (.tail _ (.head _)))).1)
end
end
section
set_option maxRecDepth 100000
set_option maxHeartbeats 8000000
theorem setit_slot_iter : Slot "set_iterator" "__iter__" "set_iterator.__iter__" :=
  .of (owner := "set_iterator") (n := "__iter__") (by rw [typeLookup_type, builtinLookup_eq_fast]; kernel_rfl) (by decide +kernel) (by decide +kernel) (by decide +kernel)
    (by first | exact .inl (by decide +kernel) | exact .inr (by decide +kernel)) (by rw [isSubtype_type]; kernel_rfl)
theorem setit_slot_next : Slot "set_iterator" "__next__" "set_iterator.__next__" :=
  .of (owner := "set_iterator") (n := "__next__") (by rw [typeLookup_type, builtinLookup_eq_fast]; kernel_rfl) (by decide +kernel) (by decide +kernel) (by decide +kernel)
    (by first | exact .inl (by decide +kernel) | exact .inr (by decide +kernel)) (by rw [isSubtype_type]; kernel_rfl)
theorem setit_entry_next : entryFor table "set_iterator.__next__" = some Builtin.«set_iterator.__next__» := entryFor_of_tree (by kernel_rfl)
theorem set_entry_iter : entryFor table "set.__iter__" = some Builtin.«frozenset.__iter__» :=
  entryFor_alias (id' := "frozenset.__iter__") (by kernel_rfl) (by first | rfl | decide +kernel | (unfold String.splitOn; simp +decide [String.splitOnAux])) (by decide +kernel) (by kernel_rfl)
theorem owner_setit : Manifest.owners.lookup (String.ofList ['r', 'o', 't', 'a', 'r', 'e', 't', 'i', '_', 't', 'e', 's'].reverse) = some Manifest.sig_set_iterator := by kernel_rfl
theorem setit_args_next (a : Value) : argsOk "set_iterator.__next__" ⟨[a], []⟩ := by
  unfold argsOk; rw [signature?_of (id := "set_iterator.__next__") (n := ['_', '_', 't', 'x', 'e', 'n', '_', '_']) (o := ['r', 'o', 't', 'a', 'r', 'e', 't', 'i', '_', 't', 'e', 's']) (by kernel_rfl) owner_setit]; kernel_rfl
/-- a fresh set's table, and the table with the one element True -/
noncomputable abbrev set0 (led : Bool) : Obj := { cls := .type "set", dict := none, data := .set #[] 0 (.fresh 0 0 led) }
noncomputable abbrev set1 (led : Bool) : Obj := { cls := .type "set", dict := none, data := .set #[(1, .bool true)] 1 { mask := 7, place := #[1], dummies := #[], finger := 0, led := led, moves := 0, plain := true } }
noncomputable abbrev setItO (f i : Nat) (a : Addr) : Obj := { cls := .type "set_iterator", data := .fields #[.int f 0, .int i 0, .ref a, .int 1 0, .int 1 0] }
section
variable {prog : Program} {w : World} {A : Around} {E : Value → Shared → Prop} {s : Shared} {h₀ : Heap} {L : Addr} {m : Str → Option Value} {env : Env}
theorem hash_true {Q : Int → Shared → Prop} (h : Q 1 { s with toks := s.toks + 1 }) : wpAny (model prog w) A (pyHash (.bool true)) Q E s := by
  have hT : s.TypeIs (.bool true) "bool" := rfl
  unfold pyHash
  have hv : [Value.bool true].any Value.onHeap = false := rfl
  refine wpAny_bind ?_
  rw [cRoomFor, if_neg (by rw [hv]; exact Bool.false_ne_true)]; refine wpAny_pure ?_
  refine wpAny_bind (wpAny_specialOf hT PySem.F.slot_bool_hash.lookup ?_)
  show wpAny _ _ (if (some (Value.builtin "int.__hash__") == some Value.none) = true then _ else _) Q E s
  rw [if_neg (by rw [beq_builtin_none]; exact Bool.false_ne_true)]
  refine wpAny_bind (wpAny_specialOf hT PySem.F.slot_bool_hash.lookup ?_)
  show wpAny _ _ (callSpecialIfBoundUnlessNone? (.bool true) "__hash__" _ >>= _) Q E s
  refine wpAny_bind (wpAny_callSpecialIfBoundUnlessNone?_slot hT PySem.F.slot_bool_hash
    (wpAny_call_entry PySem.F.slot_bool_hash hT entry_int_hash
      (show wpAny _ _ (do ret (← mkInt 1)) _ _ s from wpAny_ret_mkInt ?_) (args_int_hash _)))
  show wpAny _ _ (if (decide (-(2 : Int) ^ 63 ≤ 1) && decide ((1 : Int) < 2 ^ 63)) = true then _ else _) Q E _
  rw [if_pos (by decide)]
  exact wpAny_pure h
theorem eq_true {Q : Bool → Shared → Prop} (h : Q true s) : wpAny (model prog w) A (eqBool (.bool true) (.bool true)) Q E s := by
  unfold eqBool
  refine wpAny_holding ?_
  rw [if_pos (show (Value.bool true == Value.bool true) = true by decide)]
  exact wpAny_bind (wpAny_rule (wpAny_pure h))
theorem newSet0 {Q : Value → Shared → Prop} (h : Q (.ref s.heap.objs.size) { s with heap := s.heap.push (set0 (!w.params.followText "set-order")) }) :
    wpAny (model prog w) A (newSet (.type "set")) Q E s := by
  unfold newSet setsByText
  refine wpAny_bind (wpAny_bind (wpAny_askSetting (wpAny_pure ?_)))
  dsimp only
  simp only [newObj]
  exact wpAny_bind (wpAny_alloc (wpAny_pure h))
theorem lay1 (led : Bool) : layNew (.fresh 0 0 led) #[] 1 (.bool true) = (#[(1, .bool true)], { mask := 7, place := #[1], dummies := #[], finger := 0, led := led, moves := 0, plain := true }, false, false) := by
  cases led <;> decide +kernel
theorem addTrue0 {a : Addr} {led : Bool} {Q : Value → Shared → Prop} (ho : s.heap.get? a = some (set0 led))
    (h : ∀ h' tk, Heap.SameBut a s.heap h' → h'.get? a = some (set1 led) → Q .none { s with heap := h', toks := tk }) :
    wpAny (model prog w) A (call (.builtin "set.add") [.ref a, .bool true]) Q E s := by
  have hT : s.TypeIs (.ref a) "set" := ⟨_, ho, rfl⟩
  refine wpAny_call_entry PySem.F.slot_set_add hT PySem.F.entry_set_add ?_ (PySem.F.args_set_add_2 _ _)
  unfold Builtin.«set.add» Builtin.Frozenset.oneOther
  simp only [List.isEmpty_nil, bind_assoc]
  unfold Builtin.Frozenset.addrOf setAdd
  refine wpAny_bind (wpAny_pure ?_)
  try dsimp only
  refine wpAny_bind (wpAny_pure ?_)
  try dsimp only
  refine wpAny_bind ?_
  refine wpAny_holding ?_
  refine wpAny_bind (hash_true ?_)
  unfold setAddHashed setAddHashedIn
  refine wpAny_holding (wpAny_bind (wpAny_setState_of ho rfl rfl ?_))
  dsimp only
  rw [show byScan (.bool true) #[] = true by decide +kernel]
  simp only [↓reduceIte]
  unfold setAddByScan
  refine wpAny_bind ?_
  refine wpAny_bind (wpAny_rule ?_)
  refine wpAny_bind (show wpAny _ _ (pure ScanMet.absent) _ _ _ from wpAny_pure ?_)
  dsimp only
  rw [lay1]
  dsimp only
  refine wpAny_bind (wpAny_pure ?_)
  refine wpAny_bind (wpAny_pure ?_)
  refine wpAny_bind ?_
  simp only [↓reduceIte]
  refine wpAny_storeSet_of (es' := #[((1 : Int), Value.bool true)]) ho rfl ?_ (by rw [PySem.sizeLine_eq]; decide)
  rw [if_neg (by cases led <;> decide)]
  refine wpAny_pure (wpAny_pure ?_)
  show wpAny _ _ (ret Value.none) _ _ _
  refine wpAny_pure ⟨_, rfl, h _ _ (Heap.SameBut.update ..) ?_⟩
  exact Heap.get?_update_self _ ho rfl
theorem addTrue1 {a : Addr} {led : Bool} {Q : Value → Shared → Prop} (ho : s.heap.get? a = some (set1 led))
    (h : ∀ tk, Q .none { s with toks := tk }) :
    wpAny (model prog w) A (call (.builtin "set.add") [.ref a, .bool true]) Q E s := by
  have hT : s.TypeIs (.ref a) "set" := ⟨_, ho, rfl⟩
  refine wpAny_call_entry PySem.F.slot_set_add hT PySem.F.entry_set_add ?_ (PySem.F.args_set_add_2 _ _)
  unfold Builtin.«set.add» Builtin.Frozenset.oneOther
  simp only [List.isEmpty_nil, bind_assoc]
  unfold Builtin.Frozenset.addrOf setAdd
  refine wpAny_bind (wpAny_pure ?_)
  try dsimp only
  refine wpAny_bind (wpAny_pure ?_)
  try dsimp only
  refine wpAny_bind ?_
  refine wpAny_holding ?_
  refine wpAny_bind (hash_true ?_)
  unfold setAddHashed setAddHashedIn
  refine wpAny_holding (wpAny_bind (wpAny_setState_of ho rfl rfl ?_))
  dsimp only
  rw [show byScan (.bool true) #[((1 : Int), Value.bool true)] = true by decide +kernel]
  simp only [↓reduceIte]
  unfold setAddByScan
  refine wpAny_bind ?_
  refine wpAny_bind (wpAny_rule ?_)
  refine wpAny_bind ?_
  show wpAny _ _ (setScanFrom a (.bool true) 1 true [((1 : Int), Value.bool true)] 0) _ _ _
  unfold setScanFrom
  rw [if_pos (by decide)]
  refine wpAny_bind (wpAny_setEpoch_of ho rfl rfl ?_)
  refine wpAny_bind (eq_true ?_)
  rw [if_pos (by decide)]
  refine wpAny_pure ?_
  dsimp only
  refine wpAny_pure (wpAny_pure ?_)
  show wpAny _ _ (ret Value.none) _ _ _
  exact wpAny_pure ⟨_, rfl, h _⟩
theorem iterSet1 {a : Addr} {led : Bool} {Q : Value → Shared → Prop} (ho : s.heap.get? a = some (set1 led))
    (h : Q (.ref s.heap.objs.size) { s with heap := s.heap.push (setItO 0 0 a) }) : wpAny (model prog w) A (pyIter (.ref a)) Q E s := by
  have hT : s.TypeIs (.ref a) "set" := ⟨_, ho, rfl⟩
  refine wpAny_pyIter_slot hT PySem.F.slot_set_iter (wpAny_call_entry PySem.F.slot_set_iter hT set_entry_iter ?_ (PySem.F.args_set_iter_1 _))
  unfold Builtin.«frozenset.__iter__»
  refine wpAny_bind (show wpAny _ _ (pure a) _ _ _ from wpAny_pure ?_)
  unfold Builtin.Frozenset.sizeOf
  refine wpAny_bind (wpAny_bind (wpAny_setEntries_of ho rfl rfl (wpAny_pure ?_)))
  refine wpAny_bind ?_
  unfold setDrawn setsByText
  refine wpAny_bind (wpAny_setState_of ho rfl rfl ?_)
  dsimp only
  refine wpAny_bind (wpAny_bind (wpAny_askSetting (wpAny_pure (wpAny_pure ?_))))
  split
  · rename_i hx
    rw [Bool.and_eq_true] at hx
    exact absurd hx.2 Bool.false_ne_true
  refine wpAny_bind (wpAny_pure ?_)
  refine wpAny_bind (wpAny_setEpoch_of ho rfl rfl ?_)
  refine wpAny_bind (wpAny_newObj_type ?_)
  exact wpAny_pure ⟨_, rfl, "set_iterator", _, ⟨_, Heap.get?_push_size _ rfl, rfl⟩, setit_slot_next.lookup, h⟩
theorem pick1 (f : Nat → Nat) (x : Int × Value) : pickOrder f #[x] = #[x] := by
  have h : ∀ i : Nat, i = 0 → (match [x][i]? with | some y => pickOrder.go f 0 1 ([x].eraseIdx i) (#[].push y) | none => #[]) = #[x] := by
    rintro _ rfl; rfl
  refine Eq.trans (b := (match [x][f 0 % 1]? with | some y => pickOrder.go f 0 1 ([x].eraseIdx (f 0 % 1)) (#[].push y) | none => #[])) ?_ (h (f 0 % 1) (Nat.mod_one _))
  kernel_rfl
theorem nextSet1 {a it : Addr} {Q : Option Value → Shared → Prop} (ho : s.heap.get? a = some (set1 (!w.params.followText "set-order"))) (hi : s.heap.get? it = some (setItO 0 0 a))
    (h : ∀ h' f, Heap.SameBut it s.heap h' → (f = 0 ∨ f = 2) → (w.params.followText "set-order" = false → f = 2) → h'.get? it = some (setItO f 1 a) → Q (some (.bool true)) { s with heap := h' }) : wpAny (model prog w) A (pyNext (.ref it)) Q E s := by
  have hT : s.TypeIs (.ref it) "set_iterator" := ⟨_, hi, rfl⟩
  unfold pyNext
  refine wpAny_bind (wpAny_attempt (wpAny_callSpecial?_slot (name := Str.ofString "__next__") hT setit_slot_next (wpAny_call_entry setit_slot_next hT setit_entry_next ?_ (setit_args_next _))))
  show wpAny _ _ (fieldsOf (.ref it) >>= _) _ _ _
  refine wpAny_bind (wpAny_fieldsOf hi rfl ?_)
  dsimp only
  refine wpAny_bind (wpAny_setEntries_of ho rfl rfl ?_)
  rw [if_neg (by decide)]
  refine wpAny_bind ?_
  unfold setNext setsByText
  refine wpAny_bind (wpAny_setState_of ho rfl rfl ?_)
  dsimp only
  refine wpAny_bind (wpAny_bind (wpAny_askSetting (wpAny_pure ?_)))
  have fin : ∀ (E' : Value → Shared → Prop) f, (f = 0 ∨ f = 2) → (w.params.followText "set-order" = false → f = 2) → wpAny (model prog w) A.in1 (do setField (.ref it) 0 (rawInt (f : Nat)); setField (.ref it) 1 (rawInt (0 + 1)); ret (Value.bool true)) (fun fin s' => ∃ v, fin = Fin.done (Flow.ret v) ∧ wpAny (model prog w) A (pure (some v)) Q E s') E' s := by
    intro E' f h2 h3
    refine wpAny_bind (wpAny_setField_rec hi (by simp) fun h₁ hi₁ hs₁ => ?_)
    refine wpAny_bind (wpAny_setField_rec hi₁ (by simp) fun h₂ hi₂ hs₂ => ?_)
    exact wpAny_pure ⟨_, rfl, wpAny_pure (h h₂ f (hs₁.trans hs₂) h2 h3 hi₂)⟩
  split
  · rename_i hb
    have hb' : w.params.followText "set-order" = true := hb
    rw [if_neg (by decide)]
    unfold setWalk setsByText
    refine wpAny_bind (wpAny_bind (wpAny_setState_of ho rfl rfl ?_))
    dsimp only
    refine wpAny_bind (wpAny_bind (wpAny_askSetting (wpAny_pure ?_)))
    rw [if_pos hb]
    refine wpAny_bind (wpAny_askSetting (wpAny_pure ?_))
    refine wpAny_pure ?_
    rw [pick1]
    exact fin _ 0 (.inl rfl) (fun q => by rw [hb'] at q; cases q)
  · rename_i hb
    have hb' : w.params.followText "set-order" = false := Bool.eq_false_iff.mpr hb
    split
    · rename_i hx
      exact absurd hx Bool.false_ne_true
    refine wpAny_bind ?_
    show wpAny _ _ (if ((!(!w.params.followText "set-order")) && !(#[((1 : Int), Value.bool true)]).isEmpty) = true then unsupported "set:maker-not-led" else pure ()) _ _ _
    rw [if_neg (by rw [hb']; decide)]
    refine wpAny_pure (wpAny_pure ?_)
    exact fin _ 2 (.inr rfl) (fun _ => rfl)
theorem nextSet2 {a it : Addr} {f : Nat} {Q : Option Value → Shared → Prop} (hh : A.handled = none) (ho : s.heap.get? a = some (set1 (!w.params.followText "set-order"))) (hi : s.heap.get? it = some (setItO f 1 a))
    (hf : w.params.followText "set-order" = false → f = 2)
    (h : ∀ h', Heap.ExtBut it s.heap h' → Q none { s with heap := h' }) : wpAny (model prog w) A (pyNext (.ref it)) Q E s := by
  have hT : s.TypeIs (.ref it) "set_iterator" := ⟨_, hi, rfl⟩
  unfold pyNext
  refine wpAny_bind (wpAny_attempt (wpAny_callSpecial?_slot (name := Str.ofString "__next__") hT setit_slot_next (wpAny_call_entry setit_slot_next hT setit_entry_next ?_ (setit_args_next _))))
  show wpAny _ _ (fieldsOf (.ref it) >>= _) _ _ _
  refine wpAny_bind (wpAny_fieldsOf hi rfl ?_)
  dsimp only
  refine wpAny_bind (wpAny_setEntries_of ho rfl rfl ?_)
  rw [if_neg (by decide)]
  refine wpAny_bind ?_
  unfold setNext setsByText
  refine wpAny_bind (wpAny_setState_of ho rfl rfl ?_)
  dsimp only
  refine wpAny_bind (wpAny_bind (wpAny_askSetting (wpAny_pure ?_)))
  have fin : wpAny (model prog w) A.in1 (do setField (.ref it) 2 .none; raiseNew (← newExc (.type "StopIteration") []) : Sem Fin) (fun fin s' => ∃ v, fin = Fin.done (Flow.ret v) ∧ wpAny (model prog w) A (pure (some v)) Q E s')
      (fun e s' => wpAny (model prog w) A (do if ← isInstance e (.type "StopIteration") then pure none else throw e) Q E s') s := by
    refine wpAny_bind (wpAny_setField_rec hi (by simp) fun h₁ hi₁ hs₁ => ?_)
    show wpAny _ _ (newExc (.type "StopIteration") [] >>= _) _ _ _
    refine wpAny_bind ?_
    simp only [newExc, newTuple]
    refine wpAny_bind (wpAny_newObj_type ?_ (by size_fits))
    refine wpAny_bind (m := firstArgMember _ _) (wpAny_of_eq (a := Value.none) (by first | rfl | (simp only [firstArgMember]; rfl)) ?_)
    refine wpAny_newObj_type ?_ (by size_fits)
    unfold raiseNew
    dsimp only
    refine wpAny_bind (wpAny_handled ?_)
    first | rw [show A.in1.handled = none from hh] | rw [hh]
    refine wpAny_bind (wpAny_pure (wpAny_throw ?_))
    refine wpAny_bind (wpAny_isInstance (T := "StopIteration") (b := true) ⟨_, Heap.get?_push_size _ rfl, rfl⟩ isSubtype_stop ?_)
    exact wpAny_pure (h _ ((hs₁.extBut.push _).push _))
  split
  · rename_i hb
    have hb' : w.params.followText "set-order" = true := hb
    rw [if_neg (by decide)]
    unfold setWalk setsByText
    refine wpAny_bind (wpAny_bind (wpAny_setState_of ho rfl rfl ?_))
    dsimp only
    refine wpAny_bind (wpAny_bind (wpAny_askSetting (wpAny_pure ?_)))
    rw [if_pos hb]
    refine wpAny_bind (wpAny_askSetting (wpAny_pure ?_))
    refine wpAny_pure ?_
    rw [pick1]
    exact fin
  · rename_i hb
    have hb' : w.params.followText "set-order" = false := Bool.eq_false_iff.mpr hb
    have e2 := hf hb'
    subst e2
    split
    · rename_i hx
      exact absurd hx Bool.false_ne_true
    refine wpAny_bind ?_
    show wpAny _ _ (if ((!(!w.params.followText "set-order")) && !(#[((1 : Int), Value.bool true)]).isEmpty) = true then unsupported "set:maker-not-led" else pure ()) _ _ _
    rw [if_neg (by rw [hb']; decide)]
    refine wpAny_pure (wpAny_pure ?_)
    exact fin
theorem unpackSet1 {a : Addr} {m : Str → Option Value} {news : List (Addr × Obj)} {Q : List Value → Shared → Prop} (hh : A.handled = none) (F : Fr h₀ L s.heap m) (N : News h₀ L s.heap news) (hm : (a, set1 (!w.params.followText "set-order")) ∈ news)
    (h : ∀ h', Fr h₀ L h' m → News h₀ L h' news → Q [.bool true] { s with heap := h' }) : wpAny (model prog w) A (unpackItems (.ref a) 1 none) Q E s := by
  have ho := (N _ hm).1
  have hT : s.TypeIs (.ref a) "set" := ⟨_, ho, rfl⟩
  have ap := N.apart
  obtain ⟨F1, N1⟩ := newsPush F N (setItO 0 0 a) (Heap.get?_push_size _ rfl)
  unfold unpackItems
  refine wpAny_bind ?_
  unfold notIterableAtAll
  refine wpAny_bind (wpAny_specialOf hT PySem.F.slot_set_iter.lookup ?_)
  refine wpAny_pure ?_
  simp only [Bool.false_eq_true, if_false]
  refine wpAny_bind (wpAny_holding (iterSet1 ho ?_))
  refine wpAny_bind (wpAny_holding ?_)
  unfold draw
  refine wpAny_bind (nextSet1 (N1 _ (.tail _ hm)).1 (N1 _ (.head _)).1 fun h1 f hs1 hf1 hf2 hi1 => ?_)
  have F2 := F1.change hs1 (N1 _ (.head _)).2.1 (N1 _ (.head _)).2.2
  have N2 := News.setHead N1 ap hs1 hi1
  refine wpAny_bind (wpAny_holding ?_)
  unfold draw
  refine wpAny_pure (wpAny_pure ?_)
  rw [if_neg (by simp)]
  refine wpAny_bind (wpAny_holding (nextSet2 hh (N2 _ (.tail _ hm)).1 hi1 hf2 fun h2 he2 => ?_))
  simp only [Option.isSome_none, Bool.false_eq_true, if_false]
  refine wpAny_pure (h h2 ?_ ?_)
  · obtain ⟨oL, a1, a2, hoL, a3⟩ := F2.ns
    refine ⟨⟨oL, a1, a2, he2 L _ (N2 _ (.head _)).2.1.symm hoL, a3⟩, fun b x e => he2 b x ?_ (F2.keep b x e), F2.above⟩
    rintro rfl
    rw [(N2 _ (.head _)).2.2] at e
    cases e
  · exact fun p hp => ⟨he2 _ _ (ap p hp) (N2 p (.tail _ hp)).1, (N2 p (.tail _ hp)).2⟩
end
end
section
set_option maxRecDepth 100000
set_option maxHeartbeats 8000000
theorem compTurn_set (elt target iter : Expr) (scope : Scope) (pos : Pos) (it acc : Value) (env : Env) :
    compTurn (.SetComp elt [⟨target, iter, [], 0⟩] scope pos) 0 it acc env = (standAt iter.pos >>= fun _ => pyNext it >>= fun r => match r with
      | none => pure (.done .next)
      | some v => letOwnedTupleGo target it v >>= fun _ => assign target env v >>= fun _ =>
        (eval elt env >>= fun x => standAt elt.pos >>= fun _ => call (.builtin "set.add") [acc, x] >>= fun _ => pure ()) >>= fun _ =>
          again (.compLoop (.SetComp elt [⟨target, iter, [], 0⟩] scope pos) 0 it acc env)) := by rfl
section
variable {prog : Program} {w : World} {A : Around} {E : Value → Shared → Prop} {s : Shared} {h₀ : Heap} {L : Addr} {m : Str → Option Value} {env : Env} {R : Result → Shared → Prop}
theorem compLoop_set {elt target iter : Expr} {scope : Scope} {pos : Pos} {it acc : Value} {env : Env} (I : Nat → Shared → Prop)
    (turn : ∀ n s, I n s → wpAny (model prog w) A (pyNext it) (fun r s₁ => match r with
      | none => R (.ok .next) s₁
      | some v => wpAny (model prog w) A (assign target env v) (fun _ s₂ =>
            wpAny (model prog w) A (eval elt env) (fun x s₄ =>
              wpAny (model prog w) A (call (.builtin "set.add") [acc, x]) (fun _ s₅ => ∃ m, m < n ∧ I m s₅) (notedBy (model prog w) A env fun e s' => R (.error e) s') s₄) (notedBy (model prog w) A env fun e s' => R (.error e) s') s₂) (notedBy (model prog w) A env fun e s' => R (.error e) s') s₁) (notedBy (model prog w) A env fun e s' => R (.error e) s') s)
    (n : Nat) (h : I n s) (ht : ∀ v, letOwnedTupleGo target it v = pure () := by intro _; rfl) :
    codeAny (model prog w) A (.compLoop (.SetComp elt [⟨target, iter, [], 0⟩] scope pos) 0 it acc env) R s := by
  refine codeAny_loop rfl I (fun n s hI => ?_) n h
  show wpAny _ A ((compTurn (.SetComp elt [⟨target, iter, [], 0⟩] scope pos) 0 it acc env).onRaise (fun x => do noteFrame x env; theTreesLotGoes x)) _ _ s
  refine wpAny_noted ?_
  rw [compTurn_set]
  refine wpAny_bind (wpAny_standAt (wpAny_bind (wpAny_mono (turn n s hI) (fun r s₁ h₁ => ?_) fun _ _ h' => h')))
  cases r with
  | none => exact wpAny_pure h₁
  | some v =>
    refine wpAny_bind (wpAny_of_eq (ht v) ?_)
    refine wpAny_bind (wpAny_mono h₁ (fun _ s₂ h₂ => ?_) fun _ _ h' => h')
    exact wpAny_bind (wpAny_bind (wpAny_mono h₂ (fun x s₄ h₄ => wpAny_bind (wpAny_standAt (wpAny_bind (wpAny_mono h₄ (fun _ s₅ h₅ => wpAny_pure (wpAny_pure ⟨rfl, h₅⟩)) fun _ _ h' => h')))) fun _ _ h' => h'))
theorem compStart_set {elt target iter ifs rest scope pos it acc env}
    (h0 : codeAny (model prog w) A (.compLoop (.SetComp elt (⟨target, iter, ifs, 0⟩ :: rest) scope pos) 0 it acc env) R s)
    (h : wpAny (model prog w) A (pyIter it) (fun it' s' => codeAny (model prog w) A (.compLoop (.SetComp elt (⟨target, iter, ifs, 0⟩ :: rest) scope pos) 0 it' acc env) R s')
      (notedBy (model prog w) A env fun x s' => R (.error x) s') s) :
    codeAny (model prog w) A (.compStart (.SetComp elt (⟨target, iter, ifs, 0⟩ :: rest) scope pos) 0 it acc env) R s := by
  refine codeAny_of_tree ?_
  show wpAny _ _ ((compStart (.SetComp elt (⟨target, iter, ifs, 0⟩ :: rest) scope pos) 0 it acc env).onRaise (fun x => do noteFrame x env; standAt theWindowsPlace)) _ _ s
  refine wpAny_notedAt ?_
  unfold compStart
  show wpAny _ _ (ask >>= _) _ _ s
  refine wpAny_bind (wpAny_askSetting (wpAny_ite ?_))
  split
  · first
      | exact wpAny_bind (wpAny_pure (wpAny_pure (And.intro rfl h0)))
      | exact wpAny_pure (And.intro rfl h0)
  · first
      | exact wpAny_bind (wpAny_rule (wpAny_bind (wpAny_standAt (wpAny_bind (wpAny_mono h (fun it' s' h' => wpAny_pure (And.intro rfl h')) fun _ _ x => x)))))
      | (refine wpAny_bind (wpAny_rule ?_); show wpAny _ _ (standAt iter.pos >>= _) _ _ s; exact wpAny_bind (wpAny_standAt (wpAny_bind (wpAny_mono h (fun it' s' h' => wpAny_pure (And.intro rfl h')) fun _ _ x => x))))
/-- what the element of one turn leaves: True, the ledger as it was -/
noncomputable def SetOne (h₀ : Heap) (L : Addr) (m : Str → Option Value) (s : Shared) (led : List (Addr × Obj)) (y : Value) (s₂ : Shared) : Prop :=
  y = .bool true ∧ ∃ h' tk', s₂ = { s with heap := h', toks := tk' } ∧ Fr h₀ L h' m ∧ News h₀ L h' led
theorem SetOne.intro {led : List (Addr × Obj)} {b : Bool} {h' : Heap} {tk : Nat} (hb : b = true) (F : Fr h₀ L h' m) (N : News h₀ L h' led) : SetOne h₀ L m s led (.bool b) { s with heap := h', toks := tk } := ⟨by rw [hb], h', tk, rfl, F, N⟩
noncomputable def SetTurn (prog : Program) (w : World) (A : Around) (h₀ : Heap) (L : Addr) (m : Str → Option Value) (env : Env) (elt : Expr) (x : Str) (scope : Scope) (cl : List (Str × Addr)) (s : Shared) (news : List (Addr × Obj)) (v : Value) : Prop :=
  ∀ (I : Addr) (oI : Obj) (C : Addr) (oC : Obj) (D : Addr) (oD : Obj) m₂ h tk (E' : Value → Shared → Prop), LCg.NsObj oC m₂ → m₂ x = some v → Fr h₀ L h m → News h₀ L h ((I, oI) :: (C, oC) :: (D, oD) :: news) →
    wpAny (model prog w) A (eval elt (compEnvC scope cl C env)) (SetOne h₀ L m s ((I, oI) :: (C, oC) :: (D, oD) :: news)) E' { s with heap := h, toks := tk }
noncomputable def SrcSet (prog : Program) (w : World) (A : Around) (h₀ : Heap) (L : Addr) (m : Str → Option Value) (env : Env) (elt : Expr) (x : Str) (scope : Scope) (cl : List (Str × Addr)) (Q : Value → Shared → Prop) (xv : Value) (s₁ : Shared) : Prop :=
  ∃ ax v0 v1 news, xv = .ref ax ∧ A.handled = none ∧ Fr h₀ L s₁.heap m ∧ News h₀ L s₁.heap news ∧ (ax, tupO [v0, v1]) ∈ news ∧
    (∀ s₂ : Shared, (∃ h, s₂ = { s₁ with heap := h }) → SetTurn prog w A h₀ L m env elt x scope cl s₂ news v0 ∧ SetTurn prog w A h₀ L m env elt x scope cl s₂ news v1) ∧
    (∀ D h tk, Fr h₀ L h m → News h₀ L h ((D, set1 (!w.params.followText "set-order")) :: news) → (∀ p ∈ news, p.1 < D) → Q (.ref D) { s₁ with heap := h, toks := tk })
theorem News.setThird {h₀ h h' : Heap} {L d : Addr} {o o' : Obj} {p₁ p₂ : Addr × Obj} {rest : List (Addr × Obj)} (N : News h₀ L h (p₁ :: p₂ :: (d, o) :: rest)) (h1 : p₁.1 ≠ d) (h2 : p₂.1 ≠ d) (hap : ∀ p ∈ rest, p.1 ≠ d) (hs : Heap.SameBut d h h') (ho : h'.get? d = some o') : News h₀ L h' (p₁ :: p₂ :: (d, o') :: rest) := by
  intro q hq
  rcases List.mem_cons.mp hq with rfl | hq
  · exact ⟨(hs.2 _ h1).trans (N _ (.head _)).1, (N _ (.head _)).2⟩
  · rcases List.mem_cons.mp hq with rfl | hq
    · exact ⟨(hs.2 _ h2).trans (N _ (.tail _ (.head _))).1, (N _ (.tail _ (.head _))).2⟩
    · exact PyProof.Rows.News.setHead (fun q hq => N q (.tail _ (.tail _ hq))) hap hs ho q hq
theorem setLoop {elt iter : Expr} {x : Str} {px : Pos} {scope : Scope} {cl : List (Str × Addr)} {pos : Pos} {I C D ax : Addr} {v0 v1 : Value} {news : List (Addr × Obj)} {s₂ : Shared} {led : Bool}
    (hh : A.handled = none) (hkind : scope.kind = .function) (hx : scope.names.lookup x = some .local) (hm : (ax, tupO [v0, v1]) ∈ news)
    (hIC : I ≠ C) (hID : I ≠ D) (hCD : C ≠ D) (oI : ∀ p ∈ news, p.1 ≠ I) (oC : ∀ p ∈ news, p.1 ≠ C) (oD : ∀ p ∈ news, p.1 ≠ D)
    (T0 : SetTurn prog w A h₀ L m env elt x scope cl s₂ news v0) (T1 : SetTurn prog w A h₀ L m env elt x scope cl s₂ news v1)
    {bI bC : Obj} {m' : Str → Option Value} {h' : Heap} {tk : Nat} (F : Fr h₀ L h' m) (N : News h₀ L h' ((I, bI) :: (C, bC) :: (D, set0 led) :: news)) (hC : LCg.NsObj bC m') (hI1 : bI.cls = .type "tuple_iterator") (hI2 : bI.data = .fields #[.ref ax, .int (0 : Nat) 0])
    (hR : ∀ h' tk bC m', Fr h₀ L h' m → News h₀ L h' ((C, bC) :: (D, set1 led) :: news) → LCg.NsObj bC m' → R (.ok .next) { s₂ with heap := h', toks := tk }) :
    codeAny (model prog w) A (.compLoop (.SetComp elt [⟨.Name x px, iter, [], 0⟩] scope pos) 0 (.ref I) (.ref D) (compEnvC scope cl C env)) R { s₂ with heap := h', toks := tk } := by
  refine compLoop_set (fun k s' => ∃ j h' tk bI bC m', j ≤ 2 ∧ k = 3 - j ∧ s' = { s₂ with heap := h', toks := tk } ∧ Fr h₀ L h' m ∧ News h₀ L h' ((I, bI) :: (C, bC) :: (D, if j = 0 then set0 led else set1 led) :: news) ∧ LCg.NsObj bC m' ∧ bI.cls = .type "tuple_iterator" ∧ bI.data = .fields #[.ref ax, .int (j : Nat) 0])
    ?_ 3 ⟨0, h', tk, bI, bC, m', by omega, rfl, rfl, F, N, hC, hI1, hI2⟩
  rintro k s' ⟨j, h', tk, bI, bC, m', hj, rfl, rfl, F, N, hC, hI1, hI2⟩
  have hit : h'.IsTupleIter I ax j := ⟨bI, (N _ (.head _)).1, hI1, hI2⟩
  have ht : h'.IsTuple ax #[v0, v1] := ⟨_, (N _ (.tail _ (.tail _ (.tail _ hm)))).1, rfl, _, rfl⟩
  have apI : ∀ p ∈ (C, bC) :: (D, if j = 0 then set0 led else set1 led) :: news, p.1 ≠ I := by
    intro p hp
    rcases List.mem_cons.mp hp with rfl | hp
    · exact hIC.symm
    · rcases List.mem_cons.mp hp with rfl | hp
      · exact hID.symm
      · exact oI p hp
  have turn : ∀ v, (#[v0, v1] : Array Value)[j]? = some v → SetTurn prog w A h₀ L m env elt x scope cl s₂ news v → j < 2 →
      wpAny (model prog w) A (pyNext (.ref I)) (fun r s₁ => match r with
      | none => R (.ok .next) s₁
      | some v => wpAny (model prog w) A (assign (.Name x px) (compEnvC scope cl C env) v) (fun _ s₂' =>
            wpAny (model prog w) A (eval elt (compEnvC scope cl C env)) (fun y s₄ =>
              wpAny (model prog w) A (call (.builtin "set.add") [.ref D, y]) (fun _ s₅ => ∃ m_1, m_1 < 3 - j ∧ ∃ j h' tk bI bC m', j ≤ 2 ∧ m_1 = 3 - j ∧ s₅ = { s₂ with heap := h', toks := tk } ∧ Fr h₀ L h' m ∧ News h₀ L h' ((I, bI) :: (C, bC) :: (D, if j = 0 then set0 led else set1 led) :: news) ∧ LCg.NsObj bC m' ∧ bI.cls = .type "tuple_iterator" ∧ bI.data = .fields #[.ref ax, .int (j : Nat) 0])
                (notedBy (model prog w) A (compEnvC scope cl C env) fun e s' => R (.error e) s') s₄) (notedBy (model prog w) A (compEnvC scope cl C env) fun e s' => R (.error e) s') s₂') (notedBy (model prog w) A (compEnvC scope cl C env) fun e s' => R (.error e) s') s₁) (notedBy (model prog w) A (compEnvC scope cl C env) fun e s' => R (.error e) s') { s₂ with heap := h', toks := tk } := by
    intro v hv T hj2
    refine wpAny_pyNext_tuple_item hit ht hv fun h₂ hit₂ hs₂ => ?_
    obtain ⟨bI', eI, hI1', hI2'⟩ := hit₂
    have F₂ := F.change hs₂ (N _ (.head _)).2.1 (N _ (.head _)).2.2
    have N₂ := PyProof.Rows.News.setHead N apI hs₂ eI
    refine wpAny_assign_Name (wpAny_storeName_local (lookup_relabel_local hx) (hC.ns (N₂ _ (.tail _ (.head _))).1) (fun h₃ hn₃ hs₃ => ?_) (by simp [compEnvC, relabel, hkind]))
    obtain ⟨bC', eC, hC'⟩ := LCg.ns_obj hn₃
    have hs₃' : Heap.SameBut C h₂ h₃ := hs₃
    have F₃ := F₂.change hs₃' (N₂ _ (.tail _ (.head _))).2.1 (N₂ _ (.tail _ (.head _))).2.2
    have N₃ := PyProof.Rows.News.setSecond N₂ hIC (fun p hp => by
      rcases List.mem_cons.mp hp with rfl | hp
      · exact hCD.symm
      · exact oC p hp) hs₃' eC
    refine wpAny_mono (T I bI' C bC' D _ _ h₃ _ _ hC' (by simp) F₃ N₃) (fun y s₄ h₄ => ?_) fun _ _ e => e
    obtain ⟨rfl, h₄, tk₄, rfl, F₄, N₄⟩ := h₄
    have gD := (N₄ _ (.tail _ (.tail _ (.head _)))).1
    by_cases e0 : j = 0
    · subst e0
      refine addTrue0 gD fun h₅ tk₅ hs₅ g₅ => ?_
      refine ⟨2, by omega, 1, h₅, tk₅, bI', bC', _, by omega, rfl, rfl, F₄.change hs₅ (N₄ _ (.tail _ (.tail _ (.head _)))).2.1 (N₄ _ (.tail _ (.tail _ (.head _)))).2.2, ?_, hC', hI1', hI2'⟩
      exact News.setThird N₄ hID hCD oD hs₅ g₅
    · rw [if_neg e0] at gD
      refine addTrue1 gD fun tk₅ => ?_
      refine ⟨3 - (j + 1), by omega, j + 1, h₄, tk₅, bI', bC', _, by omega, rfl, rfl, F₄, ?_, hC', hI1', hI2'⟩
      rw [if_neg e0] at N₄
      rw [if_neg (by omega)]
      exact N₄
  have h3 : j = 0 ∨ j = 1 ∨ j = 2 := by omega
  rcases h3 with e3 | e3 | e3
  · exact turn v0 (by rw [e3]; rfl) T0 (by omega)
  · exact turn v1 (by rw [e3]; rfl) T1 (by omega)
  · clear turn
    subst e3
    refine wpAny_pyNext_tuple_end hh hit ht rfl fun h₂ he₂ => ?_
    refine hR h₂ _ bC m' ?_ ?_ hC
    · obtain ⟨oL, a1, a2, hoL, a3⟩ := F.ns
      refine ⟨⟨oL, a1, a2, he₂ L _ (N _ (.head _)).2.1.symm hoL, a3⟩, fun b x e => he₂ b x ?_ (F.keep b x e), F.above⟩
      rintro rfl
      rw [(N _ (.head _)).2.2] at e
      cases e
    · exact fun p hp => ⟨he₂ _ _ (apI p hp) (N p (.tail _ hp)).1, (N p (.tail _ hp)).2⟩
theorem setComp {elt iter : Expr} {x : Str} {px : Pos} {scope : Scope} {cl : List (Str × Addr)} {pos : Pos} {Q : Value → Shared → Prop} (F₀ : Fr h₀ L s.heap m)
    (hclos : closureFor scope env = pure cl) (hcell : ∀ y ∈ scope.names, y.2 ≠ .cell) (hkind : scope.kind = .function)
    (hnames : ∀ y ∈ scope.names, y.2 = .local → scope.names.lookup y.1 = some .local) (hx : scope.names.lookup x = some .local)
    (h : wpAny (model prog w) A (eval iter env) (SrcSet prog w A h₀ L m env elt x scope cl Q) E s)
    (hs : ∀ x, foldedSetIterable iter env x = pure x := by intro _; rfl) :
    wpAny (model prog w) A (eval (.SetComp elt [⟨.Name x px, iter, [], 0⟩] scope pos) env) Q E s := by
  rw [arm_eval_SetComp]
  refine wpAny_comprehension_free (use := none) rfl hs hclos hkind hnames (wpAny_mono h (fun xv s₁ h₁ => ?_) fun _ _ e => e)
  obtain ⟨ax, v0, v1, news, rfl, hh, F, N, hm, T, fin⟩ := h₁
  have ht : s₁.heap.IsTuple ax #[v0, v1] := ⟨_, (N _ hm).1, rfl, _, rfl⟩
  refine wpAny_pyIter_tuple ht ?_
  have apI := N.apart
  obtain ⟨F1, N1⟩ := newsPush F N { cls := .type "tuple_iterator", data := .fields #[.ref ax, .int 0 0] } (Heap.get?_push_size _ rfl)
  refine newSet0 ?_
  have apD := N1.apart
  obtain ⟨F2, N2⟩ := newsPush F1 N1 (set0 (!w.params.followText "set-order")) (Heap.get?_push_size _ rfl)
  refine wpAny_newFunctionEnv hcell (by intro y hy; simp at hy) (fun h₁ hns₁ hsb₁ => ?_) hkind
  dsimp only at hns₁ hsb₁ ⊢
  generalize hH1 : s₁.heap.push { cls := .type "tuple_iterator", data := .fields #[.ref ax, .int 0 0] } = H1 at *
  generalize hH2 : H1.push (set0 (!w.params.followText "set-order")) = H2 at *
  have old : ∀ b o, H2.get? b = some o → h₁.get? b = some o := fun b o e => hsb₁.extBut b o (Nat.ne_of_lt (Heap.lt_size e)) (Heap.get?_push_of_some _ e)
  have F3 := F2.keptAll old
  have apC := N2.apart
  obtain ⟨oC, eC, hoC⟩ := LCg.ns_obj hns₁
  have hC₀ : h₀.get? H2.objs.size = none := by
    cases hq : h₀.get? H2.objs.size with
    | none => rfl
    | some x => exact absurd (Heap.lt_size (F2.keep _ _ hq)) (Nat.lt_irrefl _)
  have hCL : H2.objs.size ≠ L := Nat.ne_of_gt F2.ns.lt
  have N3 : News h₀ L h₁ ((s₁.heap.objs.size, { cls := .type "tuple_iterator", data := .fields #[.ref ax, .int 0 0] }) :: (H2.objs.size, oC) :: (H1.objs.size, set0 (!w.params.followText "set-order")) :: news) := by
    intro p hp
    simp only [List.mem_cons] at hp
    rcases hp with rfl | rfl | rfl | hp
    · exact ⟨old _ _ (N2 _ (.tail _ (.head _))).1, (N2 _ (.tail _ (.head _))).2⟩
    · exact ⟨eC, hCL, hC₀⟩
    · exact ⟨old _ _ (N2 _ (.head _)).1, (N2 _ (.head _)).2⟩
    · exact ⟨old _ _ (N2 _ (.tail _ (.tail _ hp))).1, (N2 _ (.tail _ (.tail _ hp))).2⟩
  obtain ⟨T0, T1⟩ := T _ ⟨H1, rfl⟩
  have loop : ∀ tk, codeAny (model prog w) A (.compLoop (.SetComp elt [⟨.Name x px, iter, [], 0⟩] scope pos) 0 (.ref s₁.heap.objs.size) (.ref H1.objs.size) (compEnvC scope cl H2.objs.size env)) (compPost (model prog w) A E none Q (.ref H1.objs.size) H2.objs.size) { s₁ with heap := h₁, toks := tk } := by
    intro tk
    refine setLoop (s₂ := { s₁ with heap := H1 }) (led := !w.params.followText "set-order") (m := m) (h₀ := h₀) (L := L) (ax := ax) (v0 := v0) (v1 := v1) (news := news) hh hkind hx hm ?_ ?_ ?_ ?_ ?_ ?_ T0 T1 F3 N3 hoC rfl rfl ?_
    · exact apC _ (.tail _ (.head _))
    · exact apD _ (.head _)
    · exact (apC _ (.head _)).symm
    · exact apI
    · exact fun p hp => apC p (.tail _ (.tail _ hp))
    · exact fun p hp => apD p (.tail _ hp)
    · intro h' tk' bC m'' F' N' hC'
      refine ⟨m'', hC'.ns (N' _ (.head _)).1, fun h'' hs'' => ?_⟩
      refine fin H1.objs.size h'' tk' (F'.change hs'' hCL hC₀) (fun p hp => ?_) (fun p hp => ?_)
      · refine ⟨hs''.extBut _ _ ?_ (N' p (.tail _ hp)).1, (N' p (.tail _ hp)).2⟩
        rcases List.mem_cons.mp hp with rfl | hp
        · exact apC (H1.objs.size, set0 (!w.params.followText "set-order")) (.head _)
        · exact apC p (.tail _ (.tail _ hp))
      · exact Heap.lt_size (N1 p (.tail _ hp)).1
  have ht3 : h₁.IsTupleIter s₁.heap.objs.size ax 0 := ⟨_, (N3 _ (.head _)).1, rfl, rfl⟩
  exact compStart_set (loop _) (wpAny_pyIter_tupleiter ht3 (loop _))
theorem SrcSet.ledger {elt : Expr} {x : Str} {scope : Scope} {cl : List (Str × Addr)} {Q : Value → Shared → Prop} {ax : Addr} {v0 v1 : Value} {news : List (Addr × Obj)} {s₁ : Shared}
    (hh : A.handled = none) (F : Fr h₀ L s₁.heap m) (N : News h₀ L s₁.heap news) (hm : (ax, tupO [v0, v1]) ∈ news)
    (h : ∀ g v, v ∈ [v0, v1] → SetTurn prog w A h₀ L m env elt x scope cl { s₁ with heap := g } news v)
    (fin : ∀ D h tk, Fr h₀ L h m → News h₀ L h ((D, set1 (!w.params.followText "set-order")) :: news) → (∀ p ∈ news, p.1 < D) → Q (.ref D) { s₁ with heap := h, toks := tk }) :
    SrcSet prog w A h₀ L m env elt x scope cl Q (.ref ax) s₁ := ⟨ax, v0, v1, news, rfl, hh, F, N, hm, fun _ ⟨g, e⟩ => e ▸ ⟨h g _ (.head _), h g _ (.tail _ (.head _))⟩, fin⟩
end
end
section
set_option maxRecDepth 100000
set_option maxHeartbeats 8000000
section
variable {prog : Program} {w : World} {A : Around} {E : Value → Shared → Prop} {s : Shared} {h₀ : Heap} {L : Addr} {m : Str → Option Value} {env : Env}
theorem assignSet1 {y : Str} {py pos : Pos} {x1} {a : Addr} {news : List (Addr × Obj)} {Q : Unit → Shared → Prop} (hh : A.handled = none) (F : Fr h₀ L s.heap m) (N : News h₀ L s.heap news) (hLe : env.locals = L) (hm : (a, set1 (!w.params.followText "set-order")) ∈ news)
    (hy : env.kindOf y = some .local) (hp : (env.scope.kind == .class || (env.scope.kind == .module && env.locals != env.globals)) = false)
    (h : ∀ h' tk, Fr h₀ L h' (fun z => if z = y then some (.bool true) else m z) → News h₀ L h' news → Q () { s with heap := h', toks := tk }) :
    wpAny (model prog w) A (assign (.Tuple [.Name y py] x1 pos) env (.ref a)) Q E s := by
  subst hLe
  rw [arm_assign_Tuple]
  refine wpAny_bind (wpAny_standAt ?_)
  unfold unpack
  refine wpAny_bind (wpAny_holding (unpackSet1 hh F N hm fun h' F' N' => ?_))
  show wpAny _ _ (holding [] (assign (.Name y py) env (.bool true)) >>= fun _ => assignInOrder [] []) _ _ _
  refine wpAny_bind (wpAny_holding (wpAny_assign_Name (wpAny_storeName_local hy F'.ns (fun h₂ hn₂ hs₂ => ?_) hp)))
  have hL₀ : h₀.get? env.locals = none := Heap.get?_none_of_le F'.above
  exact wpAny_pure (h h₂ _ ⟨hn₂, fun b o e => hs₂.extBut b o (fun q => by rw [q, hL₀] at e; cases e) (F'.keep b o e), F'.above⟩ fun p hp => ⟨hs₂.extBut _ _ (N' p hp).2.1 (N' p hp).1, (N' p hp).2⟩)
end
end
section
set_option maxRecDepth 100000
set_option maxHeartbeats 8000000
section
variable {prog : Program} {w : World} {A : Around} {E : Value → Shared → Prop} {s : Shared} {h₀ : Heap} {L : Addr} {m : Str → Option Value} {env : Env}
/-- what the test of one turn leaves -/
noncomputable def TestOne (h₀ : Heap) (L : Addr) (m : Str → Option Value) (s : Shared) (led : List (Addr × Obj)) (b : Bool) (ok : Bool) (s₂ : Shared) : Prop :=
  ok = b ∧ ∃ h' tk', s₂ = { s with heap := h', toks := tk' } ∧ Fr h₀ L h' m ∧ News h₀ L h' led
theorem TestOne.intro {led : List (Addr × Obj)} {b ok : Bool} {h' : Heap} {tk : Nat} (hb : ok = b) (F : Fr h₀ L h' m) (N : News h₀ L h' led) : TestOne h₀ L m s led b ok { s with heap := h', toks := tk } := ⟨hb, h', tk, rfl, F, N⟩
noncomputable def FilterTurn (prog : Program) (w : World) (A : Around) (h₀ : Heap) (L : Addr) (m : Str → Option Value) (env : Env) (ct : Expr) (x : Str) (scope : Scope) (cl : List (Str × Addr)) (s : Shared) (news : List (Addr × Obj)) (keep : Str → Bool) : Prop :=
  ∀ (v : Str) (t : Tok) (I : Addr) (oI : Obj) (C : Addr) (oC : Obj) (D : Addr) (oD : Obj) m₂ h tk (E' : Value → Shared → Prop), v.length < 600 → LCg.NsObj oC m₂ → m₂ x = some (.str v t) → Fr h₀ L h m → News h₀ L h ((I, oI) :: (C, oC) :: (D, oD) :: news) →
    wpAny (model prog w) A (isTrue ct (compEnvC scope cl C env) (eval ct (compEnvC scope cl C env))) (TestOne h₀ L m s ((I, oI) :: (C, oC) :: (D, oD) :: news) (keep v)) E' { s with heap := h, toks := tk }
theorem filterRest {ct : Expr} {x : Str} {px : Pos} {scope : Scope} {cl : List (Str × Addr)} {news : List (Addr × Obj)} {keep : Str → Bool} {S : List (Addr × Obj) → Prop} {Fin : List Value → List (Addr × Obj) → Prop} {vs : List Value} {xs : List Str}
    (hs : StrsAre vs xs) (hlen : ∀ v ∈ xs, v.length < 600) (hS : S news) (hk : scope.kind = .function) (hloc : ∀ C, (compEnvC scope cl C env).kindOf x = some .local) (hx : (x == ("__debug__" : Str)) = false)
    (turn : FilterTurn prog w A h₀ L m env ct x scope cl s news keep) (fin : ∀ ys, StrsAre ys (xs.filter keep) → Fin ys news) :
    LCt.CompRestT prog w A h₀ L m env ct (.Name x px) x scope cl s S (fun i v => vs.toArray[i]? = some v) Fin vs.toArray.size 0 [] news := by
  have main : ∀ (r : List Value) (zs : List Str) (i : Nat) (ys : List Value) (done : List Str), vs.drop i = r → StrsAre r zs → (∀ v ∈ zs, v.length < 600) → StrsAre ys done → done ++ zs.filter keep = xs.filter keep → 
      LCt.CompRestT prog w A h₀ L m env ct (.Name x px) x scope cl s S (fun i v => vs.toArray[i]? = some v) Fin r.length i ys news := by
    intro r
    induction r with
    | nil =>
      intro zs i ys done hr hz hl hy e
      cases hz
      refine LCt.CompRestT.zero (fin ys ?_)
      rw [← e]
      simpa using hy
    | cons v r ih =>
      intro zs i ys done hr hz hl hy e
      cases hz with
      | @cons z t _ zr hz' =>
      have hgi : vs[i]? = some (.str z t) := by
        have := congrArg (·[0]?) hr
        simpa using this
      have hdr : vs.drop (i + 1) = r := by
        rw [← List.drop_drop, hr]; rfl
      refine LCt.CompRestT.succ ?_
      intro v' I oI C oC D m₂ h tk E' hv hC hm2 F N off ne
      have hv' : v' = .str z t := by
        rw [List.getElem?_toArray, hgi] at hv
        exact (Option.some.inj hv).symm
      subst hv'
      refine wpAny_mono (turn z t I oI C oC D _ m₂ h tk E' (hl z (.head _)) hC hm2 F N) (fun ok s₂ h₂ => ?_) fun _ _ e => e
      obtain ⟨rfl, h', tk', rfl, F', N'⟩ := h₂
      by_cases hkp : keep z = true
      · rw [if_pos hkp]
        refine LCgL.ld_own N' (.tail _ (.head _)) hC hm2 ?_ hk (hloc C) hx
        refine ⟨h', tk', news, rfl, F', N', off, hS, ?_⟩
        refine ih zr (i + 1) (ys ++ [.str z t]) (done ++ [z]) hdr hz' (fun v hv => hl v (.tail _ hv)) (strsAre_append hy (.cons z t .nil)) ?_
        rw [← e]
        simp [List.filter_cons, hkp]
      · rw [if_neg hkp]
        refine ⟨h', tk', news, rfl, F', N', off, hS, ?_⟩
        refine ih zr (i + 1) ys done hdr hz' (fun v hv => hl v (.tail _ hv)) hy ?_
        rw [← e]
        simp [List.filter_cons, hkp]
  have := main vs xs 0 [] [] rfl hs hlen .nil rfl
  rw [List.size_toArray]
  exact this
theorem compEnd2 {h' : Heap} {I C D a : Addr} {s₁ : Shared} {o oI oC oD : Obj} {S : List (Addr × Obj) → Prop} {rest : Value → List (Addr × Obj) → Prop} {y : Value} {tk : Nat} {led : List (Addr × Obj)}
    (N : News h₀ L h' ((a, o) :: (I, oI) :: (C, oC) :: (D, oD) :: led)) (o1 : LCg.Off1 a ((I, oI) :: (C, oC) :: (D, oD) :: led)) (F : Fr h₀ L h' m) (off : LCg.Off3 I C D led) (hS : S ((a, o) :: led)) (r : rest y ((a, o) :: led)) :
    LCg.CompEnd h₀ L m s₁ I oI C oC D oD S rest y { s₁ with heap := h', toks := tk } := by
  refine LCg.CompEnd.intro F N ((a, o) :: led) ?_ ⟨⟨?_, ?_, ?_⟩, off⟩ hS r
  · intro p hp
    simp only [List.mem_cons] at hp ⊢
    rcases hp with h | h | h | h | h
    · exact .inr (.inl h)
    · exact .inr (.inr (.inl h))
    · exact .inr (.inr (.inr (.inl h)))
    · exact .inl h
    · exact .inr (.inr (.inr (.inr h)))
  · exact (o1.1).symm
  · exact (o1.2.1).symm
  · exact (o1.2.2.1).symm
theorem lenBound {xs : List Str} {x : Str} (h : ∀ a, a ∈ xs → a.length ≤ x.length) (hx : x.length < 600) : ∀ v ∈ xs, v.length < 600 := fun v hv => Nat.lt_of_le_of_lt (h v hv) hx
noncomputable def keepF (v : Str) : Bool := (v.length != 0) && (v != Str.ofString ".")
theorem splitSize {vs : List Value} {xs : List Str} {x y : Str} (hs : StrsAre vs xs) (e : xs = Txt.split x y) (h : x.length < 600) : vs.toArray.size ≤ sizeLine := by
  have h1 := (fact_split x y).2
  rw [List.size_toArray, hs.length, e, PySem.sizeLine_eq]
  omega
end
end
section
open AutoSeq1 (wpAny_loadPart')
set_option maxRecDepth 100000
set_option maxHeartbeats 8000000
/-- the order of two lists of texts: the first parting decides, else the lengths -/
noncomputable def ordL (c : Str → Str → Bool) (f : Nat → Nat → Bool) : List Str → List Str → Bool
  | x :: xs, y :: ys => if x = y then ordL c f xs ys else c x y
  | xs, ys => f xs.length ys.length
theorem ordL_cons {c : Str → Str → Bool} {f : Nat → Nat → Bool} {x y : Str} {xs ys : List Str} : ordL c f (x :: xs) (y :: ys) = if x = y then ordL c f xs ys else c x y := rfl
theorem ordL_nil {c : Str → Str → Bool} {f : Nat → Nat → Bool} {ys : List Str} : ordL c f [] ys = f ([] : List Str).length ys.length := by cases ys <;> rfl
theorem ordL_nil2 {c : Str → Str → Bool} {f : Nat → Nat → Bool} {xs : List Str} : ordL c f xs [] = f xs.length ([] : List Str).length := by cases xs <;> rfl
noncomputable def ltS (a b : Str) : Bool := decide (a.cps.toList < b.cps.toList)
noncomputable def gtS (a b : Str) : Bool := decide (b.cps.toList < a.cps.toList)
theorem strs_get {vs : List Value} {xs : List Str} (h : StrsAre vs xs) : ∀ i, (hi : i < xs.length) → ∃ t, vs[i]? = some (.str xs[i] t) := by
  induction h with
  | nil => intro i hi; exact absurd hi (Nat.not_lt_zero _)
  | cons y t r ih =>
    intro i hi
    cases i with
    | zero => exact ⟨t, rfl⟩
    | succ i => simpa using ih i (by simpa using hi)

section
variable {prog : Program} {w : World} {A : Around} {E : Value → Shared → Prop} {s : Shared}
theorem ltS_cmp {a b : Str} {t u : Tok} {Q : Value → Shared → Prop} (h : Q (.bool (ltS a b)) s) : wpAny (model prog w) A (richCompare .Lt (.str a t) (.str b u)) Q E s :=
  richCompare_gives (op := .Lt) (T := "str") rfl rfl PyProof.Rows.slot_str_lt PyProof.Rows.entry_str_lt (PyProof.Rows.args_str_lt _ _) (gives_str_lt a b t u) (fun x => nomatch x) h
theorem ltLoop (l b : Addr) {us vs : List Value} {xs ys : List Str} (n n2 : Nat) (hu : StrsAre us xs) (hv : StrsAre vs ys) (k : Nat) :
    ∀ i : Nat, xs.length - i = k → i ≤ xs.length → i ≤ ys.length → Meets (Builtin.«list.__eq__.loop» ⟨[.ref l, .ref b, rawInt i, rawInt 0], []⟩)
      (fun A R s => s.heap.get? l = some { cls := .type "list", dict := none, data := .seq us.toArray n, slots := #[] } ∧ s.heap.get? b = some { cls := .type "list", dict := none, data := .seq vs.toArray n2, slots := #[] } ∧
        R (.ok (.ret (.bool (ordL ltS (fun m n => decide (m < n)) (xs.drop i) (ys.drop i))))) s) := by
  have lu := hu.length
  have lv := hv.length
  induction k with
  | zero =>
    intro i hk hx hy prog w A R s h
    obtain ⟨hp, g, d, tk, os⟩ := s; obtain ⟨hl, hb, h⟩ := h
    wp_walk using wpAny_loadPart' hl, wpAny_loadPart' hb
    have hxi : xs.length ≤ i := Nat.le_of_sub_eq_zero hk
    have hi1 : us.toArray[((i : Nat) : Int).toNat]? = none := by simp; exact Nat.le_trans (Nat.le_of_eq lu) hxi
    have hd : xs.drop i = [] := List.drop_eq_nil_of_le hxi
    rw [hd] at h
    have e1 : ordL ltS (fun m n => decide (m < n)) [] (ys.drop i) = decide (us.toArray.size < vs.toArray.size) := by
      rw [ordL_nil]
      rw [List.size_toArray, List.size_toArray, lu, lv, List.length_nil, List.length_drop]
      congr 1
      apply propext
      omega
    rw [e1] at h
    rw [hi1]
    cases hi2 : vs.toArray[((i : Nat) : Int).toNat]? with
    | none =>
      wp_walk using wpAny_loadPart' hl, wpAny_loadPart' hb
      exact h
    | some v =>
      wp_walk using wpAny_loadPart' hl, wpAny_loadPart' hb
      exact h
  | succ k ih =>
    intro i hk hx hy prog w A R s h
    obtain ⟨hp, g, d, tk, os⟩ := s; obtain ⟨hl, hb, h⟩ := h
    have hlt : i < xs.length := Nat.lt_of_sub_eq_succ hk
    obtain ⟨t, g1⟩ := strs_get hu i hlt
    have hi1 : us.toArray[((i : Nat) : Int).toNat]? = some (.str xs[i] t) := by simpa using g1
    have hd : xs.drop i = xs[i] :: xs.drop (i + 1) := List.drop_eq_getElem_cons hlt
    rw [hd] at h
    by_cases hlt2 : i < ys.length
    · obtain ⟨u, g2⟩ := strs_get hv i hlt2
      have hi2 : vs.toArray[((i : Nat) : Int).toNat]? = some (.str ys[i] u) := by simpa using g2
      have hd2 : ys.drop i = ys[i] :: ys.drop (i + 1) := List.drop_eq_getElem_cons hlt2
      rw [hd2] at h
      have hc : ((i : Int) + 1) = ((i + 1 : Nat) : Int) := by push_cast; rfl
      wp_walk using wpAny_loadPart' hl, wpAny_loadPart' hb
      rw [hi1, hi2]
      refine wpAny_bind (wpAny_eqBool_str ?_)
      rw [ordL_cons] at h
      by_cases he : xs[i] = ys[i]
      · rw [if_pos he] at h
        rw [decide_eq_true he]
        wp_walk
        rw [hc]
        exact ⟨plainId_quiet MeetsSeq3.plain_eq_loop _, codeAny_builtin MeetsSeq3.entry_eq_loop (by
          rw [Around.under_plainId MeetsSeq3.plain_eq_loop _]
          exact ih (i + 1) (by rw [Nat.sub_succ, hk]; rfl) hlt hlt2 prog w A R _ ⟨hl, hb, h⟩)⟩
      · rw [if_neg he] at h
        rw [decide_eq_false he]
        wp_walk using wpAny_loadPart' hl, wpAny_loadPart' hb
        rw [hi1, hi2]
        refine wpAny_bind (ltS_cmp ?_)
        wp_walk
        exact h
    · have hi2 : vs.toArray[((i : Nat) : Int).toNat]? = none := by simp; exact Nat.le_trans (Nat.le_of_eq lv) (Nat.le_of_not_lt hlt2)
      have hd2 : ys.drop i = [] := List.drop_eq_nil_of_le (Nat.le_of_not_lt hlt2)
      rw [hd2] at h
      have e1 : ordL ltS (fun m n => decide (m < n)) (xs[i] :: xs.drop (i + 1)) [] = decide (us.toArray.size < vs.toArray.size) := by
        rw [ordL_nil2]
        rw [List.size_toArray, List.size_toArray, lu, lv, List.length_nil, List.length_cons, List.length_drop]
        congr 1
        apply propext
        omega
      rw [e1] at h
      wp_walk using wpAny_loadPart' hl, wpAny_loadPart' hb
      rw [hi1, hi2]
      wp_walk using wpAny_loadPart' hl, wpAny_loadPart' hb
      exact h
theorem ltMeets (l b : Addr) {us vs : List Value} {xs ys : List Str} (n n2 : Nat) (hu : StrsAre us xs) (hv : StrsAre vs ys) :
    Meets (Builtin.«list.__lt__» ⟨[.ref l, .ref b], []⟩)
      (fun A R s => s.heap.get? l = some { cls := .type "list", dict := none, data := .seq us.toArray n, slots := #[] } ∧ s.heap.get? b = some { cls := .type "list", dict := none, data := .seq vs.toArray n2, slots := #[] } ∧
        R (.ok (.ret (.bool (ordL ltS (fun m n => decide (m < n)) xs ys)))) s) := by
  intro prog w A R s h
  obtain ⟨hp, g, d, tk, os⟩ := s; obtain ⟨hl, hb, h⟩ := h
  have f3 := AutoSeq1.sub_list_list
  wp_walk using wpAny_loadPart' hl, wpAny_loadPart' hb
  exact ⟨plainId_quiet MeetsSeq3.plain_eq_loop _, codeAny_builtin MeetsSeq3.entry_eq_loop (by
    rw [Around.under_plainId MeetsSeq3.plain_eq_loop _]
    exact ltLoop l b n n2 hu hv _ 0 rfl (Nat.zero_le _) (Nat.zero_le _) prog w A R _ ⟨hl, hb, h⟩)⟩
theorem ltLists {l b : Addr} {us vs : List Value} {xs ys : List Str} {n n2 : Nat} {Q : Value → Shared → Prop} (hu : StrsAre us xs) (hv : StrsAre vs ys) (hl : s.heap.get? l = some (listOf us.toArray n)) (hb : s.heap.get? b = some (listOf vs.toArray n2)) (hun : A.units < cLine)
    (h : Q (.bool (ordL ltS (fun m n => decide (m < n)) xs ys)) s) : wpAny (model prog w) A (richCompare .Lt (.ref l) (.ref b)) Q E s :=
  richCompare_meets_room (op := .Lt) ⟨_, hl, rfl⟩ ⟨_, hb, rfl⟩ PySem.F.slot_list_lt PySem.F.entry_list_lt (PySem.F.args_list_lt_2 _ _) (ltMeets l b n n2 hu hv)
    ⟨hl, hb, show Value.bool _ ≠ Value.notImplemented ∧ Q _ s from ⟨(fun x => nomatch x), h⟩⟩ hun
theorem minTwo {h₀ : Heap} {L : Addr} {m : Str → Option Value} {news : List (Addr × Obj)} {a p q : Addr} {k n n2 : Nat} {us vs : List Value} {xs ys : List Str} {Q : Value → Shared → Prop} (hh : A.handled = none) (hun : A.units + 3 < cLine)
    (F : Fr h₀ L s.heap m) (N : News h₀ L s.heap news) (ha : (a, listOf #[.ref p, .ref q] k) ∈ news) (hp : (p, listOf us.toArray n) ∈ news) (hq : (q, listOf vs.toArray n2) ∈ news) (hu : StrsAre us xs) (hv : StrsAre vs ys)
    (h : ∀ h' tk, Fr h₀ L h' m → News h₀ L h' news → Q (.ref (if ordL ltS (fun m n => decide (m < n)) ys xs = true then q else p)) { s with heap := h', toks := tk }) :
    wpAny (model prog w) A (call (.builtin "min") [.ref a]) Q E s := by
  have hname : (toString "min" ++ toString ".loop" : String) = "min.loop" := by decide
  have al : s.heap.IsList a #[.ref p, .ref q] := ⟨_, (N _ ha).1, rfl, k, rfl⟩
  refine call_function_tree PySem.F.kind_min PySem.F.plain_min PySem.F.entry_min (PySem.F.args_min1 _) ?_
  show wpAny _ A.in1 (Builtin.Builtins.bindParams "min" ["key", "default"] 0 ⟨[], []⟩ >>= _) _ _ s
  refine wpAny_bind (wpAny_of_eq (show Builtin.Builtins.bindParams "min" ["key", "default"] 0 ⟨[], []⟩ = pure [none, none] from rfl) ?_)
  refine wpAny_bind (wpAny_pure ?_)
  refine wpAny_bind (wpAny_pyIter_list al ?_)
  obtain ⟨F1, N1⟩ := newsPush F N (iterO a 0) (Heap.get?_push_size _ rfl)
  have apI := N.apart
  refine wpAny_bind (wpAny_newObj_type ?_)
  have apS := N1.apart
  obtain ⟨F2, N2⟩ := newsPush F1 N1 { cls := .type "list", data := .seq ([] : List Value).toArray } (Heap.get?_push_size _ rfl)
  dsimp only
  generalize s.heap.push (iterO a 0) = H1 at F1 N1 F2 N2 apS ⊢
  generalize H1.push { cls := .type "list", data := .seq ([] : List Value).toArray } = H2 at F2 N2 ⊢
  generalize H1.objs.size = S at N2 apS ⊢
  generalize s.heap.objs.size = I at N1 N2 apI apS ⊢
  have hSI : I ≠ S := apS _ (.head _)
  have apS' : ∀ r ∈ news, r.1 ≠ S := fun r hr => apS r (.tail _ hr)
  rw [hname]
  refine wpAny_pure ⟨plainId_quiet PySem.F.plain_min_loop _, codeAny_builtin PySem.F.entry_min_loop ?_⟩
  rw [Around.under_plainId PySem.F.plain_min_loop _]
  have gS := (N2 _ (.head _)).1
  have gI : H2.IsListIter I a 0 := ⟨_, (N2 _ (.tail _ (.head _))).1, rfl, rfl⟩
  have ga : H2.IsList a #[.ref p, .ref q] := ⟨_, (N2 _ (.tail _ (.tail _ ha))).1, rfl, k, rfl⟩
  show wpAny _ _ (seqItems? (.ref S) >>= _) _ _ _
  refine wpAny_bind (wpAny_seqItems gS rfl ?_)
  show wpAny _ _ (tryCatch (pyNext (.ref I)) _ >>= _) _ _ _
  refine wpAny_bind (wpAny_tryCatch (wpAny_pyNext_list_item gI ga (x := .ref p) rfl fun h3 hit3 hs3 => ?_))
  obtain ⟨oI, eI, hI1, hI2⟩ := hit3
  have F3 := F2.change hs3 (N2 _ (.tail _ (.head _))).2.1 (N2 _ (.tail _ (.head _))).2.2
  have N3 := PyProof.Rows.News.setSecond N2 hSI.symm apI hs3 eI
  show wpAny _ _ (updateSeq S (fun _ => #[.ref p, .ref p]) >>= _) _ _ _
  refine wpAny_bind ?_
  refine wpAny_updateSeq (N3 _ (.head _)).1 rfl ?_
  have g4 := Heap.get?_update_self (Obj.mapSeq (fun _ => #[.ref p, .ref p])) (N3 _ (.head _)).1 rfl
  have sb4 : Heap.SameBut S h3 (h3.update S (Obj.mapSeq (fun _ => #[.ref p, .ref p]))) := Heap.SameBut.update ..
  have apS2 : ∀ r ∈ (I, oI) :: news, r.1 ≠ S := by
    intro r hr
    rcases List.mem_cons.mp hr with rfl | hr
    · exact hSI
    · exact apS' r hr
  have F4 := F3.change sb4 (N3 _ (.head _)).2.1 (N3 _ (.head _)).2.2
  have N4 := PyProof.Rows.News.setHead N3 apS2 sb4 g4
  generalize h3.update S (Obj.mapSeq (fun _ => #[.ref p, .ref p])) = H4 at F4 N4 ⊢
  rw [hname]
  refine wpAny_pure ⟨plainId_quiet PySem.F.plain_min_loop _, codeAny_builtin PySem.F.entry_min_loop ?_⟩
  rw [Around.under_plainId PySem.F.plain_min_loop _]
  have ga4 : H4.IsList a #[.ref p, .ref q] := ⟨_, (N4 _ (.tail _ (.tail _ ha))).1, rfl, k, rfl⟩
  have gI4 : H4.IsListIter I a 1 := ⟨_, (N4 _ (.tail _ (.head _))).1, hI1, hI2⟩
  show wpAny _ _ (seqItems? (.ref S) >>= _) _ _ _
  refine wpAny_bind (wpAny_seqItems (N4 _ (.head _)).1 rfl ?_)
  show wpAny _ _ (tryCatch (pyNext (.ref I)) _ >>= _) _ _ _
  refine wpAny_bind (wpAny_tryCatch (wpAny_pyNext_list_item gI4 ga4 (x := .ref q) rfl fun h5 hit5 hs5 => ?_))
  obtain ⟨oI5, eI5, hI15, hI25⟩ := hit5
  have F5 := F4.change hs5 (N4 _ (.tail _ (.head _))).2.1 (N4 _ (.tail _ (.head _))).2.2
  have N5 := PyProof.Rows.News.setSecond N4 hSI.symm apI hs5 eI5
  show wpAny _ _ (tryCatch (holding [.ref q, .ref q] (richCompare .Lt (.ref q) (.ref p) >>= _)) _ >>= _) _ _ _
  refine wpAny_bind (wpAny_tryCatch (wpAny_holding (wpAny_bind (ltLists hv hu (N5 _ (.tail _ (.tail _ hq))).1 (N5 _ (.tail _ (.tail _ hp))).1 ?_ ?_))))
  · show A.units + 1 < cLine
    omega
  refine wpAny_bind (wpAny_holding (wpAny_truthy_bool ?_))
  refine wpAny_bind (wpAny_letGo (wpAny_pure ?_))
  have last : ∀ (R : Result → Shared → Prop) (r : Addr) (h6 : Heap) (oS : Obj) (xsS : Array Value) (cS : Nat), oS = { cls := .type "list", data := .seq #[.ref r, .ref r] cS } → (∀ h' tk, Fr h₀ L h' m → News h₀ L h' news → R (.ok (.ret (.ref r))) { s with heap := h', toks := tk }) → Fr h₀ L h6 m → News h₀ L h6 ((S, oS) :: (I, oI5) :: news) →
      codeAny (model prog w) A (.builtin "min.loop" ⟨[.ref I, .none, .ref S], []⟩) R { s with heap := h6 } := by
    intro R r h6 oS xsS cS eS hQ F6 N6
    subst eS
    refine codeAny_builtin PySem.F.entry_min_loop ?_
    rw [Around.under_plainId PySem.F.plain_min_loop _]
    have ga6 : h6.IsList a #[.ref p, .ref q] := ⟨_, (N6 _ (.tail _ (.tail _ ha))).1, rfl, k, rfl⟩
    have gI6 : h6.IsListIter I a 2 := ⟨_, (N6 _ (.tail _ (.head _))).1, hI15, hI25⟩
    show wpAny _ _ (seqItems? (.ref S) >>= _) _ _ _
    refine wpAny_bind (wpAny_seqItems (N6 _ (.head _)).1 rfl ?_)
    show wpAny _ _ (tryCatch (pyNext (.ref I)) _ >>= _) _ _ _
    refine wpAny_bind (wpAny_tryCatch (wpAny_pyNext_list_end (by exact hh) gI6 ga6 rfl fun h7 he7 => ?_))
    have F7 : Fr h₀ L h7 m := LCg.fr_but F6 (fun b o hb e => he7 b o (by simpa using hb) e) (N6 _ (.tail _ (.head _))).2.1.symm (N6 _ (.tail _ (.head _))).2.2
    have N7 : News h₀ L h7 ((S, { cls := .type "list", data := .seq #[.ref r, .ref r] cS }) :: news) := by
      intro x hx
      rcases List.mem_cons.mp hx with rfl | hx
      · exact ⟨he7 _ _ hSI.symm (N6 _ (.head _)).1, (N6 _ (.head _)).2⟩
      · exact ⟨he7 _ _ (apI x hx) (N6 x (.tail _ (.tail _ hx))).1, (N6 x (.tail _ (.tail _ hx))).2⟩
    show wpAny _ _ (updateSeq S (fun _ => #[]) >>= _) _ _ _
    refine wpAny_bind ?_
    refine wpAny_updateSeq (N7 _ (.head _)).1 rfl (wpAny_bind (wpAny_letGo (wpAny_pure ?_)))
    have sb8 : Heap.SameBut S h7 (h7.update S (Obj.mapSeq (fun _ => #[]))) := Heap.SameBut.update ..
    exact hQ _ _ (F7.change sb8 (N7 _ (.head _)).2.1 (N7 _ (.head _)).2.2) fun x hx => ⟨(sb8.2 _ (apS' x hx)).trans (N7 x (.tail _ hx)).1, (N7 x (.tail _ hx)).2⟩
  cases hb : ordL ltS (fun m n => decide (m < n)) ys xs with
  | true =>
    rw [hb] at h
    simp only [if_true]
    refine wpAny_bind ?_
    refine wpAny_updateSeq (N5 _ (.head _)).1 rfl (wpAny_bind (wpAny_letGo ?_))
    have g6 := Heap.get?_update_self (Obj.mapSeq (fun _ => #[.ref q, .ref q])) (N5 _ (.head _)).1 rfl
    have sb6 : Heap.SameBut S h5 (h5.update S (Obj.mapSeq (fun _ => #[.ref q, .ref q]))) := Heap.SameBut.update ..
    have apS3 : ∀ r ∈ (I, oI5) :: news, r.1 ≠ S := by
      intro r hr
      rcases List.mem_cons.mp hr with rfl | hr
      · exact hSI
      · exact apS' r hr
    rw [hname]
    exact wpAny_pure ⟨plainId_quiet PySem.F.plain_min_loop _, last _ q _ _ #[] _ rfl (fun h' tk F N => h h' tk F N) (F5.change sb6 (N5 _ (.head _)).2.1 (N5 _ (.head _)).2.2) (PyProof.Rows.News.setHead N5 apS3 sb6 g6)⟩
  | false =>
    rw [hb] at h
    simp only [Bool.false_eq_true, if_false]
    refine wpAny_bind (wpAny_letGo ?_)
    rw [hname]
    exact wpAny_pure ⟨plainId_quiet PySem.F.plain_min_loop _, last _ p _ _ #[] _ rfl (fun h' tk F N => h h' tk F N) F5 N5⟩
end

section
variable {prog : Program} {w : World} {A : Around} {E : Value → Shared → Prop} {s : Shared}
theorem gtS_cmp {a b : Str} {t u : Tok} {Q : Value → Shared → Prop} (h : Q (.bool (gtS a b)) s) : wpAny (model prog w) A (richCompare .Gt (.str a t) (.str b u)) Q E s :=
  richCompare_gives (op := .Gt) (T := "str") rfl rfl PyProof.Rows.slot_str_gt PyProof.Rows.entry_str_gt (PyProof.Rows.args_str_gt _ _) (gives_str_gt a b t u) (fun x => nomatch x) h
theorem gtLoop (l b : Addr) {us vs : List Value} {xs ys : List Str} (n n2 : Nat) (hu : StrsAre us xs) (hv : StrsAre vs ys) (k : Nat) :
    ∀ i : Nat, xs.length - i = k → i ≤ xs.length → i ≤ ys.length → Meets (Builtin.«list.__eq__.loop» ⟨[.ref l, .ref b, rawInt i, rawInt 4], []⟩)
      (fun A R s => s.heap.get? l = some { cls := .type "list", dict := none, data := .seq us.toArray n, slots := #[] } ∧ s.heap.get? b = some { cls := .type "list", dict := none, data := .seq vs.toArray n2, slots := #[] } ∧
        R (.ok (.ret (.bool (ordL gtS (fun m n => decide (m > n)) (xs.drop i) (ys.drop i))))) s) := by
  have lu := hu.length
  have lv := hv.length
  induction k with
  | zero =>
    intro i hk hx hy prog w A R s h
    obtain ⟨hp, g, d, tk, os⟩ := s; obtain ⟨hl, hb, h⟩ := h
    wp_walk using wpAny_loadPart' hl, wpAny_loadPart' hb
    have hxi : xs.length ≤ i := Nat.le_of_sub_eq_zero hk
    have hi1 : us.toArray[((i : Nat) : Int).toNat]? = none := by simp; exact Nat.le_trans (Nat.le_of_eq lu) hxi
    have hd : xs.drop i = [] := List.drop_eq_nil_of_le hxi
    rw [hd] at h
    have e1 : ordL gtS (fun m n => decide (m > n)) [] (ys.drop i) = decide (us.toArray.size > vs.toArray.size) := by
      rw [ordL_nil]
      rw [List.size_toArray, List.size_toArray, lu, lv, List.length_nil, List.length_drop]
      congr 1
      apply propext
      omega
    rw [e1] at h
    rw [hi1]
    cases hi2 : vs.toArray[((i : Nat) : Int).toNat]? with
    | none =>
      wp_walk using wpAny_loadPart' hl, wpAny_loadPart' hb
      exact h
    | some v =>
      wp_walk using wpAny_loadPart' hl, wpAny_loadPart' hb
      exact h
  | succ k ih =>
    intro i hk hx hy prog w A R s h
    obtain ⟨hp, g, d, tk, os⟩ := s; obtain ⟨hl, hb, h⟩ := h
    have hlt : i < xs.length := Nat.lt_of_sub_eq_succ hk
    obtain ⟨t, g1⟩ := strs_get hu i hlt
    have hi1 : us.toArray[((i : Nat) : Int).toNat]? = some (.str xs[i] t) := by simpa using g1
    have hd : xs.drop i = xs[i] :: xs.drop (i + 1) := List.drop_eq_getElem_cons hlt
    rw [hd] at h
    by_cases hlt2 : i < ys.length
    · obtain ⟨u, g2⟩ := strs_get hv i hlt2
      have hi2 : vs.toArray[((i : Nat) : Int).toNat]? = some (.str ys[i] u) := by simpa using g2
      have hd2 : ys.drop i = ys[i] :: ys.drop (i + 1) := List.drop_eq_getElem_cons hlt2
      rw [hd2] at h
      have hc : ((i : Int) + 1) = ((i + 1 : Nat) : Int) := by push_cast; rfl
      wp_walk using wpAny_loadPart' hl, wpAny_loadPart' hb
      rw [hi1, hi2]
      refine wpAny_bind (wpAny_eqBool_str ?_)
      rw [ordL_cons] at h
      by_cases he : xs[i] = ys[i]
      · rw [if_pos he] at h
        rw [decide_eq_true he]
        wp_walk
        rw [hc]
        exact ⟨plainId_quiet MeetsSeq3.plain_eq_loop _, codeAny_builtin MeetsSeq3.entry_eq_loop (by
          rw [Around.under_plainId MeetsSeq3.plain_eq_loop _]
          exact ih (i + 1) (by rw [Nat.sub_succ, hk]; rfl) hlt hlt2 prog w A R _ ⟨hl, hb, h⟩)⟩
      · rw [if_neg he] at h
        rw [decide_eq_false he]
        wp_walk using wpAny_loadPart' hl, wpAny_loadPart' hb
        rw [hi1, hi2]
        refine wpAny_bind (gtS_cmp ?_)
        wp_walk
        exact h
    · have hi2 : vs.toArray[((i : Nat) : Int).toNat]? = none := by simp; exact Nat.le_trans (Nat.le_of_eq lv) (Nat.le_of_not_lt hlt2)
      have hd2 : ys.drop i = [] := List.drop_eq_nil_of_le (Nat.le_of_not_lt hlt2)
      rw [hd2] at h
      have e1 : ordL gtS (fun m n => decide (m > n)) (xs[i] :: xs.drop (i + 1)) [] = decide (us.toArray.size > vs.toArray.size) := by
        rw [ordL_nil2]
        rw [List.size_toArray, List.size_toArray, lu, lv, List.length_nil, List.length_cons, List.length_drop]
        congr 1
        apply propext
        omega
      rw [e1] at h
      wp_walk using wpAny_loadPart' hl, wpAny_loadPart' hb
      rw [hi1, hi2]
      wp_walk using wpAny_loadPart' hl, wpAny_loadPart' hb
      exact h
theorem gtMeets (l b : Addr) {us vs : List Value} {xs ys : List Str} (n n2 : Nat) (hu : StrsAre us xs) (hv : StrsAre vs ys) :
    Meets (Builtin.«list.__gt__» ⟨[.ref l, .ref b], []⟩)
      (fun A R s => s.heap.get? l = some { cls := .type "list", dict := none, data := .seq us.toArray n, slots := #[] } ∧ s.heap.get? b = some { cls := .type "list", dict := none, data := .seq vs.toArray n2, slots := #[] } ∧
        R (.ok (.ret (.bool (ordL gtS (fun m n => decide (m > n)) xs ys)))) s) := by
  intro prog w A R s h
  obtain ⟨hp, g, d, tk, os⟩ := s; obtain ⟨hl, hb, h⟩ := h
  have f3 := AutoSeq1.sub_list_list
  wp_walk using wpAny_loadPart' hl, wpAny_loadPart' hb
  exact ⟨plainId_quiet MeetsSeq3.plain_eq_loop _, codeAny_builtin MeetsSeq3.entry_eq_loop (by
    rw [Around.under_plainId MeetsSeq3.plain_eq_loop _]
    exact gtLoop l b n n2 hu hv _ 0 rfl (Nat.zero_le _) (Nat.zero_le _) prog w A R _ ⟨hl, hb, h⟩)⟩
theorem gtLists {l b : Addr} {us vs : List Value} {xs ys : List Str} {n n2 : Nat} {Q : Value → Shared → Prop} (hu : StrsAre us xs) (hv : StrsAre vs ys) (hl : s.heap.get? l = some (listOf us.toArray n)) (hb : s.heap.get? b = some (listOf vs.toArray n2)) (hun : A.units < cLine)
    (h : Q (.bool (ordL gtS (fun m n => decide (m > n)) xs ys)) s) : wpAny (model prog w) A (richCompare .Gt (.ref l) (.ref b)) Q E s :=
  richCompare_meets_room (op := .Gt) ⟨_, hl, rfl⟩ ⟨_, hb, rfl⟩ PySem.F.slot_list_gt PySem.F.entry_list_gt (PySem.F.args_list_gt_2 _ _) (gtMeets l b n n2 hu hv)
    ⟨hl, hb, show Value.bool _ ≠ Value.notImplemented ∧ Q _ s from ⟨(fun x => nomatch x), h⟩⟩ hun
theorem maxTwo {h₀ : Heap} {L : Addr} {m : Str → Option Value} {news : List (Addr × Obj)} {a p q : Addr} {k n n2 : Nat} {us vs : List Value} {xs ys : List Str} {Q : Value → Shared → Prop} (hh : A.handled = none) (hun : A.units + 3 < cLine)
    (F : Fr h₀ L s.heap m) (N : News h₀ L s.heap news) (ha : (a, listOf #[.ref p, .ref q] k) ∈ news) (hp : (p, listOf us.toArray n) ∈ news) (hq : (q, listOf vs.toArray n2) ∈ news) (hu : StrsAre us xs) (hv : StrsAre vs ys)
    (h : ∀ h' tk, Fr h₀ L h' m → News h₀ L h' news → Q (.ref (if ordL gtS (fun m n => decide (m > n)) ys xs = true then q else p)) { s with heap := h', toks := tk }) :
    wpAny (model prog w) A (call (.builtin "max") [.ref a]) Q E s := by
  have hname : (toString "max" ++ toString ".loop" : String) = "max.loop" := by decide
  have al : s.heap.IsList a #[.ref p, .ref q] := ⟨_, (N _ ha).1, rfl, k, rfl⟩
  refine call_function_tree PySem.F.kind_max PySem.F.plain_max PySem.F.entry_max (PySem.F.args_max1 _) ?_
  show wpAny _ A.in1 (Builtin.Builtins.bindParams "max" ["key", "default"] 0 ⟨[], []⟩ >>= _) _ _ s
  refine wpAny_bind (wpAny_of_eq (show Builtin.Builtins.bindParams "max" ["key", "default"] 0 ⟨[], []⟩ = pure [none, none] from rfl) ?_)
  refine wpAny_bind (wpAny_pure ?_)
  refine wpAny_bind (wpAny_pyIter_list al ?_)
  obtain ⟨F1, N1⟩ := newsPush F N (iterO a 0) (Heap.get?_push_size _ rfl)
  have apI := N.apart
  refine wpAny_bind (wpAny_newObj_type ?_)
  have apS := N1.apart
  obtain ⟨F2, N2⟩ := newsPush F1 N1 { cls := .type "list", data := .seq ([] : List Value).toArray } (Heap.get?_push_size _ rfl)
  dsimp only
  generalize s.heap.push (iterO a 0) = H1 at F1 N1 F2 N2 apS ⊢
  generalize H1.push { cls := .type "list", data := .seq ([] : List Value).toArray } = H2 at F2 N2 ⊢
  generalize H1.objs.size = S at N2 apS ⊢
  generalize s.heap.objs.size = I at N1 N2 apI apS ⊢
  have hSI : I ≠ S := apS _ (.head _)
  have apS' : ∀ r ∈ news, r.1 ≠ S := fun r hr => apS r (.tail _ hr)
  rw [hname]
  refine wpAny_pure ⟨plainId_quiet PySem.F.plain_max_loop _, codeAny_builtin PySem.F.entry_max_loop ?_⟩
  rw [Around.under_plainId PySem.F.plain_max_loop _]
  have gS := (N2 _ (.head _)).1
  have gI : H2.IsListIter I a 0 := ⟨_, (N2 _ (.tail _ (.head _))).1, rfl, rfl⟩
  have ga : H2.IsList a #[.ref p, .ref q] := ⟨_, (N2 _ (.tail _ (.tail _ ha))).1, rfl, k, rfl⟩
  show wpAny _ _ (seqItems? (.ref S) >>= _) _ _ _
  refine wpAny_bind (wpAny_seqItems gS rfl ?_)
  show wpAny _ _ (tryCatch (pyNext (.ref I)) _ >>= _) _ _ _
  refine wpAny_bind (wpAny_tryCatch (wpAny_pyNext_list_item gI ga (x := .ref p) rfl fun h3 hit3 hs3 => ?_))
  obtain ⟨oI, eI, hI1, hI2⟩ := hit3
  have F3 := F2.change hs3 (N2 _ (.tail _ (.head _))).2.1 (N2 _ (.tail _ (.head _))).2.2
  have N3 := PyProof.Rows.News.setSecond N2 hSI.symm apI hs3 eI
  show wpAny _ _ (updateSeq S (fun _ => #[.ref p, .ref p]) >>= _) _ _ _
  refine wpAny_bind ?_
  refine wpAny_updateSeq (N3 _ (.head _)).1 rfl ?_
  have g4 := Heap.get?_update_self (Obj.mapSeq (fun _ => #[.ref p, .ref p])) (N3 _ (.head _)).1 rfl
  have sb4 : Heap.SameBut S h3 (h3.update S (Obj.mapSeq (fun _ => #[.ref p, .ref p]))) := Heap.SameBut.update ..
  have apS2 : ∀ r ∈ (I, oI) :: news, r.1 ≠ S := by
    intro r hr
    rcases List.mem_cons.mp hr with rfl | hr
    · exact hSI
    · exact apS' r hr
  have F4 := F3.change sb4 (N3 _ (.head _)).2.1 (N3 _ (.head _)).2.2
  have N4 := PyProof.Rows.News.setHead N3 apS2 sb4 g4
  generalize h3.update S (Obj.mapSeq (fun _ => #[.ref p, .ref p])) = H4 at F4 N4 ⊢
  rw [hname]
  refine wpAny_pure ⟨plainId_quiet PySem.F.plain_max_loop _, codeAny_builtin PySem.F.entry_max_loop ?_⟩
  rw [Around.under_plainId PySem.F.plain_max_loop _]
  have ga4 : H4.IsList a #[.ref p, .ref q] := ⟨_, (N4 _ (.tail _ (.tail _ ha))).1, rfl, k, rfl⟩
  have gI4 : H4.IsListIter I a 1 := ⟨_, (N4 _ (.tail _ (.head _))).1, hI1, hI2⟩
  show wpAny _ _ (seqItems? (.ref S) >>= _) _ _ _
  refine wpAny_bind (wpAny_seqItems (N4 _ (.head _)).1 rfl ?_)
  show wpAny _ _ (tryCatch (pyNext (.ref I)) _ >>= _) _ _ _
  refine wpAny_bind (wpAny_tryCatch (wpAny_pyNext_list_item gI4 ga4 (x := .ref q) rfl fun h5 hit5 hs5 => ?_))
  obtain ⟨oI5, eI5, hI15, hI25⟩ := hit5
  have F5 := F4.change hs5 (N4 _ (.tail _ (.head _))).2.1 (N4 _ (.tail _ (.head _))).2.2
  have N5 := PyProof.Rows.News.setSecond N4 hSI.symm apI hs5 eI5
  show wpAny _ _ (tryCatch (holding [.ref q, .ref q] (richCompare .Gt (.ref q) (.ref p) >>= _)) _ >>= _) _ _ _
  refine wpAny_bind (wpAny_tryCatch (wpAny_holding (wpAny_bind (gtLists hv hu (N5 _ (.tail _ (.tail _ hq))).1 (N5 _ (.tail _ (.tail _ hp))).1 ?_ ?_))))
  · show A.units + 1 < cLine
    omega
  refine wpAny_bind (wpAny_holding (wpAny_truthy_bool ?_))
  refine wpAny_bind (wpAny_letGo (wpAny_pure ?_))
  have last : ∀ (R : Result → Shared → Prop) (r : Addr) (h6 : Heap) (oS : Obj) (xsS : Array Value) (cS : Nat), oS = { cls := .type "list", data := .seq #[.ref r, .ref r] cS } → (∀ h' tk, Fr h₀ L h' m → News h₀ L h' news → R (.ok (.ret (.ref r))) { s with heap := h', toks := tk }) → Fr h₀ L h6 m → News h₀ L h6 ((S, oS) :: (I, oI5) :: news) →
      codeAny (model prog w) A (.builtin "max.loop" ⟨[.ref I, .none, .ref S], []⟩) R { s with heap := h6 } := by
    intro R r h6 oS xsS cS eS hQ F6 N6
    subst eS
    refine codeAny_builtin PySem.F.entry_max_loop ?_
    rw [Around.under_plainId PySem.F.plain_max_loop _]
    have ga6 : h6.IsList a #[.ref p, .ref q] := ⟨_, (N6 _ (.tail _ (.tail _ ha))).1, rfl, k, rfl⟩
    have gI6 : h6.IsListIter I a 2 := ⟨_, (N6 _ (.tail _ (.head _))).1, hI15, hI25⟩
    show wpAny _ _ (seqItems? (.ref S) >>= _) _ _ _
    refine wpAny_bind (wpAny_seqItems (N6 _ (.head _)).1 rfl ?_)
    show wpAny _ _ (tryCatch (pyNext (.ref I)) _ >>= _) _ _ _
    refine wpAny_bind (wpAny_tryCatch (wpAny_pyNext_list_end (by exact hh) gI6 ga6 rfl fun h7 he7 => ?_))
    have F7 : Fr h₀ L h7 m := LCg.fr_but F6 (fun b o hb e => he7 b o (by simpa using hb) e) (N6 _ (.tail _ (.head _))).2.1.symm (N6 _ (.tail _ (.head _))).2.2
    have N7 : News h₀ L h7 ((S, { cls := .type "list", data := .seq #[.ref r, .ref r] cS }) :: news) := by
      intro x hx
      rcases List.mem_cons.mp hx with rfl | hx
      · exact ⟨he7 _ _ hSI.symm (N6 _ (.head _)).1, (N6 _ (.head _)).2⟩
      · exact ⟨he7 _ _ (apI x hx) (N6 x (.tail _ (.tail _ hx))).1, (N6 x (.tail _ (.tail _ hx))).2⟩
    show wpAny _ _ (updateSeq S (fun _ => #[]) >>= _) _ _ _
    refine wpAny_bind ?_
    refine wpAny_updateSeq (N7 _ (.head _)).1 rfl (wpAny_bind (wpAny_letGo (wpAny_pure ?_)))
    have sb8 : Heap.SameBut S h7 (h7.update S (Obj.mapSeq (fun _ => #[]))) := Heap.SameBut.update ..
    exact hQ _ _ (F7.change sb8 (N7 _ (.head _)).2.1 (N7 _ (.head _)).2.2) fun x hx => ⟨(sb8.2 _ (apS' x hx)).trans (N7 x (.tail _ hx)).1, (N7 x (.tail _ hx)).2⟩
  cases hb : ordL gtS (fun m n => decide (m > n)) ys xs with
  | true =>
    rw [hb] at h
    simp only [if_true]
    refine wpAny_bind ?_
    refine wpAny_updateSeq (N5 _ (.head _)).1 rfl (wpAny_bind (wpAny_letGo ?_))
    have g6 := Heap.get?_update_self (Obj.mapSeq (fun _ => #[.ref q, .ref q])) (N5 _ (.head _)).1 rfl
    have sb6 : Heap.SameBut S h5 (h5.update S (Obj.mapSeq (fun _ => #[.ref q, .ref q]))) := Heap.SameBut.update ..
    have apS3 : ∀ r ∈ (I, oI5) :: news, r.1 ≠ S := by
      intro r hr
      rcases List.mem_cons.mp hr with rfl | hr
      · exact hSI
      · exact apS' r hr
    rw [hname]
    exact wpAny_pure ⟨plainId_quiet PySem.F.plain_max_loop _, last _ q _ _ #[] _ rfl (fun h' tk F N => h h' tk F N) (F5.change sb6 (N5 _ (.head _)).2.1 (N5 _ (.head _)).2.2) (PyProof.Rows.News.setHead N5 apS3 sb6 g6)⟩
  | false =>
    rw [hb] at h
    simp only [Bool.false_eq_true, if_false]
    refine wpAny_bind (wpAny_letGo ?_)
    rw [hname]
    exact wpAny_pure ⟨plainId_quiet PySem.F.plain_max_loop _, last _ p _ _ #[] _ rfl (fun h' tk F N => h h' tk F N) F5 N5⟩
end
end
section
set_option maxRecDepth 100000
set_option maxHeartbeats 8000000
noncomputable def minL (xs ys : List Str) : List Str := if ordL ltS (fun m n => decide (m < n)) ys xs = true then ys else xs
noncomputable def maxL (xs ys : List Str) : List Str := if ordL gtS (fun m n => decide (m > n)) ys xs = true then ys else xs
section
variable {prog : Program} {w : World} {A : Around} {E : Value → Shared → Prop} {s : Shared} {h₀ : Heap} {L : Addr} {m : Str → Option Value}
theorem minPick {news : List (Addr × Obj)} {a p q : Addr} {k n n2 : Nat} {us vs : List Value} {xs ys : List Str} {Q : Value → Shared → Prop} (hh : A.handled = none) (hun : A.units + 3 < cLine)
    (F : Fr h₀ L s.heap m) (N : News h₀ L s.heap news) (ha : (a, listOf #[.ref p, .ref q] k) ∈ news) (hp : (p, listOf us.toArray n) ∈ news) (hq : (q, listOf vs.toArray n2) ∈ news) (hu : StrsAre us xs) (hv : StrsAre vs ys)
    (h : ∀ r ws n3 h' tk, Fr h₀ L h' m → News h₀ L h' ((r, listOf ws.toArray n3) :: news) → StrsAre ws (minL xs ys) → Q (.ref r) { s with heap := h', toks := tk }) :
    wpAny (model prog w) A (call (.builtin "min") [.ref a]) Q E s := by
  refine minTwo hh hun F N ha hp hq hu hv fun h' tk F' N' => ?_
  unfold minL at h
  by_cases hb : ordL ltS (fun m n => decide (m < n)) ys xs = true
  · rw [if_pos hb] at h ⊢
    refine h q vs n2 h' tk F' (fun x hx => ?_) hv
    rcases List.mem_cons.mp hx with rfl | hx
    · exact N' _ hq
    · exact N' x hx
  · rw [if_neg hb] at h ⊢
    refine h p us n h' tk F' (fun x hx => ?_) hu
    rcases List.mem_cons.mp hx with rfl | hx
    · exact N' _ hp
    · exact N' x hx
theorem maxPick {news : List (Addr × Obj)} {a p q : Addr} {k n n2 : Nat} {us vs : List Value} {xs ys : List Str} {Q : Value → Shared → Prop} (hh : A.handled = none) (hun : A.units + 3 < cLine)
    (F : Fr h₀ L s.heap m) (N : News h₀ L s.heap news) (ha : (a, listOf #[.ref p, .ref q] k) ∈ news) (hp : (p, listOf us.toArray n) ∈ news) (hq : (q, listOf vs.toArray n2) ∈ news) (hu : StrsAre us xs) (hv : StrsAre vs ys)
    (h : ∀ r ws n3 h' tk, Fr h₀ L h' m → News h₀ L h' ((r, listOf ws.toArray n3) :: news) → StrsAre ws (maxL xs ys) → Q (.ref r) { s with heap := h', toks := tk }) :
    wpAny (model prog w) A (call (.builtin "max") [.ref a]) Q E s := by
  refine maxTwo hh hun F N ha hp hq hu hv fun h' tk F' N' => ?_
  unfold maxL at h
  by_cases hb : ordL gtS (fun m n => decide (m > n)) ys xs = true
  · rw [if_pos hb] at h ⊢
    refine h q vs n2 h' tk F' (fun x hx => ?_) hv
    rcases List.mem_cons.mp hx with rfl | hx
    · exact N' _ hq
    · exact N' x hx
  · rw [if_neg hb] at h ⊢
    refine h p us n h' tk F' (fun x hx => ?_) hu
    rcases List.mem_cons.mp hx with rfl | hx
    · exact N' _ hp
    · exact N' x hx
end
theorem kp1 {v : Str} (h : (v.length : Int) ≠ 0) (h2 : (v != Str.ofString ".") = true) : true = keepF v := by
  unfold keepF; rw [h2, Bool.and_true, eq_comm, bne_iff_ne]; omega
theorem kp2 {v : Str} (h2 : (v != Str.ofString ".") = false) : false = keepF v := by
  unfold keepF; rw [h2, Bool.and_false]
theorem kp3 {v : Str} (h : (v.length : Int) = 0) : false = keepF v := by
  unfold keepF; rw [show v.length = 0 by omega]; rfl
end
section
set_option maxRecDepth 100000
set_option maxHeartbeats 8000000
section
variable {prog : Program} {w : World} {A : Around} {E : Value → Shared → Prop} {s : Shared} {env : Env} {h₀ : Heap} {body : List Stmt} {Q : Flow → Shared → Prop}
noncomputable def EPost (h₀ : Heap) (L : Addr) (xi xc : Str) (m₀ : Str → Option Value) (P : Prop) (led : List (Addr × Obj)) (s₁ : Shared) (Q : Flow → Shared → Prop) (f : Flow) (s₂ : Shared) : Prop :=
  match f with
  | .ret v => Q (.ret v) s₂
  | .brk => Q .next s₂
  | _ => ∃ h' tk m' led', s₂ = { s₁ with heap := h', toks := tk } ∧ Fr h₀ L h' m' ∧ (∀ z, z ≠ xi → z ≠ xc → m' z = m₀ z) ∧ News h₀ L h' led' ∧ (∀ p ∈ led, p ∈ led') ∧ P
theorem epost_end {L : Addr} {xi xc : Str} {m₀ m' : Str → Option Value} {P : Prop} {led led' : List (Addr × Obj)} {s₁ : Shared} {f : Flow} {h' : Heap} {tk : Nat}
    (hf : f = .next ∨ f = .cont) (F : Fr h₀ L h' m') (hm : ∀ z, z ≠ xi → z ≠ xc → m' z = m₀ z) (N : News h₀ L h' led') (hs : ∀ p ∈ led, p ∈ led') (hP : P) : EPost h₀ L xi xc m₀ P led s₁ Q f { s₁ with heap := h', toks := tk } := by
  rcases hf with rfl | rfl <;> exact ⟨h', tk, m', led', rfl, F, hm, N, hs, hP⟩
theorem enumLoop {elts : List Expr} {k : Nat} {pos : Pos} {l : Addr} {ws : List Value} {as bs : List Str} {n : Nat} {xi xc : Str} {m₀ : Str → Option Value} {news : List (Addr × Obj)} (hxy : xc ≠ xi)
    (hh : A.handled = none) (F : Fr h₀ env.locals s.heap m₀) (N : News h₀ env.locals s.heap news) (hm : (l, listOf ws.toArray n) ∈ news) (hw : StrsAre ws as)
    (turn : ∀ i y t ui uc v h tk (I1 I2 : Addr) (o1 o2 : Obj), i < as.length → as.take i = bs.take i → as[i]? = some y → (∃ T t', v = .ref T ∧ IsTup h T #[.int (i : Int) t', .str y t]) →
      Fr h₀ env.locals h (fun z => if z = xi then ui else if z = xc then uc else m₀ z) → News h₀ env.locals h ((I1, o1) :: (I2, o2) :: news) →
      wpAny (model prog w) A (assign (.Tuple elts k pos) env v) (fun _ s₂ => wpAny (model prog w) A (execs body env) (EPost h₀ env.locals xi xc m₀ (as.take (i + 1) = bs.take (i + 1)) ((I1, o1) :: (I2, o2) :: news) { s with heap := h, toks := tk } Q) E s₂) E { s with heap := h, toks := tk })
    (done : ∀ ui uc h tk, as = bs.take as.length → Fr h₀ env.locals h (fun z => if z = xi then ui else if z = xc then uc else m₀ z) → News h₀ env.locals h news → Q .next { s with heap := h, toks := tk }) :
    wpAny (model prog w) A (call (.type "enumerate") [.ref l]) (fun xv s₁ => wpAny (model prog w) A (pyIter xv) (fun it s₂ => TurnsAt prog w A h₀ env (.Tuple elts k pos) body Q E it s₂) E s₁) E s := by
  have hlen := hw.length
  refine ktu_enum (lo := listOf ws.toArray n) (vs := ws) (n := n) hh F N hm rfl rfl rfl fun I hI => ?_
  have em : ∀ (m : Str → Option Value), (∀ z, z ≠ xi → z ≠ xc → m z = m₀ z) → m = fun z => if z = xi then m xi else if z = xc then m xc else m₀ z := by
    intro m hz
    funext z
    by_cases h1 : z = xi
    · simp [h1]
    · simp only [if_neg h1]
      by_cases h2 : z = xc
      · simp [h2]
      · simp only [if_neg h2]; exact hz z h1 h2
  refine restInd (fun its m nw => nw = news ∧ ∃ i, its = enumItems i (ws.drop i) ∧ i ≤ as.length ∧ as.take i = bs.take i ∧ (∀ z, z ≠ xi → z ≠ xc → m z = m₀ z)) ?_ ?_ _ _ _ ⟨rfl, 0, rfl, Nat.zero_le _, rfl, fun _ _ _ => rfl⟩
  · rintro a r m nw ⟨rfl, i, hi, hle, hpre, hz⟩ v h tk hv F₁ o ho o' ho' N₁
    have hlt : i < ws.length := by
      rcases Nat.lt_or_ge i ws.length with h | h
      · exact h
      · rw [List.drop_eq_nil_iff.mpr h] at hi; cases hi
    have hlt' : i < as.length := by omega
    obtain ⟨t, gi⟩ := strs_get hw i hlt'
    have hd : ws.drop i = .str as[i] t :: ws.drop (i + 1) := by
      rw [List.drop_eq_getElem_cons hlt]
      congr 1
      rw [List.getElem?_eq_getElem hlt] at gi
      exact Option.some.inj gi
    rw [hd] at hi
    obtain ⟨rfl, rfl⟩ := List.cons.inj hi
    rw [em m hz] at F₁
    obtain ⟨T, t', rfl, hT⟩ := hv
    refine wpAny_mono (turn i as[i] t (m xi) (m xc) _ h tk _ _ _ _ hlt' hpre (List.getElem?_eq_getElem hlt') ⟨T, t', rfl, hT⟩ F₁ N₁) (fun _ s₂ h₂ => wpAny_mono h₂ (fun f s₃ p => ?_) fun _ _ e => e) fun _ _ e => e
    have up : (∃ h' tk' m' led', s₃ = { ({ s with heap := h, toks := tk } : Shared) with heap := h', toks := tk' } ∧ Fr h₀ env.locals h' m' ∧ (∀ z, z ≠ xi → z ≠ xc → m' z = m₀ z) ∧ News h₀ env.locals h' led' ∧ (∀ p ∈ [(I + 1, o), (I, o')] ++ nw, p ∈ led') ∧ as.take (i + 1) = bs.take (i + 1)) →
        UnrEndW h₀ env.locals { s with heap := h, toks := tk } [(I + 1, o), (I, o')] (fun m' n' => SubL [(l, listOf ws.toArray n)] n' ∧ (n' = nw ∧ ∃ j, enumItems (i + 1) (ws.drop (i + 1)) = enumItems j (ws.drop j) ∧ j ≤ as.length ∧ as.take j = bs.take j ∧ (∀ z, z ≠ xi → z ≠ xc → m' z = m₀ z))) s₃ := by
      rintro ⟨h', tk', m', led', rfl, F', hz', N', hs'', hP''⟩
      refine ⟨h', tk', m', nw, rfl, F', fun p hp => N' p (hs'' p hp), ?_, ⟨hm, trivial⟩, rfl, i + 1, rfl, hlt', hP'', hz'⟩
      intro p hp q hq
      have := hI p hp
      rcases List.mem_cons.mp hq with rfl | hq
      · exact Nat.ne_of_lt (Nat.lt_succ_of_lt this)
      · rw [List.mem_singleton.mp hq]
        exact Nat.ne_of_lt this
    cases f with
    | ret v => exact p
    | brk => exact p
    | next => exact up p
    | cont => exact up p
  · rintro m nw ⟨rfl, i, hi, hle, hpre, hz⟩ h tk F₁ N₁
    have hge : as.length ≤ i := by
      rcases Nat.lt_or_ge i ws.length with h | h
      · rw [List.drop_eq_getElem_cons h] at hi; cases hi
      · omega
    obtain rfl : i = as.length := Nat.le_antisymm hle hge
    rw [List.take_length] at hpre
    rw [em m hz] at F₁
    exact done (m xi) (m xc) h tk hpre F₁ N₁
end
end
section
set_option maxRecDepth 100000
set_option maxHeartbeats 8000000
/-- what two lists of texts share ahead -/
noncomputable def pre : List Str → List Str → List Str
  | a :: r, b :: t => if a = b then a :: pre r t else []
  | _, _ => []
theorem pre_cons {a b : Str} {r t : List Str} : pre (a :: r) (b :: t) = if a = b then a :: pre r t else [] := rfl
theorem pre_nil {t : List Str} : pre [] t = [] := by cases t <;> rfl
theorem pre_stop : ∀ (as bs : List Str) (i : Nat) (y : Str), as.take i = bs.take i → as[i]? = some y → (∀ z, bs[i]? = some z → y ≠ z) → pre as bs = as.take i
  | [], _, i, y, _, h, _ => by simp at h
  | a :: r, [], i, y, hp, h, _ => by
    cases i with
    | zero => rfl
    | succ i => simp at hp
  | a :: r, b :: t, 0, y, _, h, hn => by
    have e : y = a := by simpa using h.symm
    subst e
    rw [pre_cons]
    rw [if_neg (hn b rfl)]
    rfl
  | a :: r, b :: t, i + 1, y, hp, h, hn => by
    simp only [List.take_succ_cons, List.cons.injEq] at hp
    obtain ⟨rfl, hp⟩ := hp
    rw [pre_cons]
    rw [if_pos rfl, List.take_succ_cons, pre_stop r t i y hp (by simpa using h) (by simpa using hn)]
theorem pre_all : ∀ (as bs : List Str), as = bs.take as.length → pre as bs = as
  | [], bs, _ => pre_nil
  | a :: r, [], h => by simp at h
  | a :: r, b :: t, h => by
    simp only [List.length_cons, List.take_succ_cons, List.cons.injEq] at h
    obtain ⟨rfl, h⟩ := h
    rw [pre_cons]
    rw [if_pos rfl, pre_all r t h]
theorem take_next {as bs : List Str} {i : Nat} {y z : Str} (hp : as.take i = bs.take i) (h : as[i]? = some y) (h2 : bs[i]? = some z) (e : y = z) : as.take (i + 1) = bs.take (i + 1) := by
  rw [List.take_add_one, List.take_add_one, hp, h, h2, e]
theorem lt_pre (c : Str → Str → Bool) : ∀ (p : List Str) (i : Nat), i < p.length → ordL c (fun m n => decide (m < n)) (p.take i) p = true
  | [], i, h => absurd h (Nat.not_lt_zero _)
  | a :: r, 0, _ => by rw [List.take_zero, ordL_nil]; exact decide_eq_true (Nat.succ_pos _)
  | a :: r, i + 1, h => by
    rw [List.take_succ_cons]
    rw [ordL_cons]
    rw [if_pos rfl]
    exact lt_pre c r i (by simpa using h)
theorem lt_post (c : Str → Str → Bool) : ∀ (p : List Str) (i : Nat), i ≤ p.length → ordL c (fun m n => decide (m < n)) p (p.take i) = false
  | [], i, h => by rw [List.take_nil]; rfl
  | a :: r, 0, _ => by rw [List.take_zero, ordL_nil2]; exact decide_eq_false (Nat.not_lt_zero _)
  | a :: r, i + 1, h => by
    rw [List.take_succ_cons]
    rw [ordL_cons]
    rw [if_pos rfl]
    exact lt_post c r i (by simpa using h)
theorem minmax_in {X Y : List Str} (i : Nat) (hi : i < (minL X Y).length) (hp : (minL X Y).take i = (maxL X Y).take i) : i < (maxL X Y).length := by
  refine Nat.lt_of_not_le fun hle => ?_
  rw [List.take_of_length_le hle] at hp
  revert hi hp
  unfold minL maxL
  by_cases h1 : ordL ltS (fun m n => decide (m < n)) Y X = true
  · rw [if_pos h1]
    by_cases h2 : ordL gtS (fun m n => decide (m > n)) Y X = true
    · rw [if_pos h2]
      intro hi hp
      have := congrArg List.length hp
      rw [List.length_take] at this
      omega
    · rw [if_neg h2]
      intro hi hp
      rw [← hp, lt_post ltS Y i (Nat.le_of_lt hi)] at h1
      cases h1
  · rw [if_neg h1]
    by_cases h2 : ordL gtS (fun m n => decide (m > n)) Y X = true
    · rw [if_pos h2]
      intro hi hp
      rw [← hp, lt_pre ltS X i hi] at h1
      exact absurd rfl h1
    · rw [if_neg h2]
      intro hi hp
      have := congrArg List.length hp
      rw [List.length_take] at this
      omega
theorem sum_filter (f : Str → Bool) : ∀ l : List Str, ((l.filter f).map (·.length)).sum ≤ (l.map (·.length)).sum
  | [] => Nat.le_refl _
  | a :: r => by
    rw [List.filter_cons]
    split
    · simp only [List.map_cons, List.sum_cons]
      have := sum_filter f r
      omega
    · simp only [List.map_cons, List.sum_cons]
      have := sum_filter f r
      omega
theorem sum_take (l : List Str) (k : Nat) : ((l.take k).map (·.length)).sum ≤ (l.map (·.length)).sum := by
  rw [List.map_take]
  conv => rhs; rw [← List.take_append_drop k (l.map (·.length))]
  rw [List.sum_append]; omega
theorem filt_fit {x : Str} (h : x.length < 600) : (List.filter keepF (Txt.split x (Str.ofString "/"))).length ≤ 602 ∧ ((List.filter keepF (Txt.split x (Str.ofString "/"))).map (·.length)).sum ≤ 602 := by
  have h1 := (fact_split x (Str.ofString "/")).2
  have h2 := List.length_filter_le keepF (Txt.split x (Str.ofString "/"))
  have h3 := sum_filter keepF (Txt.split x (Str.ofString "/"))
  have h4 := split_weight x (Str.ofString "/") (by decide)
  omega
theorem min_fit {X Y : List Str} (h1 : X.length ≤ 602 ∧ (X.map (·.length)).sum ≤ 602) (h2 : Y.length ≤ 602 ∧ (Y.map (·.length)).sum ≤ 602) : (minL X Y).length ≤ 602 ∧ ((minL X Y).map (·.length)).sum ≤ 602 := by
  unfold minL; split
  · exact h2
  · exact h1
theorem max_fit {X Y : List Str} (h1 : X.length ≤ 602 ∧ (X.map (·.length)).sum ≤ 602) (h2 : Y.length ≤ 602 ∧ (Y.map (·.length)).sum ≤ 602) : (maxL X Y).length ≤ 602 ∧ ((maxL X Y).map (·.length)).sum ≤ 602 := by
  unfold maxL; split
  · exact h2
  · exact h1
/-- the parts of a path that count -/
noncomputable def partsF (x : Str) : List Str := List.filter keepF (Txt.split x (Str.ofString "/"))
noncomputable def cpF (x y : Str) : Str := Str.ofString "/" ++ Txt.join (Str.ofString "/") (pre (minL (partsF x) (partsF y)) (maxL (partsF x) (partsF y)))
theorem getD_at {bs : List Str} {i : Nat} (h : i < bs.length) : bs[i]? = some (bs.getD ((i : Int)).toNat Str.empty) := by
  rw [Int.toNat_natCast, List.getD_eq_getElem?_getD, List.getElem?_eq_getElem h]; rfl
theorem joinFit (l : List Str) (h1 : l.length ≤ 602) (h2 : (l.map (·.length)).sum ≤ 602) : (Txt.join (Str.ofString "/") l).length ≤ 1204 := by
  have hj := StrLaws.join_length_le (Str.ofString "/") l
  rw [← StrLaws.glued_eq_join, show (Str.ofString "/").length = 1 from rfl, Nat.mul_one] at hj
  change (Txt.join (Str.ofString "/") _).length ≤ _ at hj
  omega
theorem joinFitT (l : List Str) (k : Nat) (h1 : l.length ≤ 602) (h2 : (l.map (·.length)).sum ≤ 602) : (Txt.join (Str.ofString "/") (l.take k)).length ≤ 1204 :=
  joinFit _ (by rw [List.length_take]; omega) (Nat.le_trans (sum_take l k) h2)
end
section
theorem calmC5 : True := by w_top off; trivial
set_option maxRecDepth 100000
set_option maxHeartbeats 8000000
set_option linter.unusedSimpArgs false
set_option hygiene false in
local macro_rules | `(tactic| k_all) => `(tactic| (intro p9 hp9; refine neN ?_; have q9 := ltN (kst_ltOf l1.2 p9 hp9); omega))
local macro_rules | `(tactic| lcg_src) => `(tactic| exact ⟨_, by k_mem, rfl, _, rfl⟩)
section
variable (w : World) (p : Program) (loose : List Str) (mean : ExcName → Option Value) (mg mb : Str → Option Value) (news : List (Addr × Obj))
theorem cp_ok (pl : Addr) (x y : Str) (t u : Tok) (hxl : x.length < 600) (hyl : y.length < 600) (hx0 : Txt.startswith x (Str.ofString "/") = true) (hy0 : Txt.startswith y (Str.ofString "/") = true) : ClS 12 w p loose mean mg mb 155 ((pl, listOf #[.str x t, .str y u] 0) :: news) True [.ref pl] (cpF x y) := by
  ((dsimp only [ClS, ClT]; k_fill; intro dp un gd cn cs a ccd cl outer A₀ base h₀ L m s Q E B0 F0 X0 N0 T0 hk hp hdp hun hret; refine wpAny_call ?_; k_dflt (refine' code_defC ?zqk1 ?zqk2 ?zqk3 ?zqk4 ?zqk5 ?zqkA ?zqkF ?zqkK ?zqk6 ?zqk7 ?zqk8 ?zqk9 ?zqkB ?zqkD ?_ ?zqc2 ?zqc3 ?zqc4; (case zqkA => exact rfl); (case zqkF => exact rfl); (case zqkK => assumption); (case zqk1 => k_asm); (case zqk2 => k_asm); (case zqk3 => k_asm); (case zqk4 => k_asm); (case zqk5 => k_asm); (case zqk6 => k_is); (case zqk7 => k_is); (case zqk8 => ktr_room); (case zqk9 => first | exact BindsTo.of_eq rfl); (case zqkB => exact rfl); (case zqkD => decide +kernel); (case zqc2 => exact rfl); (case zqc3 => exact rfl); (case zqc4 => exact rfl); k_whole; intro g' L' h' tk' cells' FG' F' N' Y' B' X' T' l1; (try k_lt l1); k_cells Y'; (try simp only [List.cons_append, List.nil_append] at N'); (try dsimp only); (try k_lift B'); (try k_fold))))
  (repeat' (first
        | (k_unfold; (try dsimp only))
        | (k_end; wrow_close)
        | ((with_reducible show wpAny _ _ (exec _ _) _ _ _); k_fold)
        | (with_reducible ((with_reducible show wpAny _ _ (subscriptTail (PySem.Expr.Name _ _) (PySem.Expr.Name _ _) (Value.ref _) (Value.int _ _)) _ _ _); (k_here; k_dflt (refine' itemL ?zqN ?zqm ?zqs ?zqy ?zqz ?zqf ?_ ?zqhs ?zqhg; (case zqN => k_asm); (case zqm => k_mem); (case zqs => with_reducible assumption); (case zqy => first | exact Nat.lt_of_lt_of_le (by with_reducible assumption) (by decide) | exact Nat.lt_of_le_of_lt (by with_reducible assumption) (by decide) | exact Nat.le_trans (by with_reducible assumption) (by decide) | omega); (case zqz => first | exact Nat.lt_of_lt_of_le (by with_reducible assumption) (by decide) | exact Nat.lt_of_le_of_lt (by with_reducible assumption) (by decide) | exact Nat.le_trans (by with_reducible assumption) (by decide) | omega); (case zqf => first | exact Nat.lt_of_lt_of_le (by with_reducible assumption) (by decide) | exact Nat.lt_of_le_of_lt (by with_reducible assumption) (by decide) | exact Nat.le_trans (by with_reducible assumption) (by decide) | omega); (case zqhs => with_unfolding_all rfl); (case zqhg => (intro _; with_unfolding_all rfl))); intro _; (try dsimp only))))
        | (with_reducible ((with_reducible show wpAny _ _ (exec (Stmt.For _ _ _ _ _) _) _ _ _); (k_here; (rename Fr _ _ _ _ => lF'q); (with_unfolding_all refine' For_turns lF'q ?_; k_whole))))
        | (with_reducible ((with_reducible show wpAny _ _ (call (Value.builtin "max") _ _) _ _ _); (k_here; k_dflt (refine' maxPick ?zqhh ?zqhun ?zqF ?zqN ?zqa ?zqp ?zqq ?zqus ?zqvs ?_; (case zqhh => rfl); (case zqhun => ktr_units); (case zqF => k_asm); (case zqN => k_asm); (case zqa => k_mem); (case zqp => k_mem); (case zqq => k_mem); (case zqus => assumption); (case zqvs => assumption)); intro r9q ws9q n9q h9q tk9q F9q N9q S9q; (try dsimp only))))
        | (with_reducible ((with_reducible show wpAny _ _ (call (Value.builtin "min") _ _) _ _ _); (k_here; k_dflt (refine' minPick ?zqhh ?zqhun ?zqF ?zqN ?zqa ?zqp ?zqq ?zqus ?zqvs ?_; (case zqhh => rfl); (case zqhun => ktr_units); (case zqF => k_asm); (case zqN => k_asm); (case zqa => k_mem); (case zqp => k_mem); (case zqq => k_mem); (case zqus => assumption); (case zqvs => assumption)); intro r9q ws9q n9q h9q tk9q F9q N9q S9q; (try dsimp only))))
        | (with_reducible ((with_reducible show wpAny _ _ (eval (PySem.Expr.ListComp _ _ _ _) _) _ _ _); (k_here; k_dflt (refine LCt.ListComp_T (F₀ := by k_asm) (by with_unfolding_all rfl) (by decide) (by rfl) (by decide) (by rfl) ?_); walk1; k_dflt (refine' LCt.CompSrcT.ledger ?zqa ?zqF ?zqN ?zqm ?zqz ?_; (case zqa => rfl); (case zqF => k_asm); (case zqN => k_asm); (case zqm => k_mem); (case zqz => exact splitSize (by assumption) (by assumption) (by assumption))); intro g9q; k_dflt (refine' filterRest (keep := keepF) ?zqs ?zqb ?zqS ?zqk ?zql ?zqx ?zqt ?_; (case zqs => assumption); (case zqb => first | exact lenBound (by assumption) (by assumption) | fail); (case zqS => lcg_src); (case zqk => rfl); (case zql => (intro _; rfl)); (case zqx => decide); (case zqt => (intro v9q t9q I9q oI9q C9q oC9q D9q oD9q m9q h9q tk9q E9q hb9q hC9q hx9q F9q N9q; ((k_steps; (all_goals (refine' TestOne.intro ?zqb ?zqF ?zqN; (case zqF => k_asm); (case zqN => k_asm); (case zqb => first | exact kp1 (by with_reducible assumption) (by with_reducible assumption) | exact kp2 (by with_reducible assumption) | exact kp3 (by with_reducible assumption))))))))); intro ys9q hys9q)))
        | (with_reducible ((with_reducible show wpAny _ _ (assign (PySem.Expr.Tuple _ _ _) _ _) _ _ _); (k_here; (with_reducible show wpAny _ _ (assign (Expr.Tuple [_] _ _) _ _) _ _ _); k_dflt (refine' assignSet1 ?zqa ?zqF ?zqN ?zqe ?zqm ?zqhy ?zqhp ?_; (case zqa => rfl); (case zqF => k_asm); (case zqN => k_asm); (case zqe => rfl); (case zqm => k_mem); (case zqhy => rfl); (case zqhp => rfl)); intro h9q tk9q F9q N9q; (try dsimp only))))
        | (with_reducible ((with_reducible show wpAny _ _ (eval (PySem.Expr.SetComp _ _ _ _) _) _ _ _); (k_here; k_dflt (refine setComp (F₀ := by k_asm) (by with_unfolding_all rfl) (by decide) (by rfl) (by decide) (by rfl) ?_); walk1; k_dflt (refine' SrcSet.ledger ?zqa ?zqF ?zqN ?zqm ?zqt ?_; (case zqa => rfl); (case zqF => k_asm); (case zqN => k_asm); (case zqm => k_mem); (case zqt => (intro g9q v9q hv9q I9q oI9q C9q oC9q D9q oD9q m9q h9q tk9q E9q hC9q hx9q F9q N9q; (rcases List.mem_cons.mp hv9q with e9q | e9q); (subst e9q; (((k_steps; (refine' SetOne.intro ?zqb ?zqF ?zqN; (case zqF => k_asm); (case zqN => k_asm); (case zqb => (with_reducible assumption))))))); (rcases List.mem_cons.mp e9q with e8q | e8q); (subst e8q; (((k_steps; (refine' SetOne.intro ?zqb ?zqF ?zqN; (case zqF => k_asm); (case zqN => k_asm); (case zqb => (with_reducible assumption))))))); cases e8q))))))
        | ((with_reducible show LCg.CompEnd _ _ _ _ _ _ _ _ _ _ _ _ _ _); (first | (refine' compEnd1 ?zqN ?zqN1 ?zqF ?zqo ?zqS ?_; (case zqN => k_asm); (case zqN1 => k_asm); (case zqF => k_asm); (case zqo => k_asm); (case zqS => lcg_src)) | (refine' compEnd2 ?zqN ?zqo1 ?zqF ?zqo ?zqS ?_; (case zqN => k_asm); (case zqo1 => k_asm); (case zqF => k_asm); (case zqo => k_asm); (case zqS => lcg_src))))
        | (with_reducible ((with_reducible show wpAny _ _ (exec (Stmt.Assign _ (PySem.Expr.ListComp _ _ _ _) _) _) _ _ _); (k_here; k_dflt (refine assignTup (F₀ := by k_asm) (by rfl) (by with_unfolding_all rfl) (by with_unfolding_all rfl) (by decide) (by rfl) (by decide) (by rfl) (by rfl) (by rfl) ?_); walk1; k_dflt (refine SrcTup.ledger (by rfl) (by k_asm) (by k_asm) (by k_mem) (by first | size_fits | exact Nat.le_of_ble_eq_true rfl) ?_; intro g'q; lcg_lit))))
        | (with_reducible ((with_reducible show wpAny _ _ (exec (Stmt.Try _ _ _ _ _) _) _ _ _); (k_here; (with_reducible show wpAny _ _ (exec (Stmt.Try _ (_ :: _) _ [] _) _) _ _ _); refine wpAny_Try_except ?_)))
        | (with_reducible ((with_reducible show wpAny _ _ (call (Value.type "tuple") _ _) _ _ _); (k_here; k_dflt (refine' tupMap ?zqk1 ?zqk2 ?zqk3 ?zqk5 ?zqkK ?zqk4 ?zqm ?zqne ?zql1 ?zql2 ?zqus ?zqkd ?zqku ?zqz ?_; (case zqk1 => k_asm); (case zqk2 => k_asm); (case zqk3 => k_asm); (case zqk5 => k_asm); (case zqkK => first | exact rfl | assumption); (case zqk4 => k_asm); (case zqm => k_mem); (case zqne => refine kst_ltOf ?_; assumption); (case zql1 => first | exact Nat.lt_of_lt_of_le (by with_reducible assumption) (by decide) | exact Nat.lt_of_le_of_lt (by with_reducible assumption) (by decide) | exact Nat.le_trans (by with_reducible assumption) (by decide) | omega); (case zql2 => first | exact Nat.lt_of_lt_of_le (by with_reducible assumption) (by decide) | exact Nat.lt_of_le_of_lt (by with_reducible assumption) (by decide) | exact Nat.le_trans (by with_reducible assumption) (by decide) | omega); (case zqus => exact StrsAre.cons _ _ (StrsAre.cons _ _ StrsAre.nil)); (case zqkd => ktr_room); (case zqku => ktr_units); (case zqz => ((show (2 : Nat) ≤ 1000); decide))); intro D9q h9q tk9q us9q F9q N9q S9q l9q; (obtain ⟨t7q, u7q, e7q⟩ := strs2 S9q; subst e7q; clear S9q); (try k_lt l9q); (try dsimp only))))
        | (with_reducible ((with_reducible show wpAny _ _ (call (Value.type "map") _ _) _ _ _); (k_here; k_dflt (refine' mapCall ?zqF ?zqN ?zqm ?_; (case zqF => k_asm); (case zqN => k_asm); (case zqm => k_mem)); intro z9q TI9q it9q h9q F9q N9q l9q l8q l7q; (try k_lt l9q); (try dsimp only))))
        | (with_reducible ((with_reducible show wpAny _ _ (subscriptTail (PySem.Expr.Name _ _) _ (Value.ref _) (Value.ref _)) _ _ _); (k_here; (with_reducible show wpAny _ _ (subscriptTail _ (PySem.Expr.Slice none _ none _) (Value.ref _) (Value.ref _)) _ _ _); k_dflt (refine' uptoL ?zqF ?zqN ?zqm ?zqs ?zqy ?zqz ?_ ?zqhs ?zqhg; (case zqF => k_asm); (case zqN => k_asm); (case zqm => k_mem); (case zqs => assumption); (case zqy => first | exact Nat.lt_of_lt_of_le (by with_reducible assumption) (by decide) | exact Nat.lt_of_le_of_lt (by with_reducible assumption) (by decide) | exact Nat.le_trans (by with_reducible assumption) (by decide) | omega); (case zqz => first | exact Nat.lt_of_lt_of_le (by with_reducible assumption) (by decide) | exact Nat.lt_of_le_of_lt (by with_reducible assumption) (by decide) | exact Nat.le_trans (by with_reducible assumption) (by decide) | omega); (case zqhs => with_unfolding_all rfl); (case zqhg => (intro _; with_unfolding_all rfl))); intro D9q h9q F9q N9q S9q l9q; (try k_lt l9q); (try dsimp only))))
        | (with_reducible ((with_reducible show wpAny _ _ (call (Value.builtin "str.join") _ _) _ _ _); (k_here; (with_reducible show wpAny _ _ (call (Value.builtin "str.join") [Value.str _ _, Value.ref _]) _ _ _); k_dflt (refine' joinL ?zqN ?zqm ?zqs ?zqx ?zqw ?zqz ?_; (case zqN => k_asm); (case zqm => k_mem); (case zqs => with_reducible assumption); (case zqx => decide); (case zqw => first | exact Nat.lt_of_lt_of_le (by with_reducible assumption) (by decide) | exact Nat.lt_of_le_of_lt (by with_reducible assumption) (by decide) | exact Nat.le_trans (by with_reducible assumption) (by decide) | omega | exact Nat.le_trans (sum_take _ _) (by omega)); (case zqz => first | exact Nat.lt_of_lt_of_le (by with_reducible assumption) (by decide) | exact Nat.lt_of_le_of_lt (by with_reducible assumption) (by decide) | exact Nat.le_trans (by with_reducible assumption) (by decide) | omega | (rw [List.length_take]; omega))); intro _ _; (try dsimp only))))
        | walk1
        | (dsimp only; walk1)
        | (leave1; (try dsimp only))
        | fail "no step"))
  rename List.map _ _ = Txt.split x _ => eX
  rename List.map _ _ = Txt.split y _ => eY
  rename StrsAre _ (minL _ _) => sA
  rename StrsAre _ (maxL _ _) => sB
  rw [eX, eY] at sA sB
  have fA := min_fit (filt_fit hxl) (filt_fit hyl)
  have fB := max_fit (filt_fit hxl) (filt_fit hyl)
  have fI := fun i => @minmax_in (List.filter keepF (Txt.split x (Str.ofString "/"))) (List.filter keepF (Txt.split y (Str.ofString "/"))) i
  have eC : ∀ z, z = pre (minL (List.filter keepF (Txt.split x (Str.ofString "/"))) (List.filter keepF (Txt.split y (Str.ofString "/")))) (maxL (List.filter keepF (Txt.split x (Str.ofString "/"))) (List.filter keepF (Txt.split y (Str.ofString "/")))) → Str.ofString "/" ++ Txt.join (Str.ofString "/") z = cpF x y := fun z e => by rw [e]; rfl
  generalize minL (List.filter keepF (Txt.split x (Str.ofString "/"))) (List.filter keepF (Txt.split y (Str.ofString "/"))) = As at sA fA fI eC
  generalize maxL (List.filter keepF (Txt.split x (Str.ofString "/"))) (List.filter keepF (Txt.split y (Str.ofString "/"))) = Bs at sB fB fI eC
  rename News _ _ _ _ => nN
  rename Fr _ _ _ _ => nF
  with_unfolding_all refine' enumLoop (bs := Bs) (xi := Str.ofString "i") (xc := Str.ofString "c") ?h1 ?hh ?F ?N ?hm sA ?_ ?_
  case h1 => decide
  case hh => rfl
  case F => exact nF
  case N => exact nN
  case hm => k_mem
  · clear nN nF
    intro i y9 t9 ui uc v h9 tk9 I1 I2 o1 o2 hi hpre hg hT F9 N9
    obtain ⟨T9, t8, rfl, hT⟩ := hT
    have hib := fI i hi hpre
    have hgb := getD_at hib
    have hJ := joinFitT As ((i : Int)).toNat fA.1 fA.2
    (repeat' (first
        | (k_unfold; (try dsimp only))
        | (k_end; wrow_close)
        | ((with_reducible show wpAny _ _ (exec _ _) _ _ _); k_fold)
        | (with_reducible ((with_reducible show wpAny _ _ (subscriptTail (PySem.Expr.Name _ _) (PySem.Expr.Name _ _) (Value.ref _) (Value.int _ _)) _ _ _); (k_here; k_dflt (refine' itemL ?zqN ?zqm ?zqs ?zqy ?zqz ?zqf ?_ ?zqhs ?zqhg; (case zqN => k_asm); (case zqm => k_mem); (case zqs => with_reducible assumption); (case zqy => first | exact Nat.lt_of_lt_of_le (by with_reducible assumption) (by decide) | exact Nat.lt_of_le_of_lt (by with_reducible assumption) (by decide) | exact Nat.le_trans (by with_reducible assumption) (by decide) | omega); (case zqz => first | exact Nat.lt_of_lt_of_le (by with_reducible assumption) (by decide) | exact Nat.lt_of_le_of_lt (by with_reducible assumption) (by decide) | exact Nat.le_trans (by with_reducible assumption) (by decide) | omega); (case zqf => first | exact Nat.lt_of_lt_of_le (by with_reducible assumption) (by decide) | exact Nat.lt_of_le_of_lt (by with_reducible assumption) (by decide) | exact Nat.le_trans (by with_reducible assumption) (by decide) | omega); (case zqhs => with_unfolding_all rfl); (case zqhg => (intro _; with_unfolding_all rfl))); intro _; (try dsimp only))))
        | (with_reducible ((with_reducible show wpAny _ _ (exec (Stmt.For _ _ _ _ _) _) _ _ _); (k_here; (rename Fr _ _ _ _ => lF'q); (with_unfolding_all refine' For_turns lF'q ?_; k_whole))))
        | (with_reducible ((with_reducible show wpAny _ _ (call (Value.builtin "max") _ _) _ _ _); (k_here; k_dflt (refine' maxPick ?zqhh ?zqhun ?zqF ?zqN ?zqa ?zqp ?zqq ?zqus ?zqvs ?_; (case zqhh => rfl); (case zqhun => ktr_units); (case zqF => k_asm); (case zqN => k_asm); (case zqa => k_mem); (case zqp => k_mem); (case zqq => k_mem); (case zqus => assumption); (case zqvs => assumption)); intro r9q ws9q n9q h9q tk9q F9q N9q S9q; (try dsimp only))))
        | (with_reducible ((with_reducible show wpAny _ _ (call (Value.builtin "min") _ _) _ _ _); (k_here; k_dflt (refine' minPick ?zqhh ?zqhun ?zqF ?zqN ?zqa ?zqp ?zqq ?zqus ?zqvs ?_; (case zqhh => rfl); (case zqhun => ktr_units); (case zqF => k_asm); (case zqN => k_asm); (case zqa => k_mem); (case zqp => k_mem); (case zqq => k_mem); (case zqus => assumption); (case zqvs => assumption)); intro r9q ws9q n9q h9q tk9q F9q N9q S9q; (try dsimp only))))
        | (with_reducible ((with_reducible show wpAny _ _ (eval (PySem.Expr.ListComp _ _ _ _) _) _ _ _); (k_here; k_dflt (refine LCt.ListComp_T (F₀ := by k_asm) (by with_unfolding_all rfl) (by decide) (by rfl) (by decide) (by rfl) ?_); walk1; k_dflt (refine' LCt.CompSrcT.ledger ?zqa ?zqF ?zqN ?zqm ?zqz ?_; (case zqa => rfl); (case zqF => k_asm); (case zqN => k_asm); (case zqm => k_mem); (case zqz => exact splitSize (by assumption) (by assumption) (by assumption))); intro g9q; k_dflt (refine' filterRest (keep := keepF) ?zqs ?zqb ?zqS ?zqk ?zql ?zqx ?zqt ?_; (case zqs => assumption); (case zqb => first | exact lenBound (by assumption) (by assumption) | fail); (case zqS => lcg_src); (case zqk => rfl); (case zql => (intro _; rfl)); (case zqx => decide); (case zqt => (intro v9q t9q I9q oI9q C9q oC9q D9q oD9q m9q h9q tk9q E9q hb9q hC9q hx9q F9q N9q; ((k_steps; (all_goals (refine' TestOne.intro ?zqb ?zqF ?zqN; (case zqF => k_asm); (case zqN => k_asm); (case zqb => first | exact kp1 (by with_reducible assumption) (by with_reducible assumption) | exact kp2 (by with_reducible assumption) | exact kp3 (by with_reducible assumption))))))))); intro ys9q hys9q)))
        | (with_reducible ((with_reducible show wpAny _ _ (assign (PySem.Expr.Tuple _ _ _) _ _) _ _ _); (k_here; (with_reducible show wpAny _ _ (assign (Expr.Tuple [_] _ _) _ _) _ _ _); k_dflt (refine' assignSet1 ?zqa ?zqF ?zqN ?zqe ?zqm ?zqhy ?zqhp ?_; (case zqa => rfl); (case zqF => k_asm); (case zqN => k_asm); (case zqe => rfl); (case zqm => k_mem); (case zqhy => rfl); (case zqhp => rfl)); intro h9q tk9q F9q N9q; (try dsimp only))))
        | (with_reducible ((with_reducible show wpAny _ _ (eval (PySem.Expr.SetComp _ _ _ _) _) _ _ _); (k_here; k_dflt (refine setComp (F₀ := by k_asm) (by with_unfolding_all rfl) (by decide) (by rfl) (by decide) (by rfl) ?_); walk1; k_dflt (refine' SrcSet.ledger ?zqa ?zqF ?zqN ?zqm ?zqt ?_; (case zqa => rfl); (case zqF => k_asm); (case zqN => k_asm); (case zqm => k_mem); (case zqt => (intro g9q v9q hv9q I9q oI9q C9q oC9q D9q oD9q m9q h9q tk9q E9q hC9q hx9q F9q N9q; (rcases List.mem_cons.mp hv9q with e9q | e9q); (subst e9q; (((k_steps; (refine' SetOne.intro ?zqb ?zqF ?zqN; (case zqF => k_asm); (case zqN => k_asm); (case zqb => (with_reducible assumption))))))); (rcases List.mem_cons.mp e9q with e8q | e8q); (subst e8q; (((k_steps; (refine' SetOne.intro ?zqb ?zqF ?zqN; (case zqF => k_asm); (case zqN => k_asm); (case zqb => (with_reducible assumption))))))); cases e8q))))))
        | ((with_reducible show LCg.CompEnd _ _ _ _ _ _ _ _ _ _ _ _ _ _); (first | (refine' compEnd1 ?zqN ?zqN1 ?zqF ?zqo ?zqS ?_; (case zqN => k_asm); (case zqN1 => k_asm); (case zqF => k_asm); (case zqo => k_asm); (case zqS => lcg_src)) | (refine' compEnd2 ?zqN ?zqo1 ?zqF ?zqo ?zqS ?_; (case zqN => k_asm); (case zqo1 => k_asm); (case zqF => k_asm); (case zqo => k_asm); (case zqS => lcg_src))))
        | (with_reducible ((with_reducible show wpAny _ _ (exec (Stmt.Assign _ (PySem.Expr.ListComp _ _ _ _) _) _) _ _ _); (k_here; k_dflt (refine assignTup (F₀ := by k_asm) (by rfl) (by with_unfolding_all rfl) (by with_unfolding_all rfl) (by decide) (by rfl) (by decide) (by rfl) (by rfl) (by rfl) ?_); walk1; k_dflt (refine SrcTup.ledger (by rfl) (by k_asm) (by k_asm) (by k_mem) (by first | size_fits | exact Nat.le_of_ble_eq_true rfl) ?_; intro g'q; lcg_lit))))
        | (with_reducible ((with_reducible show wpAny _ _ (exec (Stmt.Try _ _ _ _ _) _) _ _ _); (k_here; (with_reducible show wpAny _ _ (exec (Stmt.Try _ (_ :: _) _ [] _) _) _ _ _); refine wpAny_Try_except ?_)))
        | (with_reducible ((with_reducible show wpAny _ _ (call (Value.type "tuple") _ _) _ _ _); (k_here; k_dflt (refine' tupMap ?zqk1 ?zqk2 ?zqk3 ?zqk5 ?zqkK ?zqk4 ?zqm ?zqne ?zql1 ?zql2 ?zqus ?zqkd ?zqku ?zqz ?_; (case zqk1 => k_asm); (case zqk2 => k_asm); (case zqk3 => k_asm); (case zqk5 => k_asm); (case zqkK => first | exact rfl | assumption); (case zqk4 => k_asm); (case zqm => k_mem); (case zqne => refine kst_ltOf ?_; assumption); (case zql1 => first | exact Nat.lt_of_lt_of_le (by with_reducible assumption) (by decide) | exact Nat.lt_of_le_of_lt (by with_reducible assumption) (by decide) | exact Nat.le_trans (by with_reducible assumption) (by decide) | omega); (case zql2 => first | exact Nat.lt_of_lt_of_le (by with_reducible assumption) (by decide) | exact Nat.lt_of_le_of_lt (by with_reducible assumption) (by decide) | exact Nat.le_trans (by with_reducible assumption) (by decide) | omega); (case zqus => exact StrsAre.cons _ _ (StrsAre.cons _ _ StrsAre.nil)); (case zqkd => ktr_room); (case zqku => ktr_units); (case zqz => ((show (2 : Nat) ≤ 1000); decide))); intro D9q h9q tk9q us9q F9q N9q S9q l9q; (obtain ⟨t7q, u7q, e7q⟩ := strs2 S9q; subst e7q; clear S9q); (try k_lt l9q); (try dsimp only))))
        | (with_reducible ((with_reducible show wpAny _ _ (call (Value.type "map") _ _) _ _ _); (k_here; k_dflt (refine' mapCall ?zqF ?zqN ?zqm ?_; (case zqF => k_asm); (case zqN => k_asm); (case zqm => k_mem)); intro z9q TI9q it9q h9q F9q N9q l9q l8q l7q; (try k_lt l9q); (try dsimp only))))
        | (with_reducible ((with_reducible show wpAny _ _ (subscriptTail (PySem.Expr.Name _ _) _ (Value.ref _) (Value.ref _)) _ _ _); (k_here; (with_reducible show wpAny _ _ (subscriptTail _ (PySem.Expr.Slice none _ none _) (Value.ref _) (Value.ref _)) _ _ _); k_dflt (refine' uptoL ?zqF ?zqN ?zqm ?zqs ?zqy ?zqz ?_ ?zqhs ?zqhg; (case zqF => k_asm); (case zqN => k_asm); (case zqm => k_mem); (case zqs => assumption); (case zqy => first | exact Nat.lt_of_lt_of_le (by with_reducible assumption) (by decide) | exact Nat.lt_of_le_of_lt (by with_reducible assumption) (by decide) | exact Nat.le_trans (by with_reducible assumption) (by decide) | omega); (case zqz => first | exact Nat.lt_of_lt_of_le (by with_reducible assumption) (by decide) | exact Nat.lt_of_le_of_lt (by with_reducible assumption) (by decide) | exact Nat.le_trans (by with_reducible assumption) (by decide) | omega); (case zqhs => with_unfolding_all rfl); (case zqhg => (intro _; with_unfolding_all rfl))); intro D9q h9q F9q N9q S9q l9q; (try k_lt l9q); (try dsimp only))))
        | (with_reducible ((with_reducible show wpAny _ _ (call (Value.builtin "str.join") _ _) _ _ _); (k_here; (with_reducible show wpAny _ _ (call (Value.builtin "str.join") [Value.str _ _, Value.ref _]) _ _ _); k_dflt (refine' joinL ?zqN ?zqm ?zqs ?zqx ?zqw ?zqz ?_; (case zqN => k_asm); (case zqm => k_mem); (case zqs => with_reducible assumption); (case zqx => decide); (case zqw => first | exact Nat.lt_of_lt_of_le (by with_reducible assumption) (by decide) | exact Nat.lt_of_le_of_lt (by with_reducible assumption) (by decide) | exact Nat.le_trans (by with_reducible assumption) (by decide) | omega | exact Nat.le_trans (sum_take _ _) (by omega)); (case zqz => first | exact Nat.lt_of_lt_of_le (by with_reducible assumption) (by decide) | exact Nat.lt_of_le_of_lt (by with_reducible assumption) (by decide) | exact Nat.le_trans (by with_reducible assumption) (by decide) | omega | (rw [List.length_take]; omega))); intro _ _; (try dsimp only))))
        | walk1
        | (dsimp only; walk1)
        | (leave1; (try dsimp only))
        | fail "no step"))
    · (try dsimp only)
      unfold EPost
      (try dsimp only)
      (repeat' (first
        | (k_unfold; (try dsimp only))
        | (k_end; wrow_close)
        | ((with_reducible show wpAny _ _ (exec _ _) _ _ _); k_fold)
        | (with_reducible ((with_reducible show wpAny _ _ (subscriptTail (PySem.Expr.Name _ _) (PySem.Expr.Name _ _) (Value.ref _) (Value.int _ _)) _ _ _); (k_here; k_dflt (refine' itemL ?zqN ?zqm ?zqs ?zqy ?zqz ?zqf ?_ ?zqhs ?zqhg; (case zqN => k_asm); (case zqm => k_mem); (case zqs => with_reducible assumption); (case zqy => first | exact Nat.lt_of_lt_of_le (by with_reducible assumption) (by decide) | exact Nat.lt_of_le_of_lt (by with_reducible assumption) (by decide) | exact Nat.le_trans (by with_reducible assumption) (by decide) | omega); (case zqz => first | exact Nat.lt_of_lt_of_le (by with_reducible assumption) (by decide) | exact Nat.lt_of_le_of_lt (by with_reducible assumption) (by decide) | exact Nat.le_trans (by with_reducible assumption) (by decide) | omega); (case zqf => first | exact Nat.lt_of_lt_of_le (by with_reducible assumption) (by decide) | exact Nat.lt_of_le_of_lt (by with_reducible assumption) (by decide) | exact Nat.le_trans (by with_reducible assumption) (by decide) | omega); (case zqhs => with_unfolding_all rfl); (case zqhg => (intro _; with_unfolding_all rfl))); intro _; (try dsimp only))))
        | (with_reducible ((with_reducible show wpAny _ _ (exec (Stmt.For _ _ _ _ _) _) _ _ _); (k_here; (rename Fr _ _ _ _ => lF'q); (with_unfolding_all refine' For_turns lF'q ?_; k_whole))))
        | (with_reducible ((with_reducible show wpAny _ _ (call (Value.builtin "max") _ _) _ _ _); (k_here; k_dflt (refine' maxPick ?zqhh ?zqhun ?zqF ?zqN ?zqa ?zqp ?zqq ?zqus ?zqvs ?_; (case zqhh => rfl); (case zqhun => ktr_units); (case zqF => k_asm); (case zqN => k_asm); (case zqa => k_mem); (case zqp => k_mem); (case zqq => k_mem); (case zqus => assumption); (case zqvs => assumption)); intro r9q ws9q n9q h9q tk9q F9q N9q S9q; (try dsimp only))))
        | (with_reducible ((with_reducible show wpAny _ _ (call (Value.builtin "min") _ _) _ _ _); (k_here; k_dflt (refine' minPick ?zqhh ?zqhun ?zqF ?zqN ?zqa ?zqp ?zqq ?zqus ?zqvs ?_; (case zqhh => rfl); (case zqhun => ktr_units); (case zqF => k_asm); (case zqN => k_asm); (case zqa => k_mem); (case zqp => k_mem); (case zqq => k_mem); (case zqus => assumption); (case zqvs => assumption)); intro r9q ws9q n9q h9q tk9q F9q N9q S9q; (try dsimp only))))
        | (with_reducible ((with_reducible show wpAny _ _ (eval (PySem.Expr.ListComp _ _ _ _) _) _ _ _); (k_here; k_dflt (refine LCt.ListComp_T (F₀ := by k_asm) (by with_unfolding_all rfl) (by decide) (by rfl) (by decide) (by rfl) ?_); walk1; k_dflt (refine' LCt.CompSrcT.ledger ?zqa ?zqF ?zqN ?zqm ?zqz ?_; (case zqa => rfl); (case zqF => k_asm); (case zqN => k_asm); (case zqm => k_mem); (case zqz => exact splitSize (by assumption) (by assumption) (by assumption))); intro g9q; k_dflt (refine' filterRest (keep := keepF) ?zqs ?zqb ?zqS ?zqk ?zql ?zqx ?zqt ?_; (case zqs => assumption); (case zqb => first | exact lenBound (by assumption) (by assumption) | fail); (case zqS => lcg_src); (case zqk => rfl); (case zql => (intro _; rfl)); (case zqx => decide); (case zqt => (intro v9q t9q I9q oI9q C9q oC9q D9q oD9q m9q h9q tk9q E9q hb9q hC9q hx9q F9q N9q; ((k_steps; (all_goals (refine' TestOne.intro ?zqb ?zqF ?zqN; (case zqF => k_asm); (case zqN => k_asm); (case zqb => first | exact kp1 (by with_reducible assumption) (by with_reducible assumption) | exact kp2 (by with_reducible assumption) | exact kp3 (by with_reducible assumption))))))))); intro ys9q hys9q)))
        | (with_reducible ((with_reducible show wpAny _ _ (assign (PySem.Expr.Tuple _ _ _) _ _) _ _ _); (k_here; (with_reducible show wpAny _ _ (assign (Expr.Tuple [_] _ _) _ _) _ _ _); k_dflt (refine' assignSet1 ?zqa ?zqF ?zqN ?zqe ?zqm ?zqhy ?zqhp ?_; (case zqa => rfl); (case zqF => k_asm); (case zqN => k_asm); (case zqe => rfl); (case zqm => k_mem); (case zqhy => rfl); (case zqhp => rfl)); intro h9q tk9q F9q N9q; (try dsimp only))))
        | (with_reducible ((with_reducible show wpAny _ _ (eval (PySem.Expr.SetComp _ _ _ _) _) _ _ _); (k_here; k_dflt (refine setComp (F₀ := by k_asm) (by with_unfolding_all rfl) (by decide) (by rfl) (by decide) (by rfl) ?_); walk1; k_dflt (refine' SrcSet.ledger ?zqa ?zqF ?zqN ?zqm ?zqt ?_; (case zqa => rfl); (case zqF => k_asm); (case zqN => k_asm); (case zqm => k_mem); (case zqt => (intro g9q v9q hv9q I9q oI9q C9q oC9q D9q oD9q m9q h9q tk9q E9q hC9q hx9q F9q N9q; (rcases List.mem_cons.mp hv9q with e9q | e9q); (subst e9q; (((k_steps; (refine' SetOne.intro ?zqb ?zqF ?zqN; (case zqF => k_asm); (case zqN => k_asm); (case zqb => (with_reducible assumption))))))); (rcases List.mem_cons.mp e9q with e8q | e8q); (subst e8q; (((k_steps; (refine' SetOne.intro ?zqb ?zqF ?zqN; (case zqF => k_asm); (case zqN => k_asm); (case zqb => (with_reducible assumption))))))); cases e8q))))))
        | ((with_reducible show LCg.CompEnd _ _ _ _ _ _ _ _ _ _ _ _ _ _); (first | (refine' compEnd1 ?zqN ?zqN1 ?zqF ?zqo ?zqS ?_; (case zqN => k_asm); (case zqN1 => k_asm); (case zqF => k_asm); (case zqo => k_asm); (case zqS => lcg_src)) | (refine' compEnd2 ?zqN ?zqo1 ?zqF ?zqo ?zqS ?_; (case zqN => k_asm); (case zqo1 => k_asm); (case zqF => k_asm); (case zqo => k_asm); (case zqS => lcg_src))))
        | (with_reducible ((with_reducible show wpAny _ _ (exec (Stmt.Assign _ (PySem.Expr.ListComp _ _ _ _) _) _) _ _ _); (k_here; k_dflt (refine assignTup (F₀ := by k_asm) (by rfl) (by with_unfolding_all rfl) (by with_unfolding_all rfl) (by decide) (by rfl) (by decide) (by rfl) (by rfl) (by rfl) ?_); walk1; k_dflt (refine SrcTup.ledger (by rfl) (by k_asm) (by k_asm) (by k_mem) (by first | size_fits | exact Nat.le_of_ble_eq_true rfl) ?_; intro g'q; lcg_lit))))
        | (with_reducible ((with_reducible show wpAny _ _ (exec (Stmt.Try _ _ _ _ _) _) _ _ _); (k_here; (with_reducible show wpAny _ _ (exec (Stmt.Try _ (_ :: _) _ [] _) _) _ _ _); refine wpAny_Try_except ?_)))
        | (with_reducible ((with_reducible show wpAny _ _ (call (Value.type "tuple") _ _) _ _ _); (k_here; k_dflt (refine' tupMap ?zqk1 ?zqk2 ?zqk3 ?zqk5 ?zqkK ?zqk4 ?zqm ?zqne ?zql1 ?zql2 ?zqus ?zqkd ?zqku ?zqz ?_; (case zqk1 => k_asm); (case zqk2 => k_asm); (case zqk3 => k_asm); (case zqk5 => k_asm); (case zqkK => first | exact rfl | assumption); (case zqk4 => k_asm); (case zqm => k_mem); (case zqne => refine kst_ltOf ?_; assumption); (case zql1 => first | exact Nat.lt_of_lt_of_le (by with_reducible assumption) (by decide) | exact Nat.lt_of_le_of_lt (by with_reducible assumption) (by decide) | exact Nat.le_trans (by with_reducible assumption) (by decide) | omega); (case zql2 => first | exact Nat.lt_of_lt_of_le (by with_reducible assumption) (by decide) | exact Nat.lt_of_le_of_lt (by with_reducible assumption) (by decide) | exact Nat.le_trans (by with_reducible assumption) (by decide) | omega); (case zqus => exact StrsAre.cons _ _ (StrsAre.cons _ _ StrsAre.nil)); (case zqkd => ktr_room); (case zqku => ktr_units); (case zqz => ((show (2 : Nat) ≤ 1000); decide))); intro D9q h9q tk9q us9q F9q N9q S9q l9q; (obtain ⟨t7q, u7q, e7q⟩ := strs2 S9q; subst e7q; clear S9q); (try k_lt l9q); (try dsimp only))))
        | (with_reducible ((with_reducible show wpAny _ _ (call (Value.type "map") _ _) _ _ _); (k_here; k_dflt (refine' mapCall ?zqF ?zqN ?zqm ?_; (case zqF => k_asm); (case zqN => k_asm); (case zqm => k_mem)); intro z9q TI9q it9q h9q F9q N9q l9q l8q l7q; (try k_lt l9q); (try dsimp only))))
        | (with_reducible ((with_reducible show wpAny _ _ (subscriptTail (PySem.Expr.Name _ _) _ (Value.ref _) (Value.ref _)) _ _ _); (k_here; (with_reducible show wpAny _ _ (subscriptTail _ (PySem.Expr.Slice none _ none _) (Value.ref _) (Value.ref _)) _ _ _); k_dflt (refine' uptoL ?zqF ?zqN ?zqm ?zqs ?zqy ?zqz ?_ ?zqhs ?zqhg; (case zqF => k_asm); (case zqN => k_asm); (case zqm => k_mem); (case zqs => assumption); (case zqy => first | exact Nat.lt_of_lt_of_le (by with_reducible assumption) (by decide) | exact Nat.lt_of_le_of_lt (by with_reducible assumption) (by decide) | exact Nat.le_trans (by with_reducible assumption) (by decide) | omega); (case zqz => first | exact Nat.lt_of_lt_of_le (by with_reducible assumption) (by decide) | exact Nat.lt_of_le_of_lt (by with_reducible assumption) (by decide) | exact Nat.le_trans (by with_reducible assumption) (by decide) | omega); (case zqhs => with_unfolding_all rfl); (case zqhg => (intro _; with_unfolding_all rfl))); intro D9q h9q F9q N9q S9q l9q; (try k_lt l9q); (try dsimp only))))
        | (with_reducible ((with_reducible show wpAny _ _ (call (Value.builtin "str.join") _ _) _ _ _); (k_here; (with_reducible show wpAny _ _ (call (Value.builtin "str.join") [Value.str _ _, Value.ref _]) _ _ _); k_dflt (refine' joinL ?zqN ?zqm ?zqs ?zqx ?zqw ?zqz ?_; (case zqN => k_asm); (case zqm => k_mem); (case zqs => with_reducible assumption); (case zqx => decide); (case zqw => first | exact Nat.lt_of_lt_of_le (by with_reducible assumption) (by decide) | exact Nat.lt_of_le_of_lt (by with_reducible assumption) (by decide) | exact Nat.le_trans (by with_reducible assumption) (by decide) | omega | exact Nat.le_trans (sum_take _ _) (by omega)); (case zqz => first | exact Nat.lt_of_lt_of_le (by with_reducible assumption) (by decide) | exact Nat.lt_of_le_of_lt (by with_reducible assumption) (by decide) | exact Nat.le_trans (by with_reducible assumption) (by decide) | omega | (rw [List.length_take]; omega))); intro _ _; (try dsimp only))))
        | walk1
        | (dsimp only; walk1)
        | (leave1; (try dsimp only))
        | fail "no step"))
      all_goals ((refine' endS ?zqr ?_ ?zqf ?zqn ?zqs; (case zqr => first | with_reducible assumption | assumption); (case zqf => k_asm); (case zqn => k_asm); (case zqs => ((intro pq hpq; repeat (first | with_reducible exact hpq | refine List.mem_cons_of_mem _ ?_))))))
      refine eC _ ?_
      rename (y9 != Bs.getD _ _) = true => hne
      rw [pre_stop As Bs i y9 hpre hg (fun z hz => by rw [hgb] at hz; exact (Option.some.inj hz) ▸ (by simpa using hne)), Int.toNat_natCast]
    · refine epost_end (by first | exact .inl rfl | exact .inr rfl) (by k_asm) ?_ (by k_asm) (fun p hp => hp) (take_next hpre hg hgb ?_)
      · intro z z1 z2
        ((repeat (first | with_reducible refine (if_neg z1).trans ?_ | with_reducible refine (if_neg z2).trans ?_)); rfl)
      · rename (y9 != Bs.getD _ _) = false => hne
        simpa using hne
  · intro ui uc h9 tk9 hpre F9 N9
    have hJ := joinFit As fA.1 fA.2
    (repeat' (first
        | (k_unfold; (try dsimp only))
        | (k_end; wrow_close)
        | ((with_reducible show wpAny _ _ (exec _ _) _ _ _); k_fold)
        | (with_reducible ((with_reducible show wpAny _ _ (subscriptTail (PySem.Expr.Name _ _) (PySem.Expr.Name _ _) (Value.ref _) (Value.int _ _)) _ _ _); (k_here; k_dflt (refine' itemL ?zqN ?zqm ?zqs ?zqy ?zqz ?zqf ?_ ?zqhs ?zqhg; (case zqN => k_asm); (case zqm => k_mem); (case zqs => with_reducible assumption); (case zqy => first | exact Nat.lt_of_lt_of_le (by with_reducible assumption) (by decide) | exact Nat.lt_of_le_of_lt (by with_reducible assumption) (by decide) | exact Nat.le_trans (by with_reducible assumption) (by decide) | omega); (case zqz => first | exact Nat.lt_of_lt_of_le (by with_reducible assumption) (by decide) | exact Nat.lt_of_le_of_lt (by with_reducible assumption) (by decide) | exact Nat.le_trans (by with_reducible assumption) (by decide) | omega); (case zqf => first | exact Nat.lt_of_lt_of_le (by with_reducible assumption) (by decide) | exact Nat.lt_of_le_of_lt (by with_reducible assumption) (by decide) | exact Nat.le_trans (by with_reducible assumption) (by decide) | omega); (case zqhs => with_unfolding_all rfl); (case zqhg => (intro _; with_unfolding_all rfl))); intro _; (try dsimp only))))
        | (with_reducible ((with_reducible show wpAny _ _ (exec (Stmt.For _ _ _ _ _) _) _ _ _); (k_here; (rename Fr _ _ _ _ => lF'q); (with_unfolding_all refine' For_turns lF'q ?_; k_whole))))
        | (with_reducible ((with_reducible show wpAny _ _ (call (Value.builtin "max") _ _) _ _ _); (k_here; k_dflt (refine' maxPick ?zqhh ?zqhun ?zqF ?zqN ?zqa ?zqp ?zqq ?zqus ?zqvs ?_; (case zqhh => rfl); (case zqhun => ktr_units); (case zqF => k_asm); (case zqN => k_asm); (case zqa => k_mem); (case zqp => k_mem); (case zqq => k_mem); (case zqus => assumption); (case zqvs => assumption)); intro r9q ws9q n9q h9q tk9q F9q N9q S9q; (try dsimp only))))
        | (with_reducible ((with_reducible show wpAny _ _ (call (Value.builtin "min") _ _) _ _ _); (k_here; k_dflt (refine' minPick ?zqhh ?zqhun ?zqF ?zqN ?zqa ?zqp ?zqq ?zqus ?zqvs ?_; (case zqhh => rfl); (case zqhun => ktr_units); (case zqF => k_asm); (case zqN => k_asm); (case zqa => k_mem); (case zqp => k_mem); (case zqq => k_mem); (case zqus => assumption); (case zqvs => assumption)); intro r9q ws9q n9q h9q tk9q F9q N9q S9q; (try dsimp only))))
        | (with_reducible ((with_reducible show wpAny _ _ (eval (PySem.Expr.ListComp _ _ _ _) _) _ _ _); (k_here; k_dflt (refine LCt.ListComp_T (F₀ := by k_asm) (by with_unfolding_all rfl) (by decide) (by rfl) (by decide) (by rfl) ?_); walk1; k_dflt (refine' LCt.CompSrcT.ledger ?zqa ?zqF ?zqN ?zqm ?zqz ?_; (case zqa => rfl); (case zqF => k_asm); (case zqN => k_asm); (case zqm => k_mem); (case zqz => exact splitSize (by assumption) (by assumption) (by assumption))); intro g9q; k_dflt (refine' filterRest (keep := keepF) ?zqs ?zqb ?zqS ?zqk ?zql ?zqx ?zqt ?_; (case zqs => assumption); (case zqb => first | exact lenBound (by assumption) (by assumption) | fail); (case zqS => lcg_src); (case zqk => rfl); (case zql => (intro _; rfl)); (case zqx => decide); (case zqt => (intro v9q t9q I9q oI9q C9q oC9q D9q oD9q m9q h9q tk9q E9q hb9q hC9q hx9q F9q N9q; ((k_steps; (all_goals (refine' TestOne.intro ?zqb ?zqF ?zqN; (case zqF => k_asm); (case zqN => k_asm); (case zqb => first | exact kp1 (by with_reducible assumption) (by with_reducible assumption) | exact kp2 (by with_reducible assumption) | exact kp3 (by with_reducible assumption))))))))); intro ys9q hys9q)))
        | (with_reducible ((with_reducible show wpAny _ _ (assign (PySem.Expr.Tuple _ _ _) _ _) _ _ _); (k_here; (with_reducible show wpAny _ _ (assign (Expr.Tuple [_] _ _) _ _) _ _ _); k_dflt (refine' assignSet1 ?zqa ?zqF ?zqN ?zqe ?zqm ?zqhy ?zqhp ?_; (case zqa => rfl); (case zqF => k_asm); (case zqN => k_asm); (case zqe => rfl); (case zqm => k_mem); (case zqhy => rfl); (case zqhp => rfl)); intro h9q tk9q F9q N9q; (try dsimp only))))
        | (with_reducible ((with_reducible show wpAny _ _ (eval (PySem.Expr.SetComp _ _ _ _) _) _ _ _); (k_here; k_dflt (refine setComp (F₀ := by k_asm) (by with_unfolding_all rfl) (by decide) (by rfl) (by decide) (by rfl) ?_); walk1; k_dflt (refine' SrcSet.ledger ?zqa ?zqF ?zqN ?zqm ?zqt ?_; (case zqa => rfl); (case zqF => k_asm); (case zqN => k_asm); (case zqm => k_mem); (case zqt => (intro g9q v9q hv9q I9q oI9q C9q oC9q D9q oD9q m9q h9q tk9q E9q hC9q hx9q F9q N9q; (rcases List.mem_cons.mp hv9q with e9q | e9q); (subst e9q; (((k_steps; (refine' SetOne.intro ?zqb ?zqF ?zqN; (case zqF => k_asm); (case zqN => k_asm); (case zqb => (with_reducible assumption))))))); (rcases List.mem_cons.mp e9q with e8q | e8q); (subst e8q; (((k_steps; (refine' SetOne.intro ?zqb ?zqF ?zqN; (case zqF => k_asm); (case zqN => k_asm); (case zqb => (with_reducible assumption))))))); cases e8q))))))
        | ((with_reducible show LCg.CompEnd _ _ _ _ _ _ _ _ _ _ _ _ _ _); (first | (refine' compEnd1 ?zqN ?zqN1 ?zqF ?zqo ?zqS ?_; (case zqN => k_asm); (case zqN1 => k_asm); (case zqF => k_asm); (case zqo => k_asm); (case zqS => lcg_src)) | (refine' compEnd2 ?zqN ?zqo1 ?zqF ?zqo ?zqS ?_; (case zqN => k_asm); (case zqo1 => k_asm); (case zqF => k_asm); (case zqo => k_asm); (case zqS => lcg_src))))
        | (with_reducible ((with_reducible show wpAny _ _ (exec (Stmt.Assign _ (PySem.Expr.ListComp _ _ _ _) _) _) _ _ _); (k_here; k_dflt (refine assignTup (F₀ := by k_asm) (by rfl) (by with_unfolding_all rfl) (by with_unfolding_all rfl) (by decide) (by rfl) (by decide) (by rfl) (by rfl) (by rfl) ?_); walk1; k_dflt (refine SrcTup.ledger (by rfl) (by k_asm) (by k_asm) (by k_mem) (by first | size_fits | exact Nat.le_of_ble_eq_true rfl) ?_; intro g'q; lcg_lit))))
        | (with_reducible ((with_reducible show wpAny _ _ (exec (Stmt.Try _ _ _ _ _) _) _ _ _); (k_here; (with_reducible show wpAny _ _ (exec (Stmt.Try _ (_ :: _) _ [] _) _) _ _ _); refine wpAny_Try_except ?_)))
        | (with_reducible ((with_reducible show wpAny _ _ (call (Value.type "tuple") _ _) _ _ _); (k_here; k_dflt (refine' tupMap ?zqk1 ?zqk2 ?zqk3 ?zqk5 ?zqkK ?zqk4 ?zqm ?zqne ?zql1 ?zql2 ?zqus ?zqkd ?zqku ?zqz ?_; (case zqk1 => k_asm); (case zqk2 => k_asm); (case zqk3 => k_asm); (case zqk5 => k_asm); (case zqkK => first | exact rfl | assumption); (case zqk4 => k_asm); (case zqm => k_mem); (case zqne => refine kst_ltOf ?_; assumption); (case zql1 => first | exact Nat.lt_of_lt_of_le (by with_reducible assumption) (by decide) | exact Nat.lt_of_le_of_lt (by with_reducible assumption) (by decide) | exact Nat.le_trans (by with_reducible assumption) (by decide) | omega); (case zql2 => first | exact Nat.lt_of_lt_of_le (by with_reducible assumption) (by decide) | exact Nat.lt_of_le_of_lt (by with_reducible assumption) (by decide) | exact Nat.le_trans (by with_reducible assumption) (by decide) | omega); (case zqus => exact StrsAre.cons _ _ (StrsAre.cons _ _ StrsAre.nil)); (case zqkd => ktr_room); (case zqku => ktr_units); (case zqz => ((show (2 : Nat) ≤ 1000); decide))); intro D9q h9q tk9q us9q F9q N9q S9q l9q; (obtain ⟨t7q, u7q, e7q⟩ := strs2 S9q; subst e7q; clear S9q); (try k_lt l9q); (try dsimp only))))
        | (with_reducible ((with_reducible show wpAny _ _ (call (Value.type "map") _ _) _ _ _); (k_here; k_dflt (refine' mapCall ?zqF ?zqN ?zqm ?_; (case zqF => k_asm); (case zqN => k_asm); (case zqm => k_mem)); intro z9q TI9q it9q h9q F9q N9q l9q l8q l7q; (try k_lt l9q); (try dsimp only))))
        | (with_reducible ((with_reducible show wpAny _ _ (subscriptTail (PySem.Expr.Name _ _) _ (Value.ref _) (Value.ref _)) _ _ _); (k_here; (with_reducible show wpAny _ _ (subscriptTail _ (PySem.Expr.Slice none _ none _) (Value.ref _) (Value.ref _)) _ _ _); k_dflt (refine' uptoL ?zqF ?zqN ?zqm ?zqs ?zqy ?zqz ?_ ?zqhs ?zqhg; (case zqF => k_asm); (case zqN => k_asm); (case zqm => k_mem); (case zqs => assumption); (case zqy => first | exact Nat.lt_of_lt_of_le (by with_reducible assumption) (by decide) | exact Nat.lt_of_le_of_lt (by with_reducible assumption) (by decide) | exact Nat.le_trans (by with_reducible assumption) (by decide) | omega); (case zqz => first | exact Nat.lt_of_lt_of_le (by with_reducible assumption) (by decide) | exact Nat.lt_of_le_of_lt (by with_reducible assumption) (by decide) | exact Nat.le_trans (by with_reducible assumption) (by decide) | omega); (case zqhs => with_unfolding_all rfl); (case zqhg => (intro _; with_unfolding_all rfl))); intro D9q h9q F9q N9q S9q l9q; (try k_lt l9q); (try dsimp only))))
        | (with_reducible ((with_reducible show wpAny _ _ (call (Value.builtin "str.join") _ _) _ _ _); (k_here; (with_reducible show wpAny _ _ (call (Value.builtin "str.join") [Value.str _ _, Value.ref _]) _ _ _); k_dflt (refine' joinL ?zqN ?zqm ?zqs ?zqx ?zqw ?zqz ?_; (case zqN => k_asm); (case zqm => k_mem); (case zqs => with_reducible assumption); (case zqx => decide); (case zqw => first | exact Nat.lt_of_lt_of_le (by with_reducible assumption) (by decide) | exact Nat.lt_of_le_of_lt (by with_reducible assumption) (by decide) | exact Nat.le_trans (by with_reducible assumption) (by decide) | omega | exact Nat.le_trans (sum_take _ _) (by omega)); (case zqz => first | exact Nat.lt_of_lt_of_le (by with_reducible assumption) (by decide) | exact Nat.lt_of_le_of_lt (by with_reducible assumption) (by decide) | exact Nat.le_trans (by with_reducible assumption) (by decide) | omega | (rw [List.length_take]; omega))); intro _ _; (try dsimp only))))
        | walk1
        | (dsimp only; walk1)
        | (leave1; (try dsimp only))
        | fail "no step"))
    all_goals ((refine' endS ?zqr ?_ ?zqf ?zqn ?zqs; (case zqr => first | with_reducible assumption | assumption); (case zqf => k_asm); (case zqn => k_asm); (case zqs => ((intro pq hpq; repeat (first | with_reducible exact hpq | refine List.mem_cons_of_mem _ ?_))))))
    exact eC _ (pre_all _ _ hpre).symm
end
end
section
set_option maxRecDepth 100000
set_option maxHeartbeats 8000000
section
variable {prog : Program} {w : World} {A : Around} {E : Value → Shared → Prop} {s : Shared} {h₀ : Heap} {L : Addr} {m : Str → Option Value} {env : Env}
noncomputable def TextOne (h₀ : Heap) (L : Addr) (m : Str → Option Value) (s : Shared) (led : List (Addr × Obj)) (b : Str) (y : Value) (s₂ : Shared) : Prop :=
  ∃ t h' tk', y = .str b t ∧ s₂ = { s with heap := h', toks := tk' } ∧ Fr h₀ L h' m ∧ News h₀ L h' led
theorem TextOne.intro {led led' : List (Addr × Obj)} {b c : Str} {t : Tok} {h' : Heap} {tk : Nat} (hb : c = b) (F : Fr h₀ L h' m) (N : News h₀ L h' led') (hs : ∀ p ∈ led, p ∈ led') : TextOne h₀ L m s led b (.str c t) { s with heap := h', toks := tk } := by
  subst hb; exact ⟨t, h', tk, rfl, rfl, F, fun p hp => N p (hs p hp)⟩
theorem textRest {elt : Expr} {x : Str} {scope : Scope} {cl : List (Str × Addr)} {news : List (Addr × Obj)} {S : List (Addr × Obj) → Prop} {Fin : List Value → List (Addr × Obj) → Prop} {vs : List Value} {ns : List Int} (g : Int → Str)
    (hi : IntsAre vs ns) (hS : S news)
    (turn : ∀ (k : Int) (t : Tok) (I : Addr) (oI : Obj) (C : Addr) (oC : Obj) (D : Addr) (oD : Obj) m₂ h tk (E' : Value → Shared → Prop), LCg.NsObj oC m₂ → m₂ x = some (.int k t) → Fr h₀ L h m → News h₀ L h ((I, oI) :: (C, oC) :: (D, oD) :: news) →
      wpAny (model prog w) A (eval elt (compEnvC scope cl C env)) (TextOne h₀ L m s ((I, oI) :: (C, oC) :: (D, oD) :: news) (g k)) E' { s with heap := h, toks := tk })
    (fin : ∀ ys, StrsAre ys (ns.map g) → Fin ys news) :
    LCg.CompRest prog w A h₀ L m env elt x scope cl s S (fun i v => vs.toArray[i]? = some v) Fin vs.toArray.size 0 [] news := by
  have hl := hi.length
  have main : ∀ (j i : Nat) (ys : List Value), i + j = ns.length → StrsAre ys ((ns.take i).map g) → LCg.CompRest prog w A h₀ L m env elt x scope cl s S (fun i v => vs.toArray[i]? = some v) Fin j i ys news := by
    intro j
    induction j with
    | zero =>
      intro i ys e hy
      have e : i = ns.length := by omega
      subst e
      rw [List.take_length] at hy
      exact LCg.CompRest.zero (fin ys hy)
    | succ j ih =>
      intro i ys e hy
      refine LCg.CompRest.succ ?_
      intro v I oI C oC D m₂ h tk E' hv hC hx F N off ne
      obtain ⟨k, t, rfl, hk⟩ := IntsAre.at hi i v (by simpa using hv)
      refine wpAny_mono (turn k t I oI C oC D _ m₂ h tk E' hC hx F N) (fun y s₂ hq => ?_) fun _ _ e => e
      obtain ⟨t', h', tk', rfl, rfl, F', N'⟩ := hq
      refine ⟨h', tk', news, rfl, F', N', off, hS, ?_⟩
      refine ih (i + 1) _ (by omega) ?_
      rw [List.take_add_one, hk]
      simpa using strsAre_append hy (.cons _ t' .nil)
  rw [List.size_toArray, hl]
  exact main ns.length 0 [] (by omega) .nil
end
end
section
set_option maxRecDepth 100000
set_option maxHeartbeats 8000000
noncomputable def t7 : List Str := [Str.ofString "/", Str.ofString "a", Str.ofString "b", Str.ofString ".", Str.ofString "..", Str.ofString "//", Str.ofString "c.d"]
noncomputable def t3 : List Str := [Str.ofString "a", Str.ofString "b", Str.ofString "c.d"]
noncomputable def g7 (k : Int) : Str := t7.getD (k.fmod 7).toNat Str.empty
noncomputable def g3 (k : Int) : Str := t3.getD (k.fmod 3).toNat Str.empty
noncomputable def g33 (k : Int) : Str := t3.getD ((k.fdiv 3).fmod 3).toNat Str.empty
theorem half0 (n : Nat) : 0 ≤ (n : Int).fdiv 2 := Int.fdiv_nonneg (by omega) (by decide)
/-- the bounds of the pieces and of the two texts joined of them -/
noncomputable def PFit (P : List Str) : Prop := P.length ≤ 63 ∧ (P.map (·.length)).sum ≤ 189 ∧ (Txt.join (Str.ofString "") P).length ≤ 189 ∧ (Txt.join (Str.ofString "") (List.take ((P.length : Int).fdiv 2).toNat P)).length ≤ 189
theorem joinE (l : List Str) (b : Nat) (h2 : (l.map (·.length)).sum ≤ b) : (Txt.join (Str.ofString "") l).length ≤ b := by
  have hj := StrLaws.join_length_le (Str.ofString "") l
  rw [← StrLaws.glued_eq_join, show (Str.ofString "").length = 0 from rfl, Nat.mul_zero] at hj
  change (Txt.join (Str.ofString "") _).length ≤ _ at hj
  omega
theorem pfit {P : List Str} (h1 : P.length ≤ 63) (h2 : (P.map (·.length)).sum ≤ 189) : PFit P :=
  ⟨h1, h2, joinE P _ h2, joinE _ _ (Nat.le_trans (sum_take P _) h2)⟩
theorem g7_len (k : Int) : (g7 k).length ≤ 3 := by
  unfold g7
  generalize (k.fmod 7).toNat = n
  rcases n with _ | _ | _ | _ | _ | _ | _ | n
  iterate 7 decide
  show Str.empty.length ≤ 3
  decide
theorem sum_map_le (g : Int → Str) (b : Nat) (h : ∀ k, (g k).length ≤ b) : ∀ ns : List Int, ((ns.map g).map (·.length)).sum ≤ b * ns.length
  | [] => Nat.zero_le _
  | a :: r => by
    have := sum_map_le g b h r
    have h1 := h a
    simp only [List.map_cons, List.sum_cons, List.length_cons]
    rw [Nat.mul_succ]
    omega
theorem t3_mem (n : Int) (d : Int) (hd : 0 ≤ d ∧ d < 3) : t3.getD d.toNat Str.empty ∈ t3 := by
  obtain ⟨h1, h2⟩ := hd
  have : d = 0 ∨ d = 1 ∨ d = 2 := by omega
  rcases this with rfl | rfl | rfl <;> simp [t3]
theorem fmod3 (k : Int) : 0 ≤ k.fmod 3 ∧ k.fmod 3 < 3 := ⟨Int.fmod_nonneg_of_pos _ (by decide), Int.fmod_lt_of_pos _ (by decide)⟩
noncomputable def Named (l : List Str) : Prop := ∀ v ∈ l, v ∈ t3
theorem named_g3 (ns : List Int) : Named (ns.map g3) := by
  intro v hv
  obtain ⟨k, _, rfl⟩ := List.mem_map.mp hv
  exact t3_mem k _ (fmod3 k)
theorem named_g33 (ns : List Int) : Named (ns.map g33) := by
  intro v hv
  obtain ⟨k, _, rfl⟩ := List.mem_map.mp hv
  exact t3_mem k _ (fmod3 _)
section
variable {prog : Program} {w : World} {A : Around} {E : Value → Shared → Prop} {s : Shared} {h₀ : Heap} {L : Addr} {m : Str → Option Value} {env : Env}
theorem piecesRest {elt : Expr} {x : Str} {scope : Scope} {cl : List (Str × Addr)} {news : List (Addr × Obj)} {S : List (Addr × Obj) → Prop} {Fin : List Value → List (Addr × Obj) → Prop} {vs : List Value} {ns : List Int}
    (hi : IntsAre vs ns) (hS : S news) (hn : ns.length ≤ 63)
    (turn : ∀ (k : Int) (t : Tok) (I : Addr) (oI : Obj) (C : Addr) (oC : Obj) (D : Addr) (oD : Obj) m₂ h tk (E' : Value → Shared → Prop), LCg.NsObj oC m₂ → m₂ x = some (.int k t) → Fr h₀ L h m → News h₀ L h ((I, oI) :: (C, oC) :: (D, oD) :: news) →
      wpAny (model prog w) A (eval elt (compEnvC scope cl C env)) (TextOne h₀ L m s ((I, oI) :: (C, oC) :: (D, oD) :: news) (g7 k)) E' { s with heap := h, toks := tk })
    (fin : ∀ ys P, PFit P → StrsAre ys P → Fin ys news) :
    LCg.CompRest prog w A h₀ L m env elt x scope cl s S (fun i v => vs.toArray[i]? = some v) Fin vs.toArray.size 0 [] news :=
  textRest g7 hi hS turn fun ys hy => fin ys _ (pfit (by rw [List.length_map]; exact hn) (by have := sum_map_le g7 3 g7_len ns; omega)) hy
theorem namesRest {elt : Expr} {x : Str} {scope : Scope} {cl : List (Str × Addr)} {news : List (Addr × Obj)} {S : List (Addr × Obj) → Prop} {Fin : List Value → List (Addr × Obj) → Prop} {vs : List Value} {ns : List Int} (g : Int → Str) (hg : ∀ ns, Named (List.map g ns))
    (hi : IntsAre vs ns) (hS : S news) (hn : ns.length ≤ 63)
    (turn : ∀ (k : Int) (t : Tok) (I : Addr) (oI : Obj) (C : Addr) (oC : Obj) (D : Addr) (oD : Obj) m₂ h tk (E' : Value → Shared → Prop), LCg.NsObj oC m₂ → m₂ x = some (.int k t) → Fr h₀ L h m → News h₀ L h ((I, oI) :: (C, oC) :: (D, oD) :: news) →
      wpAny (model prog w) A (eval elt (compEnvC scope cl C env)) (TextOne h₀ L m s ((I, oI) :: (C, oC) :: (D, oD) :: news) (g k)) E' { s with heap := h, toks := tk })
    (fin : ∀ ys P, P.length ≤ 63 → Named P → StrsAre ys P → Fin ys news) :
    LCg.CompRest prog w A h₀ L m env elt x scope cl s S (fun i v => vs.toArray[i]? = some v) Fin vs.toArray.size 0 [] news :=
  textRest g hi hS turn fun ys hy => fin ys _ (by rw [List.length_map]; exact hn) (hg ns) hy
end
end
section
set_option maxRecDepth 100000
set_option maxHeartbeats 8000000
/-- stops the walk -/
noncomputable def Held (P : Prop) : Prop := P
theorem Held.out {P : Prop} (h : Held P) : P := h
theorem Held.mk {P : Prop} (h : P) : Held P := h
section
variable {prog : Program} {w : World} {A : Around} {E : Value → Shared → Prop} {s : Shared} {env : Env} {h₀ : Heap} {body : List Stmt} {Q : Flow → Shared → Prop} {x : Str}
noncomputable def OPost (h₀ : Heap) (L : Addr) (x y1 y2 : Str) (m₀ : Str → Option Value) (led : List (Addr × Obj)) (s₁ : Shared) (Q : Flow → Shared → Prop) (f : Flow) (s₂ : Shared) : Prop :=
  match f with
  | .ret v => Q (.ret v) s₂
  | .brk => Q .next s₂
  | _ => ∃ h' tk m' led', s₂ = { s₁ with heap := h', toks := tk } ∧ Fr h₀ L h' m' ∧ (∀ z, z ≠ x → z ≠ y1 → z ≠ y2 → m' z = m₀ z) ∧ News h₀ L h' led' ∧ (∀ p ∈ led, p ∈ led')
theorem opost_end {L : Addr} {y1 y2 : Str} {m₀ m' : Str → Option Value} {led led' : List (Addr × Obj)} {s₁ : Shared} {f : Flow} {h' : Heap} {tk : Nat}
    (hf : f = .next ∨ f = .cont) (F : Fr h₀ L h' m') (hm : ∀ z, z ≠ x → z ≠ y1 → z ≠ y2 → m' z = m₀ z) (N : News h₀ L h' led') (hs : ∀ p ∈ led, p ∈ led') : OPost h₀ L x y1 y2 m₀ led s₁ Q f { s₁ with heap := h', toks := tk } := by
  rcases hf with rfl | rfl <;> exact ⟨h', tk, m', led', rfl, F, hm, N, hs⟩
theorem oneLoop {l : Addr} {vs : List Value} {ys : List Str} {nn : Nat} {m₀ : Str → Option Value} {news : List (Addr × Obj)} {y1 y2 : Str}
    (hh : A.handled = none) (hl : (l, listOf vs.toArray nn) ∈ news) (hs : StrsAre vs ys) (F : Fr h₀ env.locals s.heap m₀) (N : News h₀ env.locals s.heap news)
    (turn : ∀ y t (a b : Option Value) h tk own, y ∈ ys → Fr h₀ env.locals h (fun z => if z = x then some (.str y t) else if z = y1 then a else if z = y2 then b else m₀ z) → News h₀ env.locals h (news ++ own) →
      wpAny (model prog w) A (execs body env) (OPost h₀ env.locals x y1 y2 m₀ (news ++ own) { s with heap := h, toks := tk } Q) E { s with heap := h, toks := tk })
    (done : ∀ (c a b : Option Value) h tk, Fr h₀ env.locals h (fun z => if z = x then c else if z = y1 then a else if z = y2 then b else m₀ z) → News h₀ env.locals h news → Q .next { s with heap := h, toks := tk }) :
    wpAny (model prog w) A (pyIter (.ref l)) (fun it s₂ => LoopAtV prog w A h₀ env x body Q E it s₂) E s := by
  have em : ∀ (m : Str → Option Value) (c : Option Value), (∀ z, z ≠ x → z ≠ y1 → z ≠ y2 → m z = m₀ z) → (fun z => if z = x then c else m z) = fun z => if z = x then c else if z = y1 then m y1 else if z = y2 then m y2 else m₀ z := by
    intro m c hm
    funext z
    by_cases h1 : z = x
    · simp [h1]
    · simp only [if_neg h1]
      by_cases h2 : z = y1
      · simp [h2]
      · simp only [if_neg h2]
        by_cases h3 : z = y2
        · simp [h3]
        · simp only [if_neg h3]; exact hm z h1 h2 h3
  refine sIter (fun i m nx => nx = news ∧ ∀ z, z ≠ x → z ≠ y1 → z ≠ y2 → m z = m₀ z) hh hl hs F N ⟨rfl, fun _ _ _ _ => rfl⟩ ?_ ?_
  · rintro i y t m₁ news₁ h tk own hy hoff hm ⟨rfl, hm₁⟩ F₁ N₁
    rw [em m₁ _ hm₁] at F₁
    refine wpAny_mono (turn y t (m₁ y1) (m₁ y2) h tk own (List.mem_of_getElem? hy) F₁ N₁) (fun fl s₂ p => ?_) fun _ _ e => e
    have up : (∃ h' tk' m' led', s₂ = { ({ s with heap := h, toks := tk } : Shared) with heap := h', toks := tk' } ∧ Fr h₀ env.locals h' m' ∧ (∀ z, z ≠ x → z ≠ y1 → z ≠ y2 → m' z = m₀ z) ∧ News h₀ env.locals h' led' ∧ (∀ p ∈ news₁ ++ own, p ∈ led')) →
        InvEndG h₀ env.locals (fun m' nx => (l, listOf vs.toArray nn) ∈ nx ∧ (nx = news₁ ∧ ∀ z, z ≠ x → z ≠ y1 → z ≠ y2 → m' z = m₀ z)) own { s with heap := h, toks := tk } s₂ := by
      rintro ⟨h', tk', m', led', rfl, F', hm', N', hs'⟩
      refine ⟨h', tk', m', _, news₁, rfl, F', N', ?_, ?_, ?_, hl, rfl, hm'⟩
      all_goals first
        | exact fun p hp => hs' p (List.mem_append_left _ hp)
        | exact fun p hp => hs' p (List.mem_append_right _ hp)
        | exact hoff
    cases fl with
    | ret v => exact p
    | brk => exact p
    | next => exact up p
    | cont => exact up p
  · rintro m₁ news₁ h tk ⟨rfl, hm₁⟩ F₁ N₁
    have e1 : (fun z => if z = x then m₁ x else m₁ z) = m₁ := by
      funext z
      by_cases h1 : z = x
      · simp [h1]
      · simp [h1]
    rw [← e1, em m₁ _ hm₁] at F₁
    exact done _ _ _ h tk F₁ N₁
end
end
section
set_option maxRecDepth 100000
set_option maxHeartbeats 8000000
section
variable {prog : Program} {w : World} {A : Around} {E : Value → Shared → Prop} {s : Shared} {h₀ : Heap} {L : Addr} {m : Str → Option Value}
theorem neS {x y : Str} {t u : Tok} {Q : Value → Shared → Prop} (e : x = y) (h : Q (.bool false) s) : wpAny (model prog w) A (compareOp .NotEq (.str x t) (.str y u)) Q E s := by
  subst e
  refine compareOp_gives (op := .NotEq) (T := "str") rfl rfl PyProof.Rows.slot_str_ne PyProof.Rows.entry_str_ne (PyProof.Rows.args_str_ne _ _) (gives_str_ne x x t u) (fun z => nomatch z) ?_
  show Q (.bool (x.cps.toList != x.cps.toList)) s
  rw [bne_self_eq_false]
  exact h
theorem eqS {x y : Str} {t u : Tok} {Q : Value → Shared → Prop} (e : x = y) (h : Q (.bool true) s) : wpAny (model prog w) A (compareOp .Eq (.str x t) (.str y u)) Q E s := by
  subst e
  refine compareOp_gives (op := .Eq) (T := "str") rfl rfl PyProof.Rows.slot_str_eq PyProof.Rows.entry_str_eq (PyProof.Rows.args_str_eq _ _) (gives_str_eq x x t u) (fun z => nomatch z) ?_
  show Q (.bool (x.cps.toList == x.cps.toList)) s
  rw [beq_self_eq_true]
  exact h
theorem neT {news : List (Addr × Obj)} {a b : Addr} {x y z v : Str} {t u t' u' : Tok} {Q : Value → Shared → Prop} (N : News h₀ L s.heap news) (ha : (a, tupO [.str x t, .str y u]) ∈ news) (hb : (b, tupO [.str z t', .str v u']) ∈ news) (e : x = z) (e2 : y = v) (hu : A.units < cLine)
    (h : Q (.bool false) s) : wpAny (model prog w) A (compareOp .NotEq (.ref a) (.ref b)) Q E s := by
  subst e e2
  have ga : s.heap.IsTuple a #[.str x t, .str y u] := ⟨_, (N _ ha).1, rfl, _, rfl⟩
  have gb : s.heap.IsTuple b #[.str x t', .str y u'] := ⟨_, (N _ hb).1, rfl, _, rfl⟩
  refine (SeqAt.RcNeAt.tuples (e := fun _ => true) ga gb hu ?_) prog w E Q (show Q (.bool (!((List.range 2).all (fun _ => true) && (2 == 2)))) s from h)
  intro j h1 h2
  have : j = 0 ∨ j = 1 := by simp at h1; omega
  rcases this with rfl | rfl
  · have := SeqAt.EqAt.str_str (A := A.in1) (s := s) x t x t'
    rw [beq_self_eq_true] at this
    exact this
  · have := SeqAt.EqAt.str_str (A := A.in1) (s := s) y u y u'
    rw [beq_self_eq_true] at this
    exact this
end
end
section
set_option maxRecDepth 100000
set_option maxHeartbeats 8000000
theorem count_split (x : Str) : ((Txt.split x (Str.ofString "/")).length : Int) = 1 + Txt.count x (Str.ofString "/") := by
  have h1 := split_len x 47
  have h2 := count_is x 47
  have e : Str.ofString "/" = ⟨#[47]⟩ := by decide
  rw [e, h1, h2]
  rfl
theorem count_nonneg (x y : Str) : 0 ≤ Txt.count x y := by unfold Txt.count; exact Int.natCast_nonneg _
/-- the part behind the last stroke -/
noncomputable def lastPart (x : Str) : Str := (Txt.split x (Str.ofString "/")).getD (Txt.count x (Str.ofString "/")).toNat Str.empty
theorem lastPart_len (x : Str) : (lastPart x).length ≤ x.length := by
  have h1 := count_split x
  have h2 := count_nonneg x (Str.ofString "/")
  have hlt : (Txt.count x (Str.ofString "/")).toNat < (Txt.split x (Str.ofString "/")).length := by omega
  unfold lastPart
  rw [List.getD_eq_getElem?_getD, List.getElem?_eq_getElem hlt]
  exact part_short (List.getElem_mem hlt)
section
variable {prog : Program} {w : World} {A : Around} {E : Value → Shared → Prop} {s : Shared} {h₀ : Heap} {L : Addr} {m : Str → Option Value} {news : List (Addr × Obj)} {a : Addr} {us : List Value} {ys : List Str} {n : Nat}
theorem itemCount {value slice : Expr} {u : Tok} {x : Str} {Q : Value → Shared → Prop} (N : News h₀ L s.heap news) (hm : (a, listOf us.toArray n) ∈ news) (hs : StrsAre us ys) (e : ys = Txt.split x (Str.ofString "/")) (hx : x.length < 1000)
    (h : ∀ t, (lastPart x).length ≤ x.length → Q (.str (lastPart x) t) s)
    (hs' : subscripted slice false (.ref a) (.int (Txt.count x (Str.ofString "/")) u) = operate [.ref a, .int (Txt.count x (Str.ofString "/")) u] (getItem (.ref a) (.int (Txt.count x (Str.ofString "/")) u)) := by with_unfolding_all rfl) :
    wpAny (model prog w) A (subscriptTail value slice (.ref a) (.int (Txt.count x (Str.ofString "/")) u)) Q E s := by
  subst e
  have h1 := count_split x
  have h2 := (fact_split x (Str.ofString "/")).2
  have h3 := count_nonneg x (Str.ofString "/")
  have hlt : (Txt.count x (Str.ofString "/")).toNat < (Txt.split x (Str.ofString "/")).length := by omega
  obtain ⟨t, ht⟩ := strs_get hs _ hlt
  have e2 : (Txt.split x (Str.ofString "/"))[(Txt.count x (Str.ofString "/")).toNat] = lastPart x := by
    unfold lastPart
    rw [List.getD_eq_getElem?_getD, List.getElem?_eq_getElem hlt]; rfl
  rw [e2] at ht
  have hl : s.heap.IsList a us.toArray := ⟨_, (N _ hm).1, rfl, n, rfl⟩
  exact subscriptTail_builtinR (x := .str (lastPart x) t) hl.typeIs slot_list_getitem.lookup (wpAny_getItem_list hl h3 (by omega) (by simpa using ht) ⟨rfl, h t (lastPart_len x)⟩) hs'
end
end
section
set_option maxRecDepth 100000
set_option maxHeartbeats 8000000
/-! plain facts of texts and strokes -/
/-- a text without a stroke -/
noncomputable def Free (p : Str) : Prop := 47 ∉ p.cps.toList
noncomputable abbrev stroke : Str := Str.ofString "/"
theorem stroke_is : Str.ofString "/" = ⟨#[47]⟩ := by decide
theorem str_ext {a b : Str} (h : a.cps.toList = b.cps.toList) : a = b := by
  cases a; cases b; simp only at h; rw [Array.toList_inj.mp h]
theorem toList_append' (a b : Str) : (a ++ b).cps.toList = a.cps.toList ++ b.cps.toList := by
  show (a.cps ++ b.cps).toList = _
  rw [Array.toList_append]
theorem toList_stroke : (Str.ofString "/").cps.toList = [47] := by decide
theorem cut_free : ∀ (p q A B : List Nat), 47 ∉ p → 47 ∉ q → p ++ 47 :: A = q ++ 47 :: B → p = q ∧ A = B
  | [], [], A, B, _, _, h => ⟨rfl, (List.cons.inj h).2⟩
  | [], b :: q, A, B, _, hq, h => absurd (by rw [(List.cons.inj h).1]; exact List.mem_cons_self ..) hq
  | a :: p, [], A, B, hp, _, h => absurd (by rw [← (List.cons.inj h).1]; exact List.mem_cons_self ..) hp
  | a :: p, b :: q, A, B, hp, hq, h => by
    obtain ⟨h1, h2⟩ := List.cons.inj h
    obtain ⟨e1, e2⟩ := cut_free p q A B (fun m => hp (List.mem_cons_of_mem _ m)) (fun m => hq (List.mem_cons_of_mem _ m)) h2
    exact ⟨by rw [h1, e1], e2⟩
theorem join_inj : ∀ (ps qs : List Str), ps ≠ [] → qs ≠ [] → (∀ p ∈ ps, Free p) → (∀ p ∈ qs, Free p) → Str.join stroke ps = Str.join stroke qs → ps = qs
  | [], _, h, _, _, _, _ => absurd rfl h
  | _ :: _, [], _, h, _, _, _ => absurd rfl h
  | [p], [q], _, _, _, _, h => by rw [show p = q from h]
  | [p], q :: q' :: r, _, _, hp, _, h => by
    have e := congrArg (fun z => z.cps.toList) h
    have e' : p.cps.toList = ((q ++ stroke) ++ Str.join stroke (q' :: r)).cps.toList := e
    rw [toList_append', toList_append', toList_stroke] at e'
    exact absurd (by rw [e']; simp) (hp p (List.mem_cons_self ..))
  | p :: p' :: r, [q], _, _, _, hq, h => by
    have e := congrArg (fun z => z.cps.toList) h
    have e' : ((p ++ stroke) ++ Str.join stroke (p' :: r)).cps.toList = q.cps.toList := e
    rw [toList_append', toList_append', toList_stroke] at e'
    exact absurd (by rw [← e']; simp) (hq q (List.mem_cons_self ..))
  | p :: p' :: r, q :: q' :: t, _, _, hp, hq, h => by
    have e := congrArg (fun z => z.cps.toList) h
    have e' : ((p ++ stroke) ++ Str.join stroke (p' :: r)).cps.toList = ((q ++ stroke) ++ Str.join stroke (q' :: t)).cps.toList := e
    rw [toList_append', toList_append', toList_append', toList_append', toList_stroke, List.append_assoc, List.append_assoc] at e'
    obtain ⟨e1, e2⟩ := cut_free _ _ _ _ (hp p (List.mem_cons_self ..)) (hq q (List.mem_cons_self ..)) e'
    rw [str_ext e1, join_inj (p' :: r) (q' :: t) (by simp) (by simp) (fun x m => hp x (List.mem_cons_of_mem _ m)) (fun x m => hq x (List.mem_cons_of_mem _ m)) (str_ext e2)]
theorem split_nonempty (x : Str) : Txt.split x stroke ≠ [] := by
  intro h
  have h1 := split_len x 47
  have h2 := count_is x 47
  have h3 : 0 ≤ Txt.count x ⟨#[47]⟩ := by unfold Txt.count; exact Int.natCast_nonneg _
  rw [show stroke = ⟨#[47]⟩ from stroke_is] at h
  rw [h] at h1
  have h4 : Txt.count x ⟨#[47]⟩ = cnt 47 x.cps.toList := h2
  rw [← h4] at h1
  simp only [List.length_nil] at h1
  omega
theorem split_isfree (x : Str) : ∀ p ∈ Txt.split x stroke, Free p := by
  have h := StrLaws.split_free x 47
  rw [← stroke_is] at h
  exact h
theorem split_is {x : Str} {ps : List Str} (h0 : ps ≠ []) (hf : ∀ p ∈ ps, Free p) (hj : Str.join stroke ps = x) : Txt.split x stroke = ps :=
  join_inj _ _ (split_nonempty x) h0 (split_isfree x) hf (by rw [StrLaws.join_split, hj])
theorem free_empty : Free Str.empty := by intro h; simp [Str.empty] at h
theorem join_cons2 (a : Str) {l : List Str} (h : l ≠ []) : Str.join stroke (a :: l) = a ++ stroke ++ Str.join stroke l := by
  cases l with
  | nil => exact absurd rfl h
  | cons b l => rfl
theorem split_stroke (z : Str) : Txt.split (stroke ++ z) stroke = Str.empty :: Txt.split z stroke := by
  refine split_is (by simp) (fun p hp => ?_) ?_
  · rcases List.mem_cons.mp hp with rfl | hp
    · exact free_empty
    · exact split_isfree z p hp
  · rw [join_cons2 _ (split_nonempty z), Str.empty_append, StrLaws.join_split]
theorem split_named {p : Str} (h : Free p) : Txt.split p stroke = [p] := split_is (by simp) (fun q hq => by rw [List.mem_singleton.mp hq]; exact h) rfl
theorem txt_join (l : List Str) : Txt.join stroke l = Str.join stroke l := StrLaws.glued_eq_join _ _
/-- all the parts but the last, each with a stroke behind it -/
noncomputable def heads : List Str → Str
  | [] => Str.empty
  | a :: r => a ++ stroke ++ heads r
theorem join_snoc (l : Str) : ∀ init : List Str, Str.join stroke (init ++ [l]) = heads init ++ l
  | [] => (Str.empty_append l).symm
  | a :: r => by
    rw [List.cons_append, join_cons2 _ (by simp), join_snoc l r]
    show _ = a ++ stroke ++ heads r ++ l
    rw [Str.append_assoc (a ++ stroke)]
theorem heads_end : ∀ init : List Str, init ≠ [] → ∃ z, heads init = z ++ stroke
  | [], h => absurd rfl h
  | [a], _ => ⟨a, Str.append_empty _⟩
  | a :: b :: r, _ => by
    obtain ⟨z, hz⟩ := heads_end (b :: r) (by simp)
    refine ⟨a ++ stroke ++ z, ?_⟩
    show a ++ stroke ++ heads (b :: r) = _
    rw [hz, Str.append_assoc (a ++ stroke)]
/-- a text is what stands ahead of and behind its last stroke -/
theorem last_cut (y : Str) : ∃ init l, Txt.split y stroke = init ++ [l] ∧ y = heads init ++ l ∧ Free l := by
  rcases List.eq_nil_or_concat (Txt.split y stroke) with h | ⟨init, l, h⟩
  · exact absurd h (split_nonempty y)
  · rw [List.concat_eq_append] at h
    refine ⟨init, l, h, ?_, split_isfree y l (by rw [h]; simp)⟩
    rw [← join_snoc, ← h, StrLaws.join_split]
theorem rfind_cut (y : Str) {init : List Str} {l : Str} (e : y = heads init ++ l) (hf : Free l) : Txt.rfind y stroke + 1 = (y.length : Int) - l.length := by
  have at_iff : ∀ i, StrLaws.At y stroke y.length i ↔ y.cps.toList[i]? = some 47 := fun i => by
    have := StrLaws.subAt_one y 47 i
    rw [← stroke_is] at this
    exact this
  have hyl : y.cps.toList = (heads init).cps.toList ++ l.cps.toList := by rw [e, toList_append']
  have tail : ∀ k, (heads init).cps.toList.length ≤ k → ¬ y.cps.toList[k]? = some 47 := fun k hk hc => by
    rw [hyl, List.getElem?_append_right hk] at hc
    exact hf (List.mem_of_getElem? hc)
  have hlen : y.length = (heads init).length + l.length := by rw [e, Str.length_append]
  have ll : ∀ z : Str, z.cps.toList.length = z.length := fun z => by simp [Str.length]
  by_cases h0 : init = []
  · subst h0
    have hz : (heads []).length = 0 := rfl
    rcases rfind_whole y stroke with ⟨h, _⟩ | ⟨i, h, hi, _⟩
    · rw [h]; omega
    · exact absurd ((at_iff i).mp hi) (tail i (by rw [ll]; omega))
  · obtain ⟨z, hz⟩ := heads_end init h0
    have hzl : (heads init).length = z.length + 1 := by rw [hz, Str.length_append]; rfl
    have hat : y.cps.toList[z.length]? = some 47 := by
      rw [hyl, hz, toList_append', toList_stroke, List.append_assoc, List.getElem?_append_right (by rw [ll]; exact Nat.le_refl _), ll, Nat.sub_self]
      rfl
    rcases rfind_whole y stroke with ⟨_, hn⟩ | ⟨i, h, hi, hn⟩
    · exact absurd ((at_iff _).mpr hat) (hn _)
    · rw [h]
      rcases Nat.lt_trichotomy i z.length with hlt | heq | hgt
      · exact absurd ((at_iff _).mpr hat) (hn _ hlt)
      · omega
      · exact absurd ((at_iff i).mp hi) (tail i (by rw [ll]; omega))
theorem toList_length (z : Str) : z.cps.toList.length = z.length := by simp [Str.length]
theorem nn (i : Nat) : ¬ ((i : Int) < 0) := Int.not_lt.mpr (Int.natCast_nonneg i)
theorem cutN (i n : Nat) : max (0 : Int) (min (i : Int) (n : Int)) = max (0 : Int) (min ((min i n : Nat) : Int) (n : Int)) := by
  rcases Nat.le_total i n with h | h
  · rw [Nat.min_eq_left h]
  · rw [Nat.min_eq_right h, Int.min_eq_right (Int.ofNat_le.mpr h), Int.min_eq_right (Int.le_refl _)]
theorem ind_nn (i j n : Nat) : PySem.Builtin.Str.strSliceIndices (some (i : Int)) (some (j : Int)) 1 n = PySem.Builtin.Str.strSliceIndices (some ((min i n : Nat) : Int)) (some ((min j n : Nat) : Int)) 1 n := by
  simp only [PySem.Builtin.Str.strSliceIndices, nn, if_false, show ((1 : Int) > 0) = True from by simp, if_true]
  rw [cutN i n, cutN j n]
theorem slice_ij (x : Str) (i j : Nat) (hij : i ≤ j) : Txt.slice x (some (i : Int)) (some (j : Int)) = ⟨((x.cps.toList.drop i).take (j - i)).toArray⟩ := by
  have h1 : Txt.slice x (some (i : Int)) (some (j : Int)) = Txt.slice x (some ((min i x.length : Nat) : Int)) (some ((min j x.length : Nat) : Int)) := by
    show StrLaws.sliceText _ _ _ = StrLaws.sliceText _ _ _
    unfold StrLaws.sliceText
    rw [ind_nn]
  rw [h1]
  show StrLaws.sliceText _ _ _ = _
  rw [StrLaws.sliceText_plain ⟨Int.natCast_nonneg _, Int.ofNat_le.mpr (Nat.le_min.mpr ⟨Nat.le_trans (Nat.min_le_left _ _) hij, Nat.min_le_right _ _⟩), by rw [toList_length]; exact Int.ofNat_le.mpr (Nat.min_le_right _ _)⟩]
  refine str_ext ?_
  simp only [Int.toNat_natCast]
  rcases Nat.le_total x.length i with hi | hi
  · rw [List.drop_of_length_le (by rw [toList_length]; exact Nat.le_min.mpr ⟨hi, Nat.le_refl _⟩), List.drop_of_length_le (by rw [toList_length]; exact hi)]
    rw [List.take_nil, List.take_nil]
  · rw [Nat.min_eq_left hi]
    rcases Nat.le_total x.length j with hj | hj
    · rw [Nat.min_eq_right hj]
      show List.take _ _ = List.take _ _
      rw [List.take_of_length_le (by rw [List.length_drop, toList_length, Int.toNat_sub]; exact Nat.le_refl _), List.take_of_length_le (by rw [List.length_drop, toList_length]; exact Nat.sub_le_sub_right hj i)]
    · rw [Nat.min_eq_left hj, Int.toNat_sub]
theorem slice_to (x : Str) (j : Nat) : Txt.slice x none (some (j : Int)) = ⟨(x.cps.toList.take j).toArray⟩ := by
  have e : Txt.slice x none (some (j : Int)) = Txt.slice x (some ((0 : Nat) : Int)) (some (j : Int)) := by
    have e0 : PySem.Builtin.Str.strSliceIndices none (some (j : Int)) 1 x.length = PySem.Builtin.Str.strSliceIndices (some ((0 : Nat) : Int)) (some (j : Int)) 1 x.length := by
      have e1 : max (0 : Int) (min ((0 : Nat) : Int) (x.length : Int)) = 0 := by omega
      have a1 : ¬ (((0 : Nat) : Int) < 0) := by omega
      simp only [PySem.Builtin.Str.strSliceIndices, a1, if_false, e1, show ((1 : Int) > 0) = True from by simp, if_true]
    show StrLaws.sliceText _ _ _ = StrLaws.sliceText _ _ _
    unfold StrLaws.sliceText
    rw [e0]
  rw [e, slice_ij x 0 j (Nat.zero_le _), List.drop_zero, Nat.sub_zero]
theorem cutMax (i n : Nat) : max (0 : Int) (min ((max i n : Nat) : Int) (n : Int)) = n := by
  rw [Int.min_eq_right (Int.ofNat_le.mpr (Nat.le_max_right _ _)), Int.max_eq_right (Int.natCast_nonneg _)]
theorem slice_from (x : Str) (i : Nat) : Txt.slice x (some (i : Int)) none = ⟨(x.cps.toList.drop i).toArray⟩ := by
  have e : Txt.slice x (some (i : Int)) none = Txt.slice x (some (i : Int)) (some ((max i x.length : Nat) : Int)) := by
    have e0 : PySem.Builtin.Str.strSliceIndices (some (i : Int)) none 1 x.length = PySem.Builtin.Str.strSliceIndices (some (i : Int)) (some ((max i x.length : Nat) : Int)) 1 x.length := by
      simp only [PySem.Builtin.Str.strSliceIndices, nn, if_false, cutMax, show ((1 : Int) > 0) = True from by simp, if_true]
    show StrLaws.sliceText _ _ _ = StrLaws.sliceText _ _ _
    unfold StrLaws.sliceText
    rw [e0]
  rw [e, slice_ij x i _ (Nat.le_max_left ..), List.take_of_length_le (by rw [List.length_drop, toList_length]; exact Nat.sub_le_sub_right (Nat.le_max_right _ _) i)]
end
section
set_option maxRecDepth 100000
set_option maxHeartbeats 8000000
/-! the plain laws -/
theorem rfind_last (y : Str) : Txt.rfind y sl + 1 = (y.length : Int) - (lastPart y).length := by
  obtain ⟨init, l, hs, hy, hf⟩ := last_cut y
  have e : lastPart y = l := by
    have h1 := count_split y
    have hs' : Txt.split y (Str.ofString "/") = init ++ [l] := hs
    rw [hs', List.length_append, List.length_singleton] at h1
    unfold lastPart
    rw [hs', show (Txt.count y (Str.ofString "/")).toNat = init.length by omega]
    simp [List.getD_eq_getElem?_getD]
  rw [e]
  exact rfind_cut y hy hf
/-- all strokes -/
noncomputable def AllSt (x : Str) : Prop := ∀ c ∈ x.cps.toList, c = 47
noncomputable def strokes (k : Nat) : Str := ⟨(List.replicate k 47).toArray⟩
theorem strokes_list (k : Nat) : (strokes k).cps.toList = List.replicate k 47 := rfl
theorem goes_iff (c : Nat) : (Str.ofString "/").cps.contains c = true ↔ c = 47 := by
  rw [stroke_is]
  simp
theorem allSt_eq {x : Str} : AllSt x ↔ x = strokes x.length := by
  constructor
  · intro h
    refine str_ext ?_
    rw [strokes_list, ← toList_length]
    exact List.eq_replicate_iff.mpr ⟨rfl, h⟩
  · intro h c hc
    rw [h, strokes_list] at hc
    exact List.eq_of_mem_replicate hc
theorem strip_empty (x : Str) : (Txt.stripChars x (Str.ofString "/") == Str.ofString "") = true ↔ AllSt x := by
  rw [beq_iff_eq]
  show Txt.stripBy _ true true x = _ ↔ _
  rw [PyProof.Rows.stripBy_eq]
  have lo := lo_facts (Str.ofString "/").cps.contains x
  have hi := hi_facts (Str.ofString "/").cps.contains x _ lo.1
  have hget : ∀ k, k < x.length → ∃ h : k < x.cps.toList.length, x.cps.getD k 0 = x.cps.toList[k]'h := fun k hk => by
    refine ⟨by rw [toList_length]; exact hk, ?_⟩
    rw [← getD_list]
    simp [List.getD_eq_getElem?_getD, List.getElem?_eq_getElem (show k < x.cps.toList.length by rw [toList_length]; exact hk)]
  constructor
  · intro h c hc
    have hl := congrArg (fun z => z.cps.toList.length) h
    simp only [StrLaws.strSub_toList, List.length_take, List.length_drop, toList_length] at hl
    have hl0 : (Str.ofString "").length = 0 := by decide
    rw [hl0] at hl
    obtain ⟨k, hk, rfl⟩ := List.getElem_of_mem hc
    rw [toList_length] at hk
    obtain ⟨hk', e⟩ := hget k hk
    rw [← e, ← goes_iff]
    rcases Nat.lt_or_ge k (PySem.stripLo (Str.ofString "/").cps.contains true x) with h1 | h1
    · exact lo.2.1 k h1
    · exact hi.2.2.1 k (by omega) hk
  · intro h
    have e : PySem.stripLo (Str.ofString "/").cps.contains true x = x.length := by
      rcases lo.2.2 with h1 | h1
      · exact h1
      · refine Nat.le_antisymm lo.1 (Nat.le_of_not_lt fun hlt => ?_)
        obtain ⟨hk', e⟩ := hget _ hlt
        rw [e, (goes_iff _).mpr (h _ (List.getElem_mem hk'))] at h1
        cases h1
    rw [e]
    refine str_ext ?_
    rw [StrLaws.strSub_toList, List.drop_of_length_le (by rw [toList_length]; exact Nat.le_refl _)]
    simp only [List.take_nil]
    decide
theorem foldl_strokes : ∀ (n : Nat) (acc : Array Nat), ((List.replicate n (#[47] : Array Nat)).foldl (· ++ ·) acc).toList = acc.toList ++ List.replicate n 47
  | 0, acc => by simp
  | n + 1, acc => by
    rw [List.replicate_succ, List.foldl_cons, foldl_strokes n]
    simp [List.replicate_succ]
theorem mul_strokes (n : Nat) : Txt.mul sl (n : Int) = strokes n := by
  refine str_ext ?_
  unfold Txt.mul
  split
  · rename_i h
    have : n = 0 := by omega
    subst this
    decide
  · split
    · rename_i h1 h
      have e0 : (sl.length == 0) = false := by decide
      rw [e0, Bool.or_false, beq_iff_eq] at h
      have : n = 1 := by omega
      subst this
      decide
    · show (List.foldl (· ++ ·) #[] (List.replicate (Int.toNat n) sl.cps)).toList = _
      rw [show sl.cps = #[47] by decide, Int.toNat_natCast, foldl_strokes, strokes_list]
      rfl
theorem law_due1 {y : Str} (h : (Txt.stripChars (Txt.slice y none (some ((y.length : Int) - (lastPart y).length))) (Str.ofString "/") == Str.ofString "") = true) : dirF y = Txt.slice y none (some ((y.length : Int) - (lastPart y).length)) := by
  have e : headF y = Txt.slice y none (some ((y.length : Int) - (lastPart y).length)) := by unfold headF; rw [rfind_last]
  rw [← e] at h ⊢
  have hs := (strip_empty _).mp h
  unfold dirF
  split
  · rw [mul_strokes, ← allSt_eq.mp hs, bne_self_eq_false, if_neg Bool.false_ne_true]
  · rfl
theorem law_due2 {y : Str} (h : (Txt.stripChars (Txt.slice y none (some ((y.length : Int) - (lastPart y).length))) (Str.ofString "/") == Str.ofString "") = false) : dirF y = Txt.rstripChars (Txt.slice y none (some ((y.length : Int) - (lastPart y).length))) (Str.ofString "/") := by
  have e : headF y = Txt.slice y none (some ((y.length : Int) - (lastPart y).length)) := by unfold headF; rw [rfind_last]
  rw [← e] at h ⊢
  have hs : ¬ AllSt (headF y) := fun c => by rw [(strip_empty _).mpr c] at h; cases h
  unfold dirF
  rw [if_pos (fun c => hs (fun d hd => ?_)), if_pos ?_]
  · rw [mul_strokes, bne_iff_ne]
    exact fun c => hs (allSt_eq.mpr c)
  · have : (headF y).cps.toList.length = 0 := by rw [toList_length]; omega
    rw [List.length_eq_zero_iff.mp this] at hd
    cases hd
theorem law_tail (y : Str) : tailF y = Txt.slice y (some ((Txt.slice y none (some ((y.length : Int) - (lastPart y).length))).length : Int)) none := by
  unfold tailF
  rw [rfind_last]
  have hl := lastPart_len y
  have e : ((y.length : Int) - (lastPart y).length) = ((y.length - (lastPart y).length : Nat) : Int) := by omega
  rw [e, slice_to]
  have e2 : (⟨(List.take (y.length - (lastPart y).length) y.cps.toList).toArray⟩ : Str).length = y.length - (lastPart y).length := by
    show (List.take _ _).toArray.size = _
    rw [List.size_toArray, List.length_take, toList_length]
    omega
  rw [e2]
end
section
set_option maxRecDepth 100000
set_option maxHeartbeats 8000000
/-! what normpath answers is what walking answers -/
theorem strokes_cons (k : Nat) (z : Str) : strokes (k + 1) ++ z = stroke ++ (strokes k ++ z) := by
  refine str_ext ?_
  rw [toList_append', toList_append', toList_append', strokes_list, strokes_list, toList_stroke, List.replicate_succ]
  rfl
theorem strokes_zero (z : Str) : strokes 0 ++ z = z := str_ext (by rw [toList_append', strokes_list]; rfl)
theorem split_strokes (z : Str) : ∀ k, Txt.split (strokes k ++ z) stroke = List.replicate k Str.empty ++ Txt.split z stroke
  | 0 => by rw [strokes_zero]; rfl
  | k + 1 => by rw [strokes_cons, split_stroke, split_strokes z k]; rfl
/-- not begun by a stroke -/
noncomputable def Bare (z : Str) : Prop := z.cps.toList.head? ≠ some 47
theorem cut_strokes (y : Str) : ∃ k z, y = strokes k ++ z ∧ Bare z := by
  have main : ∀ l : List Nat, ∃ k r, l = List.replicate k 47 ++ r ∧ r.head? ≠ some 47 := by
    intro l
    induction l with
    | nil => exact ⟨0, [], rfl, by simp⟩
    | cons a l ih =>
      by_cases h : a = 47
      · obtain ⟨k, r, e, hr⟩ := ih
        exact ⟨k + 1, r, by rw [h, e, List.replicate_succ]; rfl, hr⟩
      · exact ⟨0, a :: l, rfl, by simpa using h⟩
  obtain ⟨k, r, e, hr⟩ := main y.cps.toList
  exact ⟨k, ⟨r.toArray⟩, str_ext (by rw [toList_append', e, strokes_list]), hr⟩
theorem topF_strokes (k : Nat) {z : Str} (hz : Bare z) : topF (strokes k ++ z) = (k : Int) := by
  have main : ∀ (k : Nat) (r : List Nat), r.head? ≠ some 47 → ((List.replicate k 47 ++ r).takeWhile (Str.ofString "/").cps.contains).length = k := by
    intro k r hr
    induction k with
    | zero =>
      cases r with
      | nil => rfl
      | cons a r =>
        have : ¬ (Str.ofString "/").cps.contains a = true := fun c => hr (by rw [(goes_iff a).mp c]; rfl)
        show (List.takeWhile _ (a :: r)).length = 0
        rw [List.takeWhile_cons_of_neg this]
        rfl
    | succ k ih =>
      rw [List.replicate_succ, List.cons_append, List.takeWhile_cons_of_pos ((goes_iff 47).mpr rfl), List.length_cons, ih]
  unfold topF
  show _ - ((Txt.stripBy _ true false _).length : Int) = _
  rw [PyProof.Rows.stripBy_eq]
  have e : PySem.stripLo (Str.ofString "/").cps.contains true (strokes k ++ z) = k := by
    show (List.takeWhile _ (strokes k ++ z).cps.toList).length = k
    rw [toList_append', strokes_list]
    exact main k _ hz
  rw [e, ← toList_length (PySem.Builtin.Str.strSub _ _ _), StrLaws.strSub_toList, List.length_take, List.length_drop, toList_length]
  show _ - ((min ((strokes k ++ z).length - k) ((strokes k ++ z).length - k) : Nat) : Int) = _
  have hl : (strokes k ++ z).length = k + z.length := by rw [Str.length_append]; congr 1; show (List.replicate k 47).toArray.size = k; simp
  rw [hl]
  omega
theorem root_path (k : Nat) {z : Str} (hz : Bare z) : rootF (strokes k ++ z) = prefF (k : Int) ∧ ∃ j, pathF (strokes k ++ z) = strokes j ++ z := by
  have hy : (strokes k ++ z).cps.toList = List.replicate k 47 ++ z.cps.toList := by rw [toList_append', strokes_list]
  have bare1 : z.cps.toList.take 1 ≠ [47] := by
    intro h
    apply hz
    cases hl : z.cps.toList with
    | nil => rw [hl] at h; cases h
    | cons a r => rw [hl] at h; simp at h; rw [h]; rfl
  have a1 := slice_to (strokes k ++ z) 1
  have a2 := slice_to (strokes k ++ z) 2
  have b1 := slice_ij (strokes k ++ z) 1 2 (by omega)
  have b2 := slice_ij (strokes k ++ z) 2 3 (by omega)
  have c1 := slice_from (strokes k ++ z) 1
  have c2 := slice_from (strokes k ++ z) 2
  rw [hy] at a1 a2 b1 b2 c1 c2
  simp only [Nat.reduceSub] at b1 b2
  have slt : sl.cps.toList = [47] := by decide
  have ne : ∀ l : List Nat, l ≠ [47] → ((⟨l.toArray⟩ : Str) != sl) = true := fun l h => by
    rw [bne_iff_ne]
    intro c
    exact h (by have := congrArg (fun q => q.cps.toList) c; rwa [slt] at this)
  have eq : ∀ l : List Nat, l = [47] → (⟨l.toArray⟩ : Str) = sl := fun l h => by rw [h]; decide
  have isz : ∀ l : List Nat, l = z.cps.toList → (⟨l.toArray⟩ : Str) = z := fun l h => str_ext h
  unfold rootF pathF
  simp only [show ((1 : Nat) : Int) = 1 from rfl, show ((2 : Nat) : Int) = 2 from rfl, show ((3 : Nat) : Int) = 3 from rfl] at a1 a2 b1 b2 c1 c2
  rw [a1, a2, b1, b2, c1, c2]
  match k with
  | 0 =>
    rw [if_pos (ne _ (by simpa using bare1)), if_pos (ne _ (by simpa using bare1))]
    exact ⟨rfl, 0, rfl⟩
  | 1 =>
    have h1 : (⟨(List.take 1 (List.replicate 1 47 ++ z.cps.toList)).toArray⟩ : Str) = sl := eq _ (by simp)
    have h2 : ((⟨(List.take 1 (List.drop 1 (List.replicate 1 47 ++ z.cps.toList))).toArray⟩ : Str) != sl) = true := ne _ (by simpa using bare1)
    rw [h1, bne_self_eq_false, if_neg Bool.false_ne_true, if_pos h2, if_neg Bool.false_ne_true, if_pos h2]
    exact ⟨by decide, 0, by rw [strokes_zero]; exact isz _ (by simp)⟩
  | 2 =>
    have h1 : (⟨(List.take 1 (List.replicate 2 47 ++ z.cps.toList)).toArray⟩ : Str) = sl := eq _ (by simp)
    have h2 : (⟨(List.take 1 (List.drop 1 (List.replicate 2 47 ++ z.cps.toList))).toArray⟩ : Str) = sl := eq _ (by simp)
    have h3 : ((⟨(List.take 1 (List.drop 2 (List.replicate 2 47 ++ z.cps.toList))).toArray⟩ : Str) == sl) = false := by
      have := ne (List.take 1 (List.drop 2 (List.replicate 2 47 ++ z.cps.toList))) (by simpa using bare1)
      simpa [bne] using this
    rw [h1, h2, h3, bne_self_eq_false, if_neg Bool.false_ne_true, if_neg Bool.false_ne_true, if_neg Bool.false_ne_true, if_neg Bool.false_ne_true, if_neg Bool.false_ne_true, if_neg Bool.false_ne_true]
    refine ⟨?_, 0, by rw [strokes_zero]; exact isz _ (by simp)⟩
    refine str_ext ?_
    show List.take 2 _ = (Str.ofString "//").cps.toList
    rw [show (Str.ofString "//").cps.toList = [47, 47] by decide]
    simp
  | k + 3 =>
    have h1 : (⟨(List.take 1 (List.replicate (k + 3) 47 ++ z.cps.toList)).toArray⟩ : Str) = sl := eq _ (by simp [List.replicate_succ])
    have h2 : (⟨(List.take 1 (List.drop 1 (List.replicate (k + 3) 47 ++ z.cps.toList))).toArray⟩ : Str) = sl := eq _ (by simp [List.replicate_succ])
    have h3 : (⟨(List.take 1 (List.drop 2 (List.replicate (k + 3) 47 ++ z.cps.toList))).toArray⟩ : Str) = sl := eq _ (by simp [List.replicate_succ])
    rw [h1, h2, h3, bne_self_eq_false, if_neg Bool.false_ne_true, if_neg Bool.false_ne_true, beq_self_eq_true, if_pos rfl, if_neg Bool.false_ne_true, if_neg Bool.false_ne_true, if_pos rfl]
    refine ⟨?_, k + 2, str_ext ?_⟩
    · unfold prefF
      rw [if_neg (by omega), if_pos (by omega)]
    · rw [toList_append', strokes_list]
      simp [List.replicate_succ]
theorem foldl_empties (f : List Str → Str → List Str) (hf : ∀ acc, f acc Str.empty = acc) (r : List Str) : ∀ (k : Nat) (acc : List Str), (List.replicate k Str.empty ++ r).foldl f acc = r.foldl f acc
  | 0, _ => rfl
  | k + 1, acc => by rw [List.replicate_succ, List.cons_append, List.foldl_cons, hf, foldl_empties f hf r k]
theorem step_empty (r : Str) (acc : List Str) : stepF r acc Str.empty = acc := st1 rfl
theorem held_empty (top : Int) (acc : List Str) : heldF top acc Str.empty = acc := hf6 (by decide) (by decide)
theorem getD_getLastD (acc : List Str) (h : acc ≠ []) (d e : Str) : acc.getD ((acc.length : Int) - 1).toNat d = acc.getLastD e := by
  have hl : acc.length ≠ 0 := fun c => h (List.length_eq_zero_iff.mp c)
  rw [show ((acc.length : Int) - 1).toNat = acc.length - 1 from Int.toNat_sub acc.length 1, List.getD_eq_getElem?_getD, ← List.getLast?_eq_getElem?, List.getLastD_eq_getLast?]
  cases hq : acc.getLast? with
  | none => exact absurd (List.getLast?_eq_none_iff.mp hq) h
  | some v => rfl
/-- below a root no name is two points -/
noncomputable def NoUp (top : Int) (acc : List Str) : Prop := 0 < top → Str.ofString ".." ∉ acc
theorem same_step {r : Str} {top : Int} (hr : (r.length : Int) = 0 ↔ ¬ 0 < top) (acc : List Str) (c : Str) (hn : NoUp top acc) : stepF r acc c = heldF top acc c ∧ NoUp top (heldF top acc c) := by
  by_cases h0 : (c.length : Int) = 0
  · have e : c = Str.empty := str_ext (by
      have : c.cps.toList.length = 0 := by rw [toList_length]; omega
      rw [List.length_eq_zero_iff.mp this]; rfl)
    rw [e, step_empty, held_empty]; exact ⟨rfl, hn⟩
  by_cases h1 : (c == Str.ofString ".") = true
  · rw [st2 h0 h1, hf6 (by rw [beq_iff_eq.mp h1]; decide) (by rw [beq_iff_eq.mp h1]; decide)]; exact ⟨rfl, hn⟩
  have h1' : (c == Str.ofString ".") = false := by simpa using h1
  by_cases h2 : (c != Str.ofString "..") = true
  · have h2' : (c == Str.ofString "..") = false := by simpa [bne] using h2
    have h3 : ([Str.ofString "", Str.ofString "."].any fun x => x == c) = false := by
      have e1 : (Str.ofString "" == c) = false := by
        rw [beq_eq_false_iff_ne]; intro q; apply h0; rw [← q]; rfl
      have e2 : (Str.ofString "." == c) = false := by
        rw [beq_eq_false_iff_ne]; intro q; rw [← q, beq_self_eq_true] at h1'; cases h1'
      simp only [List.any_cons, List.any_nil, e1, e2, Bool.or_false]
    rw [st3 h0 h1' h2, hf7 h2' h3]
    refine ⟨rfl, fun ht m => ?_⟩
    rcases List.mem_append.mp m with m | m
    · exact hn ht m
    · rw [← List.mem_singleton.mp m, beq_self_eq_true] at h2'; cases h2'
  have h2' : (c != Str.ofString "..") = false := by simpa using h2
  have h3 : (c == Str.ofString "..") = true := by simpa [bne] using h2'
  have ec : c = Str.ofString ".." := beq_iff_eq.mp h3
  by_cases ha : acc = []
  · subst ha
    by_cases ht : 0 < top
    · rw [st7 h0 h1' h2' (fun q => (hr.mp q) ht) rfl, hf1 h3 rfl ht]; exact ⟨rfl, fun _ => by simp⟩
    · rw [st4 h0 h1' h2' (hr.mpr ht) rfl, hf2 h3 rfl ht, ec]; exact ⟨rfl, fun q => absurd q ht⟩
  · have hl : (acc.length : Int) ≠ 0 := fun q => ha (List.length_eq_zero_iff.mp (by omega))
    have eg := getD_getLastD acc ha Str.empty sl
    by_cases hu : (acc.getLastD sl == Str.ofString "..") = true
    · have hmem : Str.ofString ".." ∈ acc := by
        rw [← beq_iff_eq.mp hu, List.getLastD_eq_getLast?]
        cases hq : acc.getLast? with
        | none => exact absurd (List.getLast?_eq_none_iff.mp hq) ha
        | some v => exact List.mem_of_getLast? hq
      have ht : ¬ 0 < top := fun q => hn q hmem
      rw [st5 h0 h1' h2' hl hu, hf4 h3 hl (by rw [eg]; exact hu) ht, ec]
      exact ⟨rfl, fun q => absurd q ht⟩
    · have hu' : (acc.getLastD sl == Str.ofString "..") = false := by simpa using hu
      rw [st6 h0 h1' h2' hl hu', hf5 h3 hl (by rw [eg]; exact hu')]
      refine ⟨?_, fun q m => hn q (List.mem_of_mem_take m)⟩
      rw [List.dropLast_eq_take]
      congr 1
      omega
theorem same_fold {r : Str} {top : Int} (hr : (r.length : Int) = 0 ↔ ¬ 0 < top) : ∀ (ys acc : List Str), NoUp top acc → ys.foldl (stepF r) acc = ys.foldl (heldF top) acc
  | [], _, _ => rfl
  | y :: ys, acc, hn => by
    obtain ⟨e, hn'⟩ := same_step hr acc y hn
    rw [List.foldl_cons, List.foldl_cons, e, same_fold hr ys _ hn']
/-- the text before the point for nothing -/
noncomputable def toldF (y : Str) : Str := prefF (topF y) ++ Txt.join sl ((Txt.split y sl).foldl (heldF (topF y)) [])
theorem told_walked (y : Str) : walkedF y = if toldF y = Str.empty then Str.ofString "." else toldF y := by
  unfold walkedF
  show (if (toldF y != Str.ofString "") = true then toldF y else _) = _
  have e : Str.ofString "" = Str.empty := by decide
  rw [e]
  by_cases h : toldF y = Str.empty
  · rw [if_pos h, h, bne_self_eq_false, if_neg Bool.false_ne_true]
  · rw [if_neg h, if_pos (bne_iff_ne.mpr h)]
theorem empty_iff (z : Str) : (z.length : Int) = 0 ↔ z = Str.empty := by
  constructor
  · intro h
    refine str_ext ?_
    have : z.cps.toList.length = 0 := by rw [toList_length]; omega
    rw [List.length_eq_zero_iff.mp this]
    rfl
  · rintro rfl; rfl
theorem prefF_len (k : Nat) : ((prefF (k : Int)).length : Int) = 0 ↔ ¬ 0 < (k : Int) := by
  unfold prefF
  split
  · rename_i h; rw [h]; decide
  · split
    · rename_i h; exact ⟨fun q => absurd q (by decide), fun q => absurd h q⟩
    · rename_i h; exact ⟨fun _ => h, fun _ => rfl⟩
theorem law_walked (y : Str) : normF y = walkedF y := by
  obtain ⟨k, z, rfl, hz⟩ := cut_strokes y
  obtain ⟨hr, j, hp⟩ := root_path k hz
  have ht := topF_strokes k hz
  have hv : rootF (strokes k ++ z) ++ Txt.join sl ((Txt.split (pathF (strokes k ++ z)) sl).foldl (stepF (rootF (strokes k ++ z))) []) = toldF (strokes k ++ z) := by
    unfold toldF
    rw [hr, hp, ht]
    have s1 : Txt.split (strokes j ++ z) sl = _ := split_strokes z j
    have s2 : Txt.split (strokes k ++ z) sl = _ := split_strokes z k
    rw [s1, s2, foldl_empties _ (step_empty _), foldl_empties _ (held_empty _), same_fold (prefF_len k) _ _ (fun _ => by simp)]
  rw [told_walked]
  unfold normF
  rw [hv]
  by_cases h : ((strokes k ++ z).length : Int) = 0
  · rw [if_pos h]
    have e := (empty_iff _).mp h
    rw [e]
    have : toldF Str.empty = Str.empty := by
      have hk := topF_strokes 0 (z := Str.empty) (by intro q; simp [Str.empty] at q)
      rw [strokes_zero] at hk
      unfold toldF
      rw [hk]
      have s1 : Txt.split Str.empty sl = _ := split_named free_empty
      rw [s1]
      show prefF ((0 : Nat) : Int) ++ Txt.join sl (heldF ((0 : Nat) : Int) [] Str.empty) = _
      rw [held_empty]
      decide
    rw [if_pos this]
  · rw [if_neg h]
    by_cases h2 : toldF (strokes k ++ z) = Str.empty
    · rw [if_pos h2, if_pos ((empty_iff _).mpr h2)]
    · rw [if_neg h2, if_neg (fun q => h2 ((empty_iff _).mp q))]
end
section
set_option maxRecDepth 100000
set_option maxHeartbeats 8000000
/-! what it tells it tells again; the bound; join -/
theorem held_cases (top : Int) (acc : List Str) (c : Str) : heldF top acc c = acc ∨ (heldF top acc c = acc ++ [c] ∧ c ≠ Str.empty) ∨ ∃ n, heldF top acc c = acc.take n := by
  have up : ∀ c, (c == Str.ofString "..") = true → c ≠ Str.empty := fun c h q => by rw [q] at h; exact absurd h (by decide)
  unfold heldF
  split
  · rename_i h
    have e : c = Str.ofString ".." := beq_iff_eq.mp h
    split
    · split
      · exact .inl (List.append_nil _)
      · exact .inr (.inl ⟨by rw [e], up c h⟩)
    · split
      · split
        · exact .inl (List.append_nil _)
        · exact .inr (.inl ⟨by rw [e], up c h⟩)
      · exact .inr (.inr ⟨_, rfl⟩)
  · split
    · exact .inl rfl
    · rename_i h
      refine .inr (.inl ⟨rfl, fun q => h ?_⟩)
      rw [q]; decide
/-- walked again, the names stay -/
noncomputable def Stay (top : Int) (acc : List Str) : Prop := (∀ n, (acc.take n).foldl (heldF top) [] = acc.take n) ∧ ∀ c ∈ acc, Free c ∧ c ≠ Str.empty
theorem stay_step {top : Int} {acc : List Str} {c : Str} (hs : Stay top acc) (hc : Free c) : Stay top (heldF top acc c) := by
  rcases held_cases top acc c with e | ⟨e, hne⟩ | ⟨n, e⟩
  · rw [e]; exact hs
  · refine ⟨fun n => ?_, fun d hd => ?_⟩
    · rw [e]
      rcases Nat.lt_or_ge acc.length n with h | h
      · rw [List.take_of_length_le (by rw [List.length_append, List.length_singleton]; omega), List.foldl_append]
        have := hs.1 acc.length
        rw [List.take_length] at this
        rw [this]
        exact e
      · rw [List.take_append_of_le_length h]
        exact hs.1 n
    · rw [e] at hd
      rcases List.mem_append.mp hd with hd | hd
      · exact hs.2 d hd
      · rw [List.mem_singleton.mp hd]; exact ⟨hc, hne⟩
  · rw [e]
    exact ⟨fun k => by rw [List.take_take]; exact hs.1 _, fun d hd => hs.2 d (List.mem_of_mem_take hd)⟩
theorem stay_fold {top : Int} : ∀ (ys acc : List Str), Stay top acc → (∀ y ∈ ys, Free y) → Stay top (ys.foldl (heldF top) acc)
  | [], _, h, _ => h
  | y :: ys, acc, h, hf => stay_fold ys _ (stay_step h (hf y (List.mem_cons_self ..))) fun z hz => hf z (List.mem_cons_of_mem _ hz)
theorem held_sign {a b : Int} (h : 0 < a ↔ 0 < b) (acc : List Str) (c : Str) : heldF a acc c = heldF b acc c := by
  unfold heldF
  by_cases hb : 0 < b
  · simp only [if_pos hb, if_pos (h.mpr hb)]
  · simp only [if_neg hb, if_neg (fun q => hb (h.mp q))]
theorem bare_of {z : Str} (hf : Free z) : Bare z := fun h => hf (by
  cases hl : z.cps.toList with
  | nil => rw [hl] at h; cases h
  | cons a r => rw [hl] at h; simp at h; rw [h]; exact List.mem_cons_self ..)
theorem bare_join {l : List Str} (h : ∀ c ∈ l, Free c ∧ c ≠ Str.empty) : Bare (Str.join stroke l) := by
  cases l with
  | nil => intro q; cases q
  | cons a l =>
    have ha := h a (List.mem_cons_self ..)
    cases hl : a.cps.toList with
    | nil => exact absurd (str_ext hl) ha.2
    | cons x r =>
      have hx : x ≠ 47 := fun q => ha.1 (by rw [hl, q]; exact List.mem_cons_self ..)
      have : (Str.join stroke (a :: l)).cps.toList.head? = some x := by
        cases l with
        | nil => show a.cps.toList.head? = _; rw [hl]; rfl
        | cons b l =>
          show (a ++ stroke ++ Str.join stroke (b :: l)).cps.toList.head? = _
          rw [toList_append', toList_append', hl]; rfl
      intro q
      rw [this] at q
      exact hx (Option.some.inj q)
theorem pref_strokes (k : Nat) : ∃ j : Nat, prefF (k : Int) = strokes j ∧ prefF (j : Int) = strokes j ∧ (0 < (j : Int) ↔ 0 < (k : Int)) := by
  unfold prefF
  by_cases h2 : (k : Int) = 2
  · refine ⟨2, by rw [if_pos h2]; decide, by decide, by omega⟩
  · by_cases h1 : 0 < (k : Int)
    · exact ⟨1, by rw [if_neg h2, if_pos h1]; decide, by decide, by omega⟩
    · exact ⟨0, by rw [if_neg h2, if_neg h1]; decide, by decide, by omega⟩
theorem told_twice (y : Str) : toldF (toldF y) = toldF y := by
  obtain ⟨k, z, e, hz⟩ := cut_strokes y
  have ht := topF_strokes k hz
  rw [← e] at ht
  have hS := stay_fold (top := topF y) (Txt.split y sl) [] ⟨fun n => by rw [List.take_nil]; rfl, fun c hc => by cases hc⟩ (split_isfree y)
  obtain ⟨j, h1, h2, h3⟩ := pref_strokes k
  have e1 : toldF y = strokes j ++ Str.join stroke ((Txt.split y sl).foldl (heldF (topF y)) []) := by
    unfold toldF
    have := txt_join ((Txt.split y sl).foldl (heldF (topF y)) [])
    rw [← this, ← h1, ht]
  generalize hcs : (Txt.split y sl).foldl (heldF (topF y)) [] = cs at hS e1
  have hb := bare_join hS.2
  have ht2 := topF_strokes j hb
  rw [← e1] at ht2
  have hsp : Txt.split (toldF y) stroke = List.replicate j Str.empty ++ Txt.split (Str.join stroke cs) stroke := by rw [e1, split_strokes]
  have hfold : (Txt.split (toldF y) sl).foldl (heldF (topF (toldF y))) [] = cs := by
    rw [show Txt.split (toldF y) sl = _ from hsp, foldl_empties _ (held_empty _), ht2]
    have hf : heldF (j : Int) = heldF (topF y) := by
      funext acc c
      exact held_sign (by rw [ht]; exact h3) acc c
    rw [hf]
    by_cases hc : cs = []
    · rw [hc]
      rw [show Txt.split (Str.join stroke []) stroke = [Str.empty] from split_named free_empty]
      exact held_empty (topF y) []
    · rw [split_is hc (fun c m => (hS.2 c m).1) rfl]
      have := hS.1 cs.length
      rwa [List.take_length] at this
  have : toldF (toldF y) = prefF (topF (toldF y)) ++ Txt.join sl ((Txt.split (toldF y) sl).foldl (heldF (topF (toldF y))) []) := rfl
  rw [this, hfold, ht2, h2, show Txt.join sl cs = Str.join stroke cs from txt_join cs, ← e1]
theorem law_twice (y : Str) : normF (normF y) = normF y := by
  rw [law_walked y, law_walked, told_walked y]
  by_cases h : toldF y = Str.empty
  · rw [if_pos h, told_walked]
    have ht := topF_strokes 0 (z := Str.ofString ".") (by unfold Bare; decide)
    rw [strokes_zero] at ht
    have e : toldF (Str.ofString ".") = Str.empty := by
      unfold toldF
      rw [ht, show Txt.split (Str.ofString ".") sl = [Str.ofString "."] from split_named (by unfold Free; decide)]
      decide
    rw [if_pos e]
  · rw [if_neg h, told_walked, told_twice, if_neg h]
theorem join_le (l : List Str) : (Txt.join sl l).length ≤ (l.map (·.length)).sum + l.length := by
  rw [show Txt.join sl l = Str.join stroke l from txt_join l]
  have := StrLaws.join_length_le stroke l
  rw [show stroke.length = 1 from rfl, Nat.mul_one] at this
  exact this
theorem law_normlen (y : Str) : (normF y).length ≤ y.length + 100 := by
  have h1 := rootF_len y
  have h2 := pathF_len y
  have h3 := join_le ((Txt.split (pathF y) sl).foldl (stepF (rootF y)) [])
  have h4 := wt_step (rootF y) (Txt.split (pathF y) sl) []
  have h5 := split_weight (pathF y) sl (by decide)
  simp only [List.map_nil, List.sum_nil, List.length_nil] at h4
  have hd : (Str.ofString ".").length = 1 := rfl
  unfold normF
  split
  · omega
  · split
    · omega
    · rw [Str.length_append]; omega
theorem starts_iff (v : Str) : Txt.startswith v sl = true ↔ v.cps.toList.head? = some 47 := by
  have h := StrLaws.subAt_one v 47 0
  unfold Txt.startswith
  rw [Bool.and_eq_true, decide_eq_true_eq]
  rw [show sl = ⟨#[47]⟩ from stroke_is, List.head?_eq_getElem?]
  exact h
theorem ends_iff (v : Str) : Txt.endswith v sl = true ↔ v.cps.toList.getLast? = some 47 := by
  have h := StrLaws.subAt_one v 47 (v.length - 1)
  have hl := toList_length v
  have h1 : (⟨#[47]⟩ : Str).length = 1 := rfl
  unfold Txt.endswith
  rw [Bool.and_eq_true, decide_eq_true_eq]
  rw [show sl = ⟨#[47]⟩ from stroke_is, List.getLast?_eq_getElem?, hl, h1]
  rw [h1] at h
  rw [← h]
  constructor
  · rintro ⟨a, b⟩; exact ⟨by omega, b⟩
  · rintro ⟨a, b⟩; exact ⟨by omega, b⟩
theorem slice1_iff (v : Str) : (Txt.slice v none (some 1) == sl) = true ↔ v.cps.toList.head? = some 47 := by
  have h := slice_to v 1
  rw [show ((1 : Nat) : Int) = 1 from rfl] at h
  rw [h, beq_iff_eq]
  have slt : sl.cps.toList = [47] := by decide
  constructor
  · intro q
    have := congrArg (fun z => z.cps.toList) q
    simp only [slt] at this
    cases hl : v.cps.toList with
    | nil => rw [hl] at this; cases this
    | cons a r => rw [hl] at this; simp at this; rw [this]; rfl
  · intro q
    refine str_ext ?_
    rw [slt]
    cases hl : v.cps.toList with
    | nil => rw [hl] at q; cases q
    | cons a r => rw [hl] at q; simp at q; rw [q]; rfl
theorem last_item {v : Str} (h : v ≠ Str.empty) : (Txt.item v ((v.length : Int) - 1) != sl) = true ↔ ¬ v.cps.toList.getLast? = some 47 := by
  have hl := toList_length v
  have h0 : v.length ≠ 0 := fun q => h ((empty_iff v).mp (by omega))
  have hi : PySem.seqIndex? ((v.length : Int) - 1) v.length = some (v.length - 1) := by
    obtain ⟨n, hn⟩ := Nat.exists_eq_succ_of_ne_zero h0
    rw [hn, show (((n + 1 : Nat) : Int) - 1) = (n : Int) from Int.add_sub_cancel (n : Int) 1]
    unfold PySem.seqIndex?
    rw [if_neg (nn n), if_pos (by rw [Bool.and_eq_true, decide_eq_true_eq, decide_eq_true_eq]; exact ⟨Int.natCast_nonneg _, Int.ofNat_lt.mpr (Nat.lt_succ_self n)⟩)]
    rfl
  have hc : Txt.charAt v ((v.length : Int) - 1) = v.cps.toList.getLast? := by
    unfold Txt.charAt
    rw [hi, List.getLast?_eq_getElem?, hl]
    simp
  have slt : sl = ⟨#[47]⟩ := stroke_is
  rw [bne_iff_ne]
  unfold Txt.item
  rw [hc, slt]
  cases hq : v.cps.toList.getLast? with
  | none => exact absurd (List.getLast?_eq_none_iff.mp hq) (fun q => h0 (by rw [← hl, q]; rfl))
  | some c => simp
theorem law_join (x y : Str) : joinStep x y = joinedF x y := by
  have em : Str.ofString "" = Str.empty := by decide
  unfold joinStep joinedF
  by_cases hs : y.cps.toList.head? = some 47
  · rw [if_pos ((starts_iff y).mpr hs), if_pos ((slice1_iff y).mpr hs)]
  · rw [if_neg (fun q => hs ((starts_iff y).mp q)), if_neg (fun q => hs ((slice1_iff y).mp q))]
    by_cases hx : x = Str.empty
    · rw [if_pos ((empty_iff x).mpr hx), hx, em, bne_self_eq_false, if_neg Bool.false_ne_true, Str.append_empty, Str.empty_append]
    · rw [if_neg (fun q => hx ((empty_iff x).mp q)), em, if_pos (bne_iff_ne.mpr hx)]
      by_cases he : x.cps.toList.getLast? = some 47
      · rw [if_pos ((ends_iff x).mpr he), if_neg (fun q => (last_item hx).mp q he), Str.append_empty]
      · rw [if_neg (fun q => he ((ends_iff x).mp q)), if_pos ((last_item hx).mpr he), Str.append_assoc]
end
section
set_option maxRecDepth 100000
set_option maxHeartbeats 8000000
/-! the longest row of names that both begin with -/
theorem pre_comm : ∀ X Y : List Str, pre X Y = pre Y X
  | [], [] => rfl
  | [], _ :: _ => rfl
  | _ :: _, [] => rfl
  | x :: X, y :: Y => by
    rw [pre_cons, pre_cons]
    by_cases h : x = y
    · rw [if_pos h, if_pos h.symm, pre_comm X Y, h]
    · rw [if_neg h, if_neg (fun q => h q.symm)]
theorem ord_false : ∀ X Y : List Str, ordL ltS (fun m n => decide (m < n)) Y X = false → ordL gtS (fun m n => decide (m > n)) Y X = false → X = Y
  | [], [], _, _ => rfl
  | [], _ :: _, _, h => by rw [ordL_nil2] at h; exact absurd (Nat.succ_pos _) (of_decide_eq_false h)
  | _ :: _, [], h, _ => by rw [ordL_nil] at h; exact absurd (Nat.succ_pos _) (of_decide_eq_false h)
  | x :: X, y :: Y, h1, h2 => by
    rw [ordL_cons] at h1 h2
    by_cases h : y = x
    · rw [if_pos h] at h1 h2
      rw [h, ord_false X Y h1 h2]
    · rw [if_neg h] at h1 h2
      unfold ltS at h1
      unfold gtS at h2
      exact absurd (str_ext (List.le_antisymm (of_decide_eq_false h2) (of_decide_eq_false h1))) h
theorem ord_true : ∀ X Y : List Str, ordL ltS (fun m n => decide (m < n)) Y X = true → ordL gtS (fun m n => decide (m > n)) Y X = true → False
  | [], [], h, _ => by rw [ordL_nil] at h; exact Nat.lt_irrefl _ (of_decide_eq_true h)
  | [], _ :: _, h, _ => by rw [ordL_nil2] at h; exact Nat.not_lt_zero _ (of_decide_eq_true h)
  | _ :: _, [], _, h => by rw [ordL_nil] at h; exact Nat.not_lt_zero _ (of_decide_eq_true h)
  | x :: X, y :: Y, h1, h2 => by
    rw [ordL_cons] at h1 h2
    by_cases h : y = x
    · rw [if_pos h] at h1 h2
      exact ord_true X Y h1 h2
    · rw [if_neg h] at h1 h2
      unfold ltS at h1
      unfold gtS at h2
      exact List.lt_asymm (of_decide_eq_true h1) (of_decide_eq_true h2)
theorem pre_minmax (X Y : List Str) : pre (minL X Y) (maxL X Y) = pre X Y := by
  unfold minL maxL
  cases h1 : ordL ltS (fun m n => decide (m < n)) Y X <;> cases h2 : ordL gtS (fun m n => decide (m > n)) Y X
  · rw [if_neg Bool.false_ne_true, ord_false X Y h1 h2]
  · rw [if_neg Bool.false_ne_true, if_pos rfl]
  · rw [if_pos rfl, if_neg Bool.false_ne_true, pre_comm]
  · exact (ord_true X Y h1 h2).elim
theorem t3_facts : ∀ v ∈ t3, Free v ∧ keepF v = true ∧ v.length ≤ 3 := by
  intro v hv
  simp only [t3, List.mem_cons, List.not_mem_nil, or_false] at hv
  rcases hv with rfl | rfl | rfl
  · exact ⟨by unfold Free; decide, by decide, by decide⟩
  · exact ⟨by unfold Free; decide, by decide, by decide⟩
  · exact ⟨by unfold Free; decide, by decide, by decide⟩
theorem keep_named {l : List Str} (h : Named l) : l.filter keepF = l := List.filter_eq_self.mpr fun v hv => (t3_facts v (h v hv)).2.1
theorem keep_empty : keepF Str.empty = false := by decide
theorem law_names {l : List Str} (h : Named l) : partsF (Str.ofString "/" ++ Txt.join (Str.ofString "/") l) = l := by
  unfold partsF
  have e : Txt.join (Str.ofString "/") l = Str.join stroke l := txt_join l
  rw [e, show Txt.split (Str.ofString "/" ++ Str.join stroke l) (Str.ofString "/") = _ from split_stroke _, List.filter_cons_of_neg (by rw [keep_empty]; exact Bool.false_ne_true)]
  by_cases hl : l = []
  · rw [hl, show Txt.split (Str.join stroke []) stroke = _ from split_named free_empty]; decide
  · rw [split_is hl (fun p hp => (t3_facts p (h p hp)).1) rfl, keep_named h]
noncomputable def gaps : List Str → List Str
  | [] => [Str.empty, Str.empty]
  | [a] => [a, Str.empty]
  | a :: b :: r => a :: Str.empty :: gaps (b :: r)
theorem gaps_ne : ∀ l, gaps l ≠ []
  | [] => by simp [gaps]
  | [a] => by simp [gaps]
  | a :: b :: r => by simp [gaps]
theorem gaps_join : ∀ l, Str.join stroke (gaps l) = Str.join (Str.ofString "//") l ++ stroke
  | [] => by decide
  | [a] => by
    show a ++ stroke ++ Str.empty = a ++ stroke
    rw [Str.append_empty]
  | a :: b :: r => by
    show Str.join stroke (a :: Str.empty :: gaps (b :: r)) = a ++ Str.ofString "//" ++ Str.join (Str.ofString "//") (b :: r) ++ stroke
    rw [join_cons2 _ (by simp), join_cons2 _ (gaps_ne _), gaps_join (b :: r), Str.empty_append]
    have : Str.ofString "//" = stroke ++ stroke := by decide
    rw [this]
    simp only [Str.append_assoc]
theorem gaps_free : ∀ l, Named l → ∀ p ∈ gaps l, Free p
  | [], _, p, hp => by
    simp only [gaps, List.mem_cons, List.not_mem_nil, or_false, or_self] at hp
    rw [hp]; exact free_empty
  | [a], h, p, hp => by
    simp only [gaps, List.mem_cons, List.not_mem_nil, or_false] at hp
    rcases hp with rfl | rfl
    · exact (t3_facts p (h p (List.mem_cons_self ..))).1
    · exact free_empty
  | a :: b :: r, h, p, hp => by
    simp only [gaps, List.mem_cons] at hp
    rcases hp with rfl | rfl | hp
    · exact (t3_facts p (h p (List.mem_cons_self ..))).1
    · exact free_empty
    · exact gaps_free (b :: r) (fun v hv => h v (List.mem_cons_of_mem _ hv)) p hp
theorem gaps_keep : ∀ l, Named l → (gaps l).filter keepF = l
  | [], _ => by decide
  | [a], h => by
    have ha := (t3_facts a (h a (List.mem_cons_self ..))).2.1
    show [a, Str.empty].filter keepF = [a]
    rw [List.filter_cons_of_pos ha, List.filter_cons_of_neg (by rw [keep_empty]; exact Bool.false_ne_true)]
    rfl
  | a :: b :: r, h => by
    have ha := (t3_facts a (h a (List.mem_cons_self ..))).2.1
    show (a :: Str.empty :: gaps (b :: r)).filter keepF = _
    rw [List.filter_cons_of_pos ha, List.filter_cons_of_neg (by rw [keep_empty]; exact Bool.false_ne_true), gaps_keep (b :: r) (fun v hv => h v (List.mem_cons_of_mem _ hv))]
theorem law_others {l : List Str} (h : Named l) : partsF (Str.ofString "/" ++ Txt.join (Str.ofString "//") l ++ Str.ofString "/") = l := by
  unfold partsF
  have e : Txt.join (Str.ofString "//") l = Str.join (Str.ofString "//") l := StrLaws.glued_eq_join _ _
  rw [e, Str.append_assoc]
  have e2 : Str.join (Str.ofString "//") l ++ Str.ofString "/" = Str.join stroke (gaps l) := (gaps_join l).symm
  rw [e2, show Txt.split (Str.ofString "/" ++ Str.join stroke (gaps l)) (Str.ofString "/") = _ from split_stroke _, List.filter_cons_of_neg (by rw [keep_empty]; exact Bool.false_ne_true)]
  rw [split_is (gaps_ne l) (gaps_free l h) rfl, gaps_keep l h]
theorem law_common {A B : List Str} (hA : Named A) (hB : Named B) : cpF (Str.ofString "/" ++ Txt.join (Str.ofString "/") A) (Str.ofString "/" ++ Txt.join (Str.ofString "//") B ++ Str.ofString "/") = Str.ofString "/" ++ Txt.join (Str.ofString "/") (pre A B) := by
  unfold cpF
  rw [law_names hA, law_others hB, pre_minmax]
theorem same_all {A B : List Str} {k : Nat} (h : A.take k = B.take k) (hk : A.length ≤ k ∨ B.length ≤ k) : pre A B = A.take k := by
  rcases Nat.lt_or_ge k A.length with h1 | h1
  · have h2 : B.length ≤ k := by omega
    have hg : A[k]? = some A[k] := List.getElem?_eq_getElem h1
    exact pre_stop A B k _ h hg (fun z hz => by rw [List.getElem?_eq_none h2] at hz; cases hz)
  · rw [List.take_of_length_le h1] at h ⊢
    refine pre_all A B ?_
    rw [h, List.length_take]
    rcases Nat.le_total k B.length with h2 | h2
    · rw [Nat.min_eq_left h2]
    · rw [Nat.min_eq_right h2, List.take_of_length_le h2, List.take_length]
theorem starts_stroke (z : Str) : Txt.startswith (Str.ofString "/" ++ z) (Str.ofString "/") = true := by
  refine (starts_iff _).mpr ?_
  rw [toList_append', toList_stroke]
  rfl
theorem named_sum {l : List Str} (h : Named l) : (l.map (·.length)).sum ≤ 3 * l.length := by
  induction l with
  | nil => exact Nat.zero_le _
  | cons a l ih =>
    have h1 := (t3_facts a (h a (List.mem_cons_self ..))).2.2
    have h2 := ih fun v hv => h v (List.mem_cons_of_mem _ hv)
    simp only [List.map_cons, List.sum_cons, List.length_cons]
    omega
end
section
set_option maxRecDepth 100000
set_option maxHeartbeats 8000000
section
variable {prog : Program} {w : World} {A : Around} {E : Value → Shared → Prop} {s : Shared} {env : Env} {h₀ : Heap} {L : Addr} {Q : Flow → Shared → Prop} {x : Str}
/-- what a turn of the count of same names leaves -/
noncomputable def SPost (h₀ : Heap) (L : Addr) (x : Str) (m₀ : Str → Option Value) (led : List (Addr × Obj)) (as bs : List Str) (i : Nat) (s₁ : Shared) (f : Flow) (s₂ : Shared) : Prop :=
  f = .next ∧ ∃ h' tk t, s₂ = { s₁ with heap := h', toks := tk } ∧ Fr h₀ L h' (fun z => if z = x then some (.int ((i : Int) + 1) t) else m₀ z) ∧ News h₀ L h' led ∧ as.take (i + 1) = bs.take (i + 1) ∧ i < as.length
theorem spost_end {m₀ : Str → Option Value} {led : List (Addr × Obj)} {as bs : List Str} {i : Nat} {s₁ : Shared} {h' : Heap} {tk : Nat} {t : Tok} {b : Option Value}
    (F : Fr h₀ L h' (fun z => if z = x then some (.int ((i : Int) + 1) t) else if z = x then b else m₀ z)) (N : News h₀ L h' led) (e : as.take (i + 1) = bs.take (i + 1)) (hi : i < as.length) : SPost h₀ L x m₀ led as bs i s₁ .next { s₁ with heap := h', toks := tk } :=
  ⟨rfl, h', tk, t, rfl, (show (fun z => if z = x then some (.int ((i : Int) + 1) t) else if z = x then b else m₀ z) = (fun z => if z = x then some (.int ((i : Int) + 1) t) else m₀ z) from by
    funext z
    by_cases h : z = x
    · simp only [if_pos h]
    · simp only [if_neg h]) ▸ F, N, e, hi⟩
/-- where the count stands when it ends -/
noncomputable def SDone (h₀ : Heap) (L : Addr) (x : Str) (m₀ : Str → Option Value) (led : List (Addr × Obj)) (as bs : List Str) (i : Nat) (s₁ : Shared) (s₂ : Shared) : Prop :=
  ∃ h' tk t, s₂ = { s₁ with heap := h', toks := tk } ∧ Fr h₀ L h' (fun z => if z = x then some (.int (i : Int) t) else m₀ z) ∧ News h₀ L h' led ∧ pre as bs = as.take i
theorem sdone_end {m₀ : Str → Option Value} {led : List (Addr × Obj)} {as bs : List Str} {i : Nat} {s₁ : Shared} {h' : Heap} {tk : Nat} {t : Tok}
    (F : Fr h₀ L h' (fun z => if z = x then some (.int (i : Int) t) else m₀ z)) (N : News h₀ L h' led) (e : pre as bs = as.take i) : SDone h₀ L x m₀ led as bs i s₁ { s₁ with heap := h', toks := tk } :=
  ⟨h', tk, t, rfl, F, N, e⟩
theorem sameLoop {test : PySem.Expr} {body : List Stmt} {pos : Pos} {m₀ : Str → Option Value} {news : List (Addr × Obj)} {t₀ : Tok} (as bs : List Str)
    (F : Fr h₀ L s.heap (fun z => if z = x then some (.int 0 t₀) else m₀ z)) (N : News h₀ L s.heap news)
    (turn : ∀ (i : Nat) t h tk, as.take i = bs.take i → i ≤ as.length → Fr h₀ L h (fun z => if z = x then some (.int (i : Int) t) else m₀ z) → News h₀ L h news →
      wpAny (model prog w) A (isTrue test env (eval test env)) (fun b s₂ =>
        if b = true then wpAny (model prog w) A (execs body env) (SPost h₀ L x m₀ news as bs i { s with heap := h, toks := tk }) E s₂ else SDone h₀ L x m₀ news as bs i { s with heap := h, toks := tk } s₂) E { s with heap := h, toks := tk })
    (done : ∀ (i : Nat) t h tk, pre as bs = as.take i → Fr h₀ L h (fun z => if z = x then some (.int (i : Int) t) else m₀ z) → News h₀ L h news → Q .next { s with heap := h, toks := tk })
    (hE : PassesOwn (model prog w) A env E := by passes_own) :
    wpAny (model prog w) A (exec (.While test body [] pos) env) Q E s := by
  refine While_inv (fun n m' nx => ∃ (i : Nat) (t : Tok), n = as.length - i ∧ i ≤ as.length ∧ as.take i = bs.take i ∧ m' = (fun z => if z = x then some (.int (i : Int) t) else m₀ z) ∧ nx = news) (n₀ := as.length) F N ⟨0, t₀, rfl, Nat.zero_le _, rfl, rfl, rfl⟩ ?_ hE
  rintro n m₁ news₁ h₁ tk₁ F₁ N₁ ⟨i, t, rfl, hi, he, rfl, rfl⟩
  refine wpAny_mono (turn i t h₁ tk₁ he hi F₁ N₁) (fun b s₂ h₂ => ?_) fun _ _ e => e
  cases b with
  | false =>
    rw [if_neg Bool.false_ne_true] at h₂ ⊢
    obtain ⟨h', tk, t', rfl, F', N', hp⟩ := h₂
    exact done i t' h' tk hp F' N'
  | true =>
    rw [if_pos rfl] at h₂ ⊢
    refine wpAny_mono h₂ (fun f s₃ h₃ => ?_) fun _ _ e => e
    obtain ⟨rfl, h', tk, t', rfl, F', N', he', hi'⟩ := h₃
    exact WhileStep.intro F' N' (show as.length - (i + 1) < as.length - i by omega) ⟨i + 1, t', rfl, hi', he', rfl, rfl⟩
end
theorem six {P : Str → Prop} {a b c d e f y : Str} (h : y ∈ [a, b, c, d, e, f]) (h1 : P a) (h2 : P b) (h3 : P c) (h4 : P d) (h5 : P e) (h6 : P f) : P y := by
  simp only [List.mem_cons, List.not_mem_nil, or_false] at h
  rcases h with rfl | rfl | rfl | rfl | rfl | rfl <;> assumption
theorem six_len {p h r y : Str} (hy : y ∈ [p, h, r, Str.ofString "/" ++ p, Str.ofString "//" ++ r, h ++ Str.ofString "/../" ++ r]) (hp : p.length ≤ 189) (hh : h.length ≤ 189) (hr : r.length ≤ 189) : y.length < 400 := by
  refine six (P := fun z => z.length < 400) hy ?_ ?_ ?_ ?_ ?_ ?_
  · omega
  · omega
  · omega
  · show (_ : Str).length < 400
    rw [Str.length_append, show (Str.ofString "/").length = 1 from rfl]; omega
  · show (_ : Str).length < 400
    rw [Str.length_append, show (Str.ofString "//").length = 2 from rfl]; omega
  · show (_ : Str).length < 400
    rw [Str.length_append, Str.length_append, show (Str.ofString "/../").length = 4 from rfl]; omega
theorem joined_len (x y : Str) : (joinedF x y).length ≤ x.length + y.length + 1 := by
  have h1 : sl.length = 1 := rfl
  have h2 : (Str.ofString "").length = 0 := rfl
  unfold joinedF
  (repeat' split) <;> first | omega | (simp only [Str.length_append]; omega)
theorem law_join3 (x y z : Str) : joinStep (joinStep x y) z = joinedF (joinedF x y) z := by rw [law_join, law_join]
theorem named_take {l : List Str} (h : Named l) (k : Nat) : Named (l.take k) := fun v hv => h v (List.mem_of_mem_take hv)
theorem named_append {a b : List Str} (h : Named a) (k : Named b) : Named (a ++ b) := fun v hv => (List.mem_append.mp hv).elim (h v) (k v)
theorem law_end {A B : List Str} {i : Nat} (hA : Named A) (hB : Named B) (h : pre A B = A.take i) :
    cpF (Str.ofString "/" ++ Txt.join (Str.ofString "/") A) (Str.ofString "/" ++ Txt.join (Str.ofString "//") B ++ Str.ofString "/") = Str.ofString "/" ++ Txt.join (Str.ofString "/") (A.take ((i : Int)).toNat) := by
  rw [law_common hA hB, h, Int.toNat_natCast]
theorem half_le {n : Nat} (h : n ≤ 63) : ((n : Int).fdiv 2).toNat ≤ 31 := by
  rw [Int.fdiv_eq_ediv_of_nonneg _ (by decide)]; omega
theorem names_sum {l : List Str} (h : Named l) (hl : l.length ≤ 94) : (l.map (·.length)).sum ≤ 282 := Nat.le_trans (named_sum h) (Nat.mul_le_mul_left 3 hl)
theorem lt_both {i a c : Nat} (h : (i : Int) < if (c : Int) < (a : Int) then (c : Int) else (a : Int)) : i < a ∧ i < c := by
  split at h <;> omega
theorem names_len {l : List Str} (h : Named l) (hl : l.length ≤ 63) : (Txt.join (Str.ofString "/") l).length ≤ 252 := by
  have hj := StrLaws.join_length_le (Str.ofString "/") l
  rw [← StrLaws.glued_eq_join, show (Str.ofString "/").length = 1 from rfl, Nat.mul_one] at hj
  change (Txt.join (Str.ofString "/") _).length ≤ _ at hj
  have := named_sum h
  omega
theorem others_len {l : List Str} (h : Named l) (hl : l.length ≤ 94) : (Txt.join (Str.ofString "//") l).length ≤ 470 := by
  have hj := StrLaws.join_length_le (Str.ofString "//") l
  rw [← StrLaws.glued_eq_join, show (Str.ofString "//").length = 2 from rfl] at hj
  change (Txt.join (Str.ofString "//") _).length ≤ _ at hj
  have := named_sum h
  omega
theorem both_len {A B : List Str} (hA : A.length ≤ 63) (hB : B.length ≤ 63) : (List.take ((A.length : Int).fdiv 2).toNat A ++ B).length ≤ 94 := by
  have := half_le hA
  rw [List.length_append, List.length_take]; omega
theorem same_next {A B : List Str} {i : Nat} (hp : A.take i = B.take i) (h1 : i < A.length) (h2 : i < B.length) (e : (A.getD ((i : Int)).toNat Str.empty == B.getD ((i : Int)).toNat Str.empty) = true) : A.take (i + 1) = B.take (i + 1) :=
  take_next hp (getD_at h1) (getD_at h2) (by simpa using e)
theorem same_stop {A B : List Str} {i : Nat} (hp : A.take i = B.take i) (h1 : i < A.length) (h2 : i < B.length) (e : (A.getD ((i : Int)).toNat Str.empty == B.getD ((i : Int)).toNat Str.empty) = false) : pre A B = A.take i :=
  pre_stop A B i _ hp (getD_at h1) fun z hz => by
    rw [getD_at h2] at hz
    exact (Option.some.inj hz) ▸ (by simpa using e)
theorem ite_false' {P Q : Prop} (h : Q) : if false = true then P else Q := by rw [if_neg Bool.false_ne_true]; exact h
end
section
theorem calmM1 : True := by w_top off; trivial
set_option maxRecDepth 100000
set_option maxHeartbeats 0
set_option linter.unusedSimpArgs false
theorem baseSize {vs : List Value} {ns : List Int} (h : IntsAre vs ns) (hn : ns.length ≤ 63) : vs.toArray.size ≤ sizeLine := by
  rw [List.size_toArray, h.length, PySem.sizeLine_eq]; omega
theorem mainW : PySem.Challenge.rw_xc0040_01.Holds := by
  refine hd ?_
  w_strict (
    k_go0
    all_goals try k_fold
    (repeat' (first
        | (k_unfold; (try dsimp only))
        | (k_end; wrow_close)
        | ((first | with_reducible show wpAny _ _ (exec _ _) _ _ _ | with_reducible show wpAny _ _ (PySem.isTrue _ _ _) _ _ _); k_fold)
        | (with_reducible ((with_reducible show wpAny _ _ (compareOp CmpOp.Eq (Value.str _ _) (Value.str _ _)) _ _ _); (k_here; k_dflt (refine' eqS ?zqe ?_; (case zqe => with_reducible assumption)); (try dsimp only))))
        | (with_reducible ((with_reducible show wpAny _ _ (compareOp CmpOp.Eq (Value.ref _) (Value.ref _)) _ _ _); (k_here; (with_reducible show wpAny _ _ (compareOp CmpOp.Eq (Value.ref _) (Value.ref _)) _ _ _); k_dflt (refine' eqNilL ?zqN ?zqm ?zqm2 ?zqs ?zqu ?_; (case zqN => k_asm); (case zqm => k_mem); (case zqm2 => k_mem); (case zqs => assumption); (case zqu => ktr_units)); (try dsimp only))))
        | (with_reducible ((with_reducible show wpAny _ _ (subscriptTail (PySem.Expr.Name _ _) (PySem.Expr.Name _ _) (Value.ref _) (Value.int _ _)) _ _ _); (k_here; k_dflt (refine' itemL ?zqN ?zqm ?zqs ?zqy ?zqz ?zqf ?_ ?zqhs ?zqhg; (case zqN => k_asm); (case zqm => k_mem); (case zqs => with_reducible assumption); (case zqy => first | exact Int.natCast_nonneg _ | omega); (case zqz => first | exact Int.ofNat_lt.mpr (lt_both (by with_reducible assumption)).1 | exact Int.ofNat_lt.mpr (lt_both (by with_reducible assumption)).2 | omega); (case zqf => first | exact Nat.lt_of_lt_of_le (by with_reducible assumption) (by decide) | exact Nat.lt_of_le_of_lt (by with_reducible assumption) (by decide) | exact Nat.le_trans (by with_reducible assumption) (by decide) | omega); (case zqhs => with_unfolding_all rfl); (case zqhg => (intro _; with_unfolding_all rfl))); intro _; (try dsimp only))))
        | (with_reducible ((with_reducible show wpAny _ _ (exec (Stmt.While _ _ _ _) _) _ _ _); ((with_reducible show wpAny _ _ (exec (Stmt.While _ _ _ _) _) _ _ _); refine Held.out ?_)))
        | (with_reducible ((with_reducible show wpAny _ _ (binaryOp _ (Value.ref _) (Value.ref _)) _ _ _); (k_here; (with_reducible show wpAny _ _ (binaryOp _ (Value.ref _) (Value.ref _)) _ _ _); k_dflt (refine' addL ?zqF ?zqN ?zqm ?zqm2 ?zqs ?zqs2 ?zqz ?_; (case zqF => k_asm); (case zqN => k_asm); (case zqm => k_mem); (case zqm2 => k_mem); (case zqs => assumption); (case zqs2 => assumption); (case zqz => ((try simp only [List.length_take]); omega))); intro D9q h9q F9q N9q S9q l9q; (try k_lt l9q); (try dsimp only))))
        | (with_reducible ((with_reducible show wpAny _ _ (eval (PySem.Expr.ListComp _ _ _ _) _) _ _ _); (k_here; k_dflt (refine LCg.ListComp_U (F₀ := by k_asm) (by with_unfolding_all rfl) (by decide) (by rfl) (by decide) (by rfl) ?_); walk1; k_dflt (refine LCg.CompSrc.base (by rfl) (by k_asm) (by k_asm) (by assumption) (baseSize (by assumption) (by omega)) ?_); intro g9; k_dflt (refine' namesRest g33 named_g33 ?zqi ?zqS ?zqn ?zqt ?_; (case zqi => assumption); (case zqS => exact Or.inl (by assumption)); (case zqn => first | exact Nat.lt_of_lt_of_le (by with_reducible assumption) (by decide) | exact Nat.lt_of_le_of_lt (by with_reducible assumption) (by decide) | exact Nat.le_trans (by with_reducible assumption) (by decide) | omega); (case zqt => (intro k9 t9 I9 oI9 C9 oC9 D9 oD9 m9 h9 tk9 E9 hC9 hx9 F9 N9; ((k_steps; all_goals (refine' TextOne.intro ?zqb ?zqF ?zqN ?zqs; (case zqF => k_asm); (case zqN => k_asm); (case zqs => ((intro pq hpq; repeat (first | with_reducible exact hpq | refine List.mem_cons_of_mem _ ?_)))); (case zqb => ((rename Int.fmod _ _ = _ => hK9q); (first | unfold g7 | unfold g3 | unfold g33); rw [hK9q]; rfl)))))))); intro ysB BB hB1 hB2 hB)))
        | (with_reducible ((with_reducible show wpAny _ _ (exec (Stmt.Assign _ (PySem.Expr.ListComp _ _ _ _) _) _) _ _ _); (first | ((k_here; (with_reducible show wpAny _ _ (exec (Stmt.Assign [Expr.Name (Str.ofString "names") _] _ _) _) _ _ _); k_dflt (refine LCg.Assign_ListComp_U (F₀ := by k_asm) (by rfl) (by with_unfolding_all rfl) (by with_unfolding_all rfl) (by decide) (by rfl) (by decide) (by rfl) (by rfl) (by rfl) ?_); walk1; k_dflt (refine LCg.CompSrc.base (by rfl) (by k_asm) (by k_asm) (by assumption) (baseSize (by assumption) (by omega)) ?_); intro g9; k_dflt (refine' namesRest g3 named_g3 ?zqi ?zqS ?zqn ?zqt ?_; (case zqi => assumption); (case zqS => exact Or.inl (by assumption)); (case zqn => first | exact Nat.lt_of_lt_of_le (by with_reducible assumption) (by decide) | exact Nat.lt_of_le_of_lt (by with_reducible assumption) (by decide) | exact Nat.le_trans (by with_reducible assumption) (by decide) | omega); (case zqt => (intro k9 t9 I9 oI9 C9 oC9 D9 oD9 m9 h9 tk9 E9 hC9 hx9 F9 N9; ((k_steps; all_goals (refine' TextOne.intro ?zqb ?zqF ?zqN ?zqs; (case zqF => k_asm); (case zqN => k_asm); (case zqs => ((intro pq hpq; repeat (first | with_reducible exact hpq | refine List.mem_cons_of_mem _ ?_)))); (case zqb => ((rename Int.fmod _ _ = _ => hK9q); (first | unfold g7 | unfold g3 | unfold g33); rw [hK9q]; rfl)))))))); intro ysA AA hA1 hA2 hA)) | ((k_here; (with_reducible show wpAny _ _ (exec (Stmt.Assign [Expr.Name (Str.ofString "pieces") _] _ _) _) _ _ _); k_dflt (refine LCg.Assign_ListComp_U (F₀ := by k_asm) (by rfl) (by with_unfolding_all rfl) (by with_unfolding_all rfl) (by decide) (by rfl) (by decide) (by rfl) (by rfl) (by rfl) ?_); walk1; k_dflt (refine LCg.CompSrc.base (by rfl) (by k_asm) (by k_asm) (by assumption) (baseSize (by assumption) (by omega)) ?_); intro g9q; k_dflt (refine' piecesRest ?zqi ?zqS ?zqn ?zqt ?_; (case zqi => assumption); (case zqS => exact Or.inl (by assumption)); (case zqn => first | exact Nat.lt_of_lt_of_le (by with_reducible assumption) (by decide) | exact Nat.lt_of_le_of_lt (by with_reducible assumption) (by decide) | exact Nat.le_trans (by with_reducible assumption) (by decide) | omega); (case zqt => (intro k9q t9q I9q oI9q C9q oC9q D9q oD9q m9q h9q tk9q E9q hC9q hx9q F9q N9q; ((k_steps; all_goals (refine' TextOne.intro ?zqb ?zqF ?zqN ?zqs; (case zqF => k_asm); (case zqN => k_asm); (case zqs => ((intro pq hpq; repeat (first | with_reducible exact hpq | refine List.mem_cons_of_mem _ ?_)))); (case zqb => ((rename Int.fmod _ _ = _ => hK9q); (first | unfold g7 | unfold g3 | unfold g33); rw [hK9q]; rfl)))))))); intro ys9q P9q hP9q hys9q; (unfold PFit at hP9q); (rcases hP9q with ⟨hP1q, hP2q, hP3q, hP4q⟩))))))
        | (with_reducible ((with_reducible show wpAny _ _ (compareOp CmpOp.NotEq (Value.str _ _) (Value.str _ _)) _ _ _); (first | ((k_here; k_dflt (refine' neS ?zqe ?_; (case zqe => first | with_reducible assumption | with_reducible exact Eq.symm (by with_reducible assumption) | with_reducible exact law_join _ _ | with_reducible exact law_join3 _ _ _)); (try dsimp only))) | ((k_here; k_dflt (refine' neS ?zqe ?_; (case zqe => first | with_reducible assumption | with_reducible exact Eq.symm (by with_reducible assumption))); (try dsimp only))))))
        | (with_reducible ((with_reducible show wpAny _ _ (call (Value.ref _) _ _) _ _ _); (first | ((k_here; k_dflt (refine' useS (cp_ok _ _ _ _ _ _ _ _ _ _ _ _ ?zqkx ?zqky ?zqkz ?zqkw) ?zqk1 ?zqk2 ?zqk3 ?zqk4 ?zqk5 ?zqkK ?zqkp ?zqkd ?zqku ?_); k_dflt ((((case zqk1 => k_asm); (case zqk2 => k_asm); (case zqk3 => k_asm); (case zqk4 => k_asm); (case zqk5 => k_asm); (case zqkK => first | exact rfl | assumption); (case zqkp => first | trivial | assumption); (case zqkd => first | decide | (rw [Nat.add_assoc]; exact dp_le hdp (by decide)) | ktr_room); (case zqku => first | decide | (rw [Nat.add_assoc]; exact un_le hun (by decide)) | ktr_units))); (case zqkx => first | exact Nat.lt_of_lt_of_le (by with_reducible assumption) (by decide) | exact Nat.lt_of_le_of_lt (by with_reducible assumption) (by decide) | exact Nat.le_trans (by with_reducible assumption) (by decide) | omega); (case zqky => first | exact Nat.lt_of_lt_of_le (by with_reducible assumption) (by decide) | exact Nat.lt_of_le_of_lt (by with_reducible assumption) (by decide) | exact Nat.le_trans (by with_reducible assumption) (by decide) | omega); (case zqkz => ((first | with_reducible exact starts_stroke _ | (rw [Str.append_assoc]; exact starts_stroke _)))); (case zqkw => ((first | with_reducible exact starts_stroke _ | (rw [Str.append_assoc]; exact starts_stroke _))))); intro t9q h9q tk9q F9q N9q; (try dsimp only); (try k_fold))) | ((k_here; k_dflt (refine' useS (join3_ok _ _ _ _ _ _ _ _ _ _ _ _ _ ?zqkx ?zqky ?zqkz) ?zqk1 ?zqk2 ?zqk3 ?zqk4 ?zqk5 ?zqkK ?zqkp ?zqkd ?zqku ?_); k_dflt ((case zqkx => first | exact Nat.lt_of_lt_of_le (by with_reducible assumption) (by decide) | exact Nat.lt_of_le_of_lt (by with_reducible assumption) (by decide) | exact Nat.le_trans (by with_reducible assumption) (by decide) | omega); (case zqky => first | exact Nat.lt_of_lt_of_le (by with_reducible assumption) (by decide) | exact Nat.lt_of_le_of_lt (by with_reducible assumption) (by decide) | exact Nat.le_trans (by with_reducible assumption) (by decide) | omega); (case zqkz => first | exact Nat.lt_of_lt_of_le (by with_reducible assumption) (by decide) | exact Nat.lt_of_le_of_lt (by with_reducible assumption) (by decide) | exact Nat.le_trans (by with_reducible assumption) (by decide) | omega); (((case zqk1 => k_asm); (case zqk2 => k_asm); (case zqk3 => k_asm); (case zqk4 => k_asm); (case zqk5 => k_asm); (case zqkK => first | exact rfl | assumption); (case zqkp => first | trivial | assumption); (case zqkd => first | decide | (rw [Nat.add_assoc]; exact dp_le hdp (by decide)) | ktr_room); (case zqku => first | decide | (rw [Nat.add_assoc]; exact un_le hun (by decide)) | ktr_units)))); intro t9q h9q tk9q F9q N9q; (try dsimp only); (try k_fold))) | ((k_here; k_dflt (first | refine' useS (lj_ok _ _ _ _ _ _ _ _ _ _ _ ?zqkx ?zqky) ?zqk1 ?zqk2 ?zqk3 ?zqk4 ?zqk5 ?zqkK ?zqkp ?zqkd ?zqku ?_ | refine' useS (join2_ok _ _ _ _ _ _ _ _ _ _ _ ?zqkx ?zqky) ?zqk1 ?zqk2 ?zqk3 ?zqk4 ?zqk5 ?zqkK ?zqkp ?zqkd ?zqku ?_); k_dflt ((case zqkx => first | exact Nat.lt_of_lt_of_le (by with_reducible assumption) (by decide) | exact Nat.lt_of_le_of_lt (by with_reducible assumption) (by decide) | exact Nat.le_trans (by with_reducible assumption) (by decide) | omega); (case zqky => first | exact Nat.lt_of_lt_of_le (by with_reducible assumption) (by decide) | exact Nat.lt_of_le_of_lt (by with_reducible assumption) (by decide) | exact Nat.le_trans (by with_reducible assumption) (by decide) | omega); (((case zqk1 => k_asm); (case zqk2 => k_asm); (case zqk3 => k_asm); (case zqk4 => k_asm); (case zqk5 => k_asm); (case zqkK => first | exact rfl | assumption); (case zqkp => first | trivial | assumption); (case zqkd => first | decide | (rw [Nat.add_assoc]; exact dp_le hdp (by decide)) | ktr_room); (case zqku => first | decide | (rw [Nat.add_assoc]; exact un_le hun (by decide)) | ktr_units)))); intro t9q h9q tk9q F9q N9q; (try dsimp only); (try k_fold))) | ((k_here; k_dflt (refine' useT (split_ok _ _ _ _ _ _ _ _ _ ?zqkx) ?zqk1 ?zqk2 ?zqk3 ?zqk4 ?zqk5 ?zqkK ?zqkp ?zqkd ?zqku ?_); k_dflt ((case zqkx => first | exact Nat.lt_of_lt_of_le (by with_reducible assumption) (by decide) | exact Nat.lt_of_le_of_lt (by with_reducible assumption) (by decide) | exact Nat.le_trans (by with_reducible assumption) (by decide) | omega); (((case zqk1 => k_asm); (case zqk2 => k_asm); (case zqk3 => k_asm); (case zqk4 => k_asm); (case zqk5 => k_asm); (case zqkK => first | exact rfl | assumption); (case zqkp => first | trivial | assumption); (case zqkd => first | decide | (rw [Nat.add_assoc]; exact dp_le hdp (by decide)) | ktr_room); (case zqku => first | decide | (rw [Nat.add_assoc]; exact un_le hun (by decide)) | ktr_units)))); intro d9q ts9q h9q tk9q F9q N9q S9q l9q; (obtain ⟨t7q, u7q, e7q⟩ := strs2 S9q; subst e7q; clear S9q); (try dsimp only); (try k_fold))) | ((k_here; k_dflt (first | refine' useS (norm_ok _ _ _ _ _ _ _ _ _ ?zqkx) ?zqk1 ?zqk2 ?zqk3 ?zqk4 ?zqk5 ?zqkK ?zqkp ?zqkd ?zqku ?_ | refine' useS (lw_ok _ _ _ _ _ _ _ _ _ ?zqkx) ?zqk1 ?zqk2 ?zqk3 ?zqk4 ?zqk5 ?zqkK ?zqkp ?zqkd ?zqku ?_ | refine' useS (dirname_ok _ _ _ _ _ _ _ _ _ ?zqkx) ?zqk1 ?zqk2 ?zqk3 ?zqk4 ?zqk5 ?zqkK ?zqkp ?zqkd ?zqku ?_ | refine' useS (basename_ok _ _ _ _ _ _ _ _ _ ?zqkx) ?zqk1 ?zqk2 ?zqk3 ?zqk4 ?zqk5 ?zqkK ?zqkp ?zqkd ?zqku ?_); k_dflt ((case zqkx => first | exact Nat.lt_of_lt_of_le (by with_reducible assumption) (by decide) | exact Nat.lt_of_le_of_lt (by with_reducible assumption) (by decide) | exact Nat.le_trans (by with_reducible assumption) (by decide) | omega); (((case zqk1 => k_asm); (case zqk2 => k_asm); (case zqk3 => k_asm); (case zqk4 => k_asm); (case zqk5 => k_asm); (case zqkK => first | exact rfl | assumption); (case zqkp => first | trivial | assumption); (case zqkd => first | decide | (rw [Nat.add_assoc]; exact dp_le hdp (by decide)) | ktr_room); (case zqku => first | decide | (rw [Nat.add_assoc]; exact un_le hun (by decide)) | ktr_units)))); intro t9q h9q tk9q F9q N9q; (try dsimp only); (try k_fold))))))
        | (with_reducible ((with_reducible show wpAny _ _ (subscriptTail (PySem.Expr.Call _ _ _ _) (PySem.Expr.Call _ _ _ _) (Value.ref _) (Value.int _ _)) _ _ _); (k_here; k_dflt (refine' itemCount ?zqN ?zqm ?zqs ?zqe ?zqx ?_ ?zqhs; (case zqN => k_asm); (case zqm => k_mem); (case zqs => with_reducible assumption); (case zqe => with_reducible assumption); (case zqx => first | exact Nat.lt_of_lt_of_le (by with_reducible assumption) (by decide) | exact Nat.lt_of_le_of_lt (by with_reducible assumption) (by decide) | exact Nat.le_trans (by with_reducible assumption) (by decide) | omega); (case zqhs => with_unfolding_all rfl)); intro _ _; (try dsimp only))))
        | (with_reducible ((with_reducible show wpAny _ _ (compareOp CmpOp.NotEq (Value.ref _) (Value.ref _)) _ _ _); (k_here; k_dflt (refine' neT ?zqN ?zqa ?zqb ?zqe ?zqe2 ?zqu ?_; (case zqN => k_asm); (case zqa => k_mem); (case zqb => k_mem); (case zqe => first | with_reducible rfl | exact law_due1 (by with_reducible assumption) | exact law_due2 (by with_reducible assumption)); (case zqe2 => first | with_reducible rfl | exact law_tail _); (case zqu => ktr_units)); (try dsimp only))))
        | (with_reducible ((with_reducible show wpAny _ _ (pyIter (Value.ref _)) _ _ _); ((with_reducible show wpAny _ _ (pyIter (Value.ref _)) (fun it s₂ => LoopAtV _ _ _ _ _ _ _ _ _ it s₂) _ _); refine Held.out ?_)))
        | (with_reducible ((with_reducible show wpAny _ _ (exec (Stmt.For _ _ _ _ _) _) _ _ _); (k_here; (rename Fr _ _ _ _ => lF'q); (with_unfolding_all refine' For_invVF lF'q ?zqk1 ?zqk2 ?_; (case zqk1 => exact rfl); (case zqk2 => exact rfl); k_whole))))
        | (with_reducible ((with_reducible show wpAny _ _ (subscriptTail (PySem.Expr.Name _ _) _ (Value.ref _) (Value.ref _)) _ _ _); (k_here; (with_reducible show wpAny _ _ (subscriptTail _ (PySem.Expr.Slice none _ none _) (Value.ref _) (Value.ref _)) _ _ _); k_dflt (refine' uptoL ?zqF ?zqN ?zqm ?zqs ?zqy ?zqz ?_ ?zqhs ?zqhg; (case zqF => k_asm); (case zqN => k_asm); (case zqm => k_mem); (case zqs => assumption); (case zqy => first | exact Nat.lt_of_lt_of_le (by with_reducible assumption) (by decide) | exact Nat.lt_of_le_of_lt (by with_reducible assumption) (by decide) | exact Nat.le_trans (by with_reducible assumption) (by decide) | omega | exact half0 _); (case zqz => first | exact Nat.lt_of_lt_of_le (by with_reducible assumption) (by decide) | exact Nat.lt_of_le_of_lt (by with_reducible assumption) (by decide) | exact Nat.le_trans (by with_reducible assumption) (by decide) | omega); (case zqhs => with_unfolding_all rfl); (case zqhg => (intro _; with_unfolding_all rfl))); intro D9q h9q F9q N9q S9q l9q; (try k_lt l9q); (try dsimp only))))
        | (with_reducible ((with_reducible show wpAny _ _ (call (Value.builtin "len") _ _) _ _ _); (k_here; (with_reducible show wpAny _ _ (call (Value.builtin "len") [Value.ref _]) _ _ _); k_dflt (refine' lenL ?zqN ?zqm ?zqs ?zqz ?_; (case zqN => k_asm); (case zqm => k_mem); (case zqs => assumption); (case zqz => first | exact Nat.lt_of_lt_of_le (by with_reducible assumption) (by decide) | exact Nat.lt_of_le_of_lt (by with_reducible assumption) (by decide) | exact Nat.le_trans (by with_reducible assumption) (by decide) | omega)); (try dsimp only))))
        | (with_reducible ((with_reducible show wpAny _ _ (call (Value.builtin "str.join") _ _) _ _ _); (k_here; (with_reducible show wpAny _ _ (call (Value.builtin "str.join") [Value.str _ _, Value.ref _]) _ _ _); k_dflt (refine' joinL ?zqN ?zqm ?zqs ?zqx ?zqw ?zqz ?_; (case zqN => k_asm); (case zqm => k_mem); (case zqs => with_reducible assumption); (case zqx => decide); (case zqw => first | exact Nat.lt_of_lt_of_le (by with_reducible assumption) (by decide) | exact Nat.lt_of_le_of_lt (by with_reducible assumption) (by decide) | exact Nat.le_trans (by with_reducible assumption) (by decide) | omega | exact Nat.le_trans (sum_take _ _) (by omega)); (case zqz => first | exact Nat.lt_of_lt_of_le (by with_reducible assumption) (by decide) | exact Nat.lt_of_le_of_lt (by with_reducible assumption) (by decide) | exact Nat.le_trans (by with_reducible assumption) (by decide) | omega | (rw [List.length_take]; omega))); intro _ _; (try dsimp only))))
        | walk1
        | (dsimp only; walk1)
        | (leave1; (try dsimp only))
        | fail "no step"))
    refine Held.mk ?_
    rename List Str => P9
    have bP : (Txt.join (Str.ofString "") P9).length ≤ 189 := by assumption
    have bH : (Txt.join (Str.ofString "") (List.take ((P9.length : Int).fdiv 2).toNat P9)).length ≤ 189 := by assumption
    have bR : (Txt.slice (Txt.join (Str.ofString "") P9) (some ((Txt.join (Str.ofString "") (List.take ((P9.length : Int).fdiv 2).toNat P9)).length : Int)) none).length ≤ 189 := Nat.le_trans (Txt.slice_le _ _ _) bP
    rename News _ _ _ _ => nN
    rename Fr _ _ _ _ => nF
    generalize Txt.slice (Txt.join (Str.ofString "") P9) (some ((Txt.join (Str.ofString "") (List.take ((P9.length : Int).fdiv 2).toNat P9)).length : Int)) none = re at nN nF bR ⊢
    generalize Txt.join (Str.ofString "") (List.take ((P9.length : Int).fdiv 2).toNat P9) = ha at nN nF bH ⊢
    generalize Txt.join (Str.ofString "") P9 = pa at nN nF bP ⊢
    have bJ : (joinedF re ha).length ≤ 379 := Nat.le_trans (joined_len _ _) (by omega)
    with_unfolding_all refine' oneLoop (y1 := Str.ofString "ahead") (y2 := Str.ofString "due") ?hh ?hm ?hs ?F ?N ?_ ?_
    case hh => rfl
    case F => exact nF
    case N => exact nN
    case hm => k_mem
    case hs => exact StrsAre.cons _ _ (StrsAre.cons _ _ (StrsAre.cons _ _ (StrsAre.cons _ _ (StrsAre.cons _ _ (StrsAre.cons _ _ StrsAre.nil)))))
    · clear nN nF
      intro y9 t9 a9 b9 h9 tk9 own9 hy9 F9 N9
      have hyl : y9.length < 400 := six_len hy9 bP bH bR
      have hnl : (normF y9).length < 600 := by have := law_normlen y9; omega
      have hW : normF y9 = walkedF y9 := law_walked y9
      have hI : normF (normF y9) = normF y9 := law_twice y9
      clear hy9
      generalize (_ :: _ : List (Addr × Obj)) ++ own9 = led9 at N9 ⊢
      (iterate 123 (first
        | ((first | with_reducible show wpAny _ _ (exec _ _) _ _ _ | with_reducible show wpAny _ _ (PySem.isTrue _ _ _) _ _ _); k_fold)
        | (with_reducible ((with_reducible show wpAny _ _ (compareOp CmpOp.Eq (Value.str _ _) (Value.str _ _)) _ _ _); (k_here; k_dflt (refine' eqS ?zqe ?_; (case zqe => with_reducible assumption)); (try dsimp only))))
        | (with_reducible ((with_reducible show wpAny _ _ (compareOp CmpOp.Eq (Value.ref _) (Value.ref _)) _ _ _); (k_here; (with_reducible show wpAny _ _ (compareOp CmpOp.Eq (Value.ref _) (Value.ref _)) _ _ _); k_dflt (refine' eqNilL ?zqN ?zqm ?zqm2 ?zqs ?zqu ?_; (case zqN => k_asm); (case zqm => k_mem); (case zqm2 => k_mem); (case zqs => assumption); (case zqu => ktr_units)); (try dsimp only))))
        | (with_reducible ((with_reducible show wpAny _ _ (subscriptTail (PySem.Expr.Name _ _) (PySem.Expr.Name _ _) (Value.ref _) (Value.int _ _)) _ _ _); (k_here; k_dflt (refine' itemL ?zqN ?zqm ?zqs ?zqy ?zqz ?zqf ?_ ?zqhs ?zqhg; (case zqN => k_asm); (case zqm => k_mem); (case zqs => with_reducible assumption); (case zqy => first | exact Int.natCast_nonneg _ | omega); (case zqz => first | exact Int.ofNat_lt.mpr (lt_both (by with_reducible assumption)).1 | exact Int.ofNat_lt.mpr (lt_both (by with_reducible assumption)).2 | omega); (case zqf => first | exact Nat.lt_of_lt_of_le (by with_reducible assumption) (by decide) | exact Nat.lt_of_le_of_lt (by with_reducible assumption) (by decide) | exact Nat.le_trans (by with_reducible assumption) (by decide) | omega); (case zqhs => with_unfolding_all rfl); (case zqhg => (intro _; with_unfolding_all rfl))); intro _; (try dsimp only))))
        | (with_reducible ((with_reducible show wpAny _ _ (exec (Stmt.While _ _ _ _) _) _ _ _); ((with_reducible show wpAny _ _ (exec (Stmt.While _ _ _ _) _) _ _ _); refine Held.out ?_)))
        | (with_reducible ((with_reducible show wpAny _ _ (binaryOp _ (Value.ref _) (Value.ref _)) _ _ _); (k_here; (with_reducible show wpAny _ _ (binaryOp _ (Value.ref _) (Value.ref _)) _ _ _); k_dflt (refine' addL ?zqF ?zqN ?zqm ?zqm2 ?zqs ?zqs2 ?zqz ?_; (case zqF => k_asm); (case zqN => k_asm); (case zqm => k_mem); (case zqm2 => k_mem); (case zqs => assumption); (case zqs2 => assumption); (case zqz => ((try simp only [List.length_take]); omega))); intro D9q h9q F9q N9q S9q l9q; (try k_lt l9q); (try dsimp only))))
        | (with_reducible ((with_reducible show wpAny _ _ (eval (PySem.Expr.ListComp _ _ _ _) _) _ _ _); (k_here; k_dflt (refine LCg.ListComp_U (F₀ := by k_asm) (by with_unfolding_all rfl) (by decide) (by rfl) (by decide) (by rfl) ?_); walk1; k_dflt (refine LCg.CompSrc.base (by rfl) (by k_asm) (by k_asm) (by assumption) (baseSize (by assumption) (by omega)) ?_); intro g9; k_dflt (refine' namesRest g33 named_g33 ?zqi ?zqS ?zqn ?zqt ?_; (case zqi => assumption); (case zqS => exact Or.inl (by assumption)); (case zqn => first | exact Nat.lt_of_lt_of_le (by with_reducible assumption) (by decide) | exact Nat.lt_of_le_of_lt (by with_reducible assumption) (by decide) | exact Nat.le_trans (by with_reducible assumption) (by decide) | omega); (case zqt => (intro k9 t9 I9 oI9 C9 oC9 D9 oD9 m9 h9 tk9 E9 hC9 hx9 F9 N9; ((k_steps; all_goals (refine' TextOne.intro ?zqb ?zqF ?zqN ?zqs; (case zqF => k_asm); (case zqN => k_asm); (case zqs => ((intro pq hpq; repeat (first | with_reducible exact hpq | refine List.mem_cons_of_mem _ ?_)))); (case zqb => ((rename Int.fmod _ _ = _ => hK9q); (first | unfold g7 | unfold g3 | unfold g33); rw [hK9q]; rfl)))))))); intro ysB BB hB1 hB2 hB)))
        | (with_reducible ((with_reducible show wpAny _ _ (exec (Stmt.Assign _ (PySem.Expr.ListComp _ _ _ _) _) _) _ _ _); (first | ((k_here; (with_reducible show wpAny _ _ (exec (Stmt.Assign [Expr.Name (Str.ofString "names") _] _ _) _) _ _ _); k_dflt (refine LCg.Assign_ListComp_U (F₀ := by k_asm) (by rfl) (by with_unfolding_all rfl) (by with_unfolding_all rfl) (by decide) (by rfl) (by decide) (by rfl) (by rfl) (by rfl) ?_); walk1; k_dflt (refine LCg.CompSrc.base (by rfl) (by k_asm) (by k_asm) (by assumption) (baseSize (by assumption) (by omega)) ?_); intro g9; k_dflt (refine' namesRest g3 named_g3 ?zqi ?zqS ?zqn ?zqt ?_; (case zqi => assumption); (case zqS => exact Or.inl (by assumption)); (case zqn => first | exact Nat.lt_of_lt_of_le (by with_reducible assumption) (by decide) | exact Nat.lt_of_le_of_lt (by with_reducible assumption) (by decide) | exact Nat.le_trans (by with_reducible assumption) (by decide) | omega); (case zqt => (intro k9 t9 I9 oI9 C9 oC9 D9 oD9 m9 h9 tk9 E9 hC9 hx9 F9 N9; ((k_steps; all_goals (refine' TextOne.intro ?zqb ?zqF ?zqN ?zqs; (case zqF => k_asm); (case zqN => k_asm); (case zqs => ((intro pq hpq; repeat (first | with_reducible exact hpq | refine List.mem_cons_of_mem _ ?_)))); (case zqb => ((rename Int.fmod _ _ = _ => hK9q); (first | unfold g7 | unfold g3 | unfold g33); rw [hK9q]; rfl)))))))); intro ysA AA hA1 hA2 hA)) | ((k_here; (with_reducible show wpAny _ _ (exec (Stmt.Assign [Expr.Name (Str.ofString "pieces") _] _ _) _) _ _ _); k_dflt (refine LCg.Assign_ListComp_U (F₀ := by k_asm) (by rfl) (by with_unfolding_all rfl) (by with_unfolding_all rfl) (by decide) (by rfl) (by decide) (by rfl) (by rfl) (by rfl) ?_); walk1; k_dflt (refine LCg.CompSrc.base (by rfl) (by k_asm) (by k_asm) (by assumption) (baseSize (by assumption) (by omega)) ?_); intro g9q; k_dflt (refine' piecesRest ?zqi ?zqS ?zqn ?zqt ?_; (case zqi => assumption); (case zqS => exact Or.inl (by assumption)); (case zqn => first | exact Nat.lt_of_lt_of_le (by with_reducible assumption) (by decide) | exact Nat.lt_of_le_of_lt (by with_reducible assumption) (by decide) | exact Nat.le_trans (by with_reducible assumption) (by decide) | omega); (case zqt => (intro k9q t9q I9q oI9q C9q oC9q D9q oD9q m9q h9q tk9q E9q hC9q hx9q F9q N9q; ((k_steps; all_goals (refine' TextOne.intro ?zqb ?zqF ?zqN ?zqs; (case zqF => k_asm); (case zqN => k_asm); (case zqs => ((intro pq hpq; repeat (first | with_reducible exact hpq | refine List.mem_cons_of_mem _ ?_)))); (case zqb => ((rename Int.fmod _ _ = _ => hK9q); (first | unfold g7 | unfold g3 | unfold g33); rw [hK9q]; rfl)))))))); intro ys9q P9q hP9q hys9q; (unfold PFit at hP9q); (rcases hP9q with ⟨hP1q, hP2q, hP3q, hP4q⟩))))))
        | (with_reducible ((with_reducible show wpAny _ _ (compareOp CmpOp.NotEq (Value.str _ _) (Value.str _ _)) _ _ _); (first | ((k_here; k_dflt (refine' neS ?zqe ?_; (case zqe => first | with_reducible assumption | with_reducible exact Eq.symm (by with_reducible assumption) | with_reducible exact law_join _ _ | with_reducible exact law_join3 _ _ _)); (try dsimp only))) | ((k_here; k_dflt (refine' neS ?zqe ?_; (case zqe => first | with_reducible assumption | with_reducible exact Eq.symm (by with_reducible assumption))); (try dsimp only))))))
        | (with_reducible ((with_reducible show wpAny _ _ (call (Value.ref _) _ _) _ _ _); (first | ((k_here; k_dflt (refine' useS (cp_ok _ _ _ _ _ _ _ _ _ _ _ _ ?zqkx ?zqky ?zqkz ?zqkw) ?zqk1 ?zqk2 ?zqk3 ?zqk4 ?zqk5 ?zqkK ?zqkp ?zqkd ?zqku ?_); k_dflt ((((case zqk1 => k_asm); (case zqk2 => k_asm); (case zqk3 => k_asm); (case zqk4 => k_asm); (case zqk5 => k_asm); (case zqkK => first | exact rfl | assumption); (case zqkp => first | trivial | assumption); (case zqkd => first | decide | (rw [Nat.add_assoc]; exact dp_le hdp (by decide)) | ktr_room); (case zqku => first | decide | (rw [Nat.add_assoc]; exact un_le hun (by decide)) | ktr_units))); (case zqkx => first | exact Nat.lt_of_lt_of_le (by with_reducible assumption) (by decide) | exact Nat.lt_of_le_of_lt (by with_reducible assumption) (by decide) | exact Nat.le_trans (by with_reducible assumption) (by decide) | omega); (case zqky => first | exact Nat.lt_of_lt_of_le (by with_reducible assumption) (by decide) | exact Nat.lt_of_le_of_lt (by with_reducible assumption) (by decide) | exact Nat.le_trans (by with_reducible assumption) (by decide) | omega); (case zqkz => ((first | with_reducible exact starts_stroke _ | (rw [Str.append_assoc]; exact starts_stroke _)))); (case zqkw => ((first | with_reducible exact starts_stroke _ | (rw [Str.append_assoc]; exact starts_stroke _))))); intro t9q h9q tk9q F9q N9q; (try dsimp only); (try k_fold))) | ((k_here; k_dflt (refine' useS (join3_ok _ _ _ _ _ _ _ _ _ _ _ _ _ ?zqkx ?zqky ?zqkz) ?zqk1 ?zqk2 ?zqk3 ?zqk4 ?zqk5 ?zqkK ?zqkp ?zqkd ?zqku ?_); k_dflt ((case zqkx => first | exact Nat.lt_of_lt_of_le (by with_reducible assumption) (by decide) | exact Nat.lt_of_le_of_lt (by with_reducible assumption) (by decide) | exact Nat.le_trans (by with_reducible assumption) (by decide) | omega); (case zqky => first | exact Nat.lt_of_lt_of_le (by with_reducible assumption) (by decide) | exact Nat.lt_of_le_of_lt (by with_reducible assumption) (by decide) | exact Nat.le_trans (by with_reducible assumption) (by decide) | omega); (case zqkz => first | exact Nat.lt_of_lt_of_le (by with_reducible assumption) (by decide) | exact Nat.lt_of_le_of_lt (by with_reducible assumption) (by decide) | exact Nat.le_trans (by with_reducible assumption) (by decide) | omega); (((case zqk1 => k_asm); (case zqk2 => k_asm); (case zqk3 => k_asm); (case zqk4 => k_asm); (case zqk5 => k_asm); (case zqkK => first | exact rfl | assumption); (case zqkp => first | trivial | assumption); (case zqkd => first | decide | (rw [Nat.add_assoc]; exact dp_le hdp (by decide)) | ktr_room); (case zqku => first | decide | (rw [Nat.add_assoc]; exact un_le hun (by decide)) | ktr_units)))); intro t9q h9q tk9q F9q N9q; (try dsimp only); (try k_fold))) | ((k_here; k_dflt (first | refine' useS (lj_ok _ _ _ _ _ _ _ _ _ _ _ ?zqkx ?zqky) ?zqk1 ?zqk2 ?zqk3 ?zqk4 ?zqk5 ?zqkK ?zqkp ?zqkd ?zqku ?_ | refine' useS (join2_ok _ _ _ _ _ _ _ _ _ _ _ ?zqkx ?zqky) ?zqk1 ?zqk2 ?zqk3 ?zqk4 ?zqk5 ?zqkK ?zqkp ?zqkd ?zqku ?_); k_dflt ((case zqkx => first | exact Nat.lt_of_lt_of_le (by with_reducible assumption) (by decide) | exact Nat.lt_of_le_of_lt (by with_reducible assumption) (by decide) | exact Nat.le_trans (by with_reducible assumption) (by decide) | omega); (case zqky => first | exact Nat.lt_of_lt_of_le (by with_reducible assumption) (by decide) | exact Nat.lt_of_le_of_lt (by with_reducible assumption) (by decide) | exact Nat.le_trans (by with_reducible assumption) (by decide) | omega); (((case zqk1 => k_asm); (case zqk2 => k_asm); (case zqk3 => k_asm); (case zqk4 => k_asm); (case zqk5 => k_asm); (case zqkK => first | exact rfl | assumption); (case zqkp => first | trivial | assumption); (case zqkd => first | decide | (rw [Nat.add_assoc]; exact dp_le hdp (by decide)) | ktr_room); (case zqku => first | decide | (rw [Nat.add_assoc]; exact un_le hun (by decide)) | ktr_units)))); intro t9q h9q tk9q F9q N9q; (try dsimp only); (try k_fold))) | ((k_here; k_dflt (refine' useT (split_ok _ _ _ _ _ _ _ _ _ ?zqkx) ?zqk1 ?zqk2 ?zqk3 ?zqk4 ?zqk5 ?zqkK ?zqkp ?zqkd ?zqku ?_); k_dflt ((case zqkx => first | exact Nat.lt_of_lt_of_le (by with_reducible assumption) (by decide) | exact Nat.lt_of_le_of_lt (by with_reducible assumption) (by decide) | exact Nat.le_trans (by with_reducible assumption) (by decide) | omega); (((case zqk1 => k_asm); (case zqk2 => k_asm); (case zqk3 => k_asm); (case zqk4 => k_asm); (case zqk5 => k_asm); (case zqkK => first | exact rfl | assumption); (case zqkp => first | trivial | assumption); (case zqkd => first | decide | (rw [Nat.add_assoc]; exact dp_le hdp (by decide)) | ktr_room); (case zqku => first | decide | (rw [Nat.add_assoc]; exact un_le hun (by decide)) | ktr_units)))); intro d9q ts9q h9q tk9q F9q N9q S9q l9q; (obtain ⟨t7q, u7q, e7q⟩ := strs2 S9q; subst e7q; clear S9q); (try dsimp only); (try k_fold))) | ((k_here; k_dflt (first | refine' useS (norm_ok _ _ _ _ _ _ _ _ _ ?zqkx) ?zqk1 ?zqk2 ?zqk3 ?zqk4 ?zqk5 ?zqkK ?zqkp ?zqkd ?zqku ?_ | refine' useS (lw_ok _ _ _ _ _ _ _ _ _ ?zqkx) ?zqk1 ?zqk2 ?zqk3 ?zqk4 ?zqk5 ?zqkK ?zqkp ?zqkd ?zqku ?_ | refine' useS (dirname_ok _ _ _ _ _ _ _ _ _ ?zqkx) ?zqk1 ?zqk2 ?zqk3 ?zqk4 ?zqk5 ?zqkK ?zqkp ?zqkd ?zqku ?_ | refine' useS (basename_ok _ _ _ _ _ _ _ _ _ ?zqkx) ?zqk1 ?zqk2 ?zqk3 ?zqk4 ?zqk5 ?zqkK ?zqkp ?zqkd ?zqku ?_); k_dflt ((case zqkx => first | exact Nat.lt_of_lt_of_le (by with_reducible assumption) (by decide) | exact Nat.lt_of_le_of_lt (by with_reducible assumption) (by decide) | exact Nat.le_trans (by with_reducible assumption) (by decide) | omega); (((case zqk1 => k_asm); (case zqk2 => k_asm); (case zqk3 => k_asm); (case zqk4 => k_asm); (case zqk5 => k_asm); (case zqkK => first | exact rfl | assumption); (case zqkp => first | trivial | assumption); (case zqkd => first | decide | (rw [Nat.add_assoc]; exact dp_le hdp (by decide)) | ktr_room); (case zqku => first | decide | (rw [Nat.add_assoc]; exact un_le hun (by decide)) | ktr_units)))); intro t9q h9q tk9q F9q N9q; (try dsimp only); (try k_fold))))))
        | (with_reducible ((with_reducible show wpAny _ _ (subscriptTail (PySem.Expr.Call _ _ _ _) (PySem.Expr.Call _ _ _ _) (Value.ref _) (Value.int _ _)) _ _ _); (k_here; k_dflt (refine' itemCount ?zqN ?zqm ?zqs ?zqe ?zqx ?_ ?zqhs; (case zqN => k_asm); (case zqm => k_mem); (case zqs => with_reducible assumption); (case zqe => with_reducible assumption); (case zqx => first | exact Nat.lt_of_lt_of_le (by with_reducible assumption) (by decide) | exact Nat.lt_of_le_of_lt (by with_reducible assumption) (by decide) | exact Nat.le_trans (by with_reducible assumption) (by decide) | omega); (case zqhs => with_unfolding_all rfl)); intro _ _; (try dsimp only))))
        | (with_reducible ((with_reducible show wpAny _ _ (compareOp CmpOp.NotEq (Value.ref _) (Value.ref _)) _ _ _); (k_here; k_dflt (refine' neT ?zqN ?zqa ?zqb ?zqe ?zqe2 ?zqu ?_; (case zqN => k_asm); (case zqa => k_mem); (case zqb => k_mem); (case zqe => first | with_reducible rfl | exact law_due1 (by with_reducible assumption) | exact law_due2 (by with_reducible assumption)); (case zqe2 => first | with_reducible rfl | exact law_tail _); (case zqu => ktr_units)); (try dsimp only))))
        | (with_reducible ((with_reducible show wpAny _ _ (pyIter (Value.ref _)) _ _ _); ((with_reducible show wpAny _ _ (pyIter (Value.ref _)) (fun it s₂ => LoopAtV _ _ _ _ _ _ _ _ _ it s₂) _ _); refine Held.out ?_)))
        | (with_reducible ((with_reducible show wpAny _ _ (exec (Stmt.For _ _ _ _ _) _) _ _ _); (k_here; (rename Fr _ _ _ _ => lF'q); (with_unfolding_all refine' For_invVF lF'q ?zqk1 ?zqk2 ?_; (case zqk1 => exact rfl); (case zqk2 => exact rfl); k_whole))))
        | (with_reducible ((with_reducible show wpAny _ _ (subscriptTail (PySem.Expr.Name _ _) _ (Value.ref _) (Value.ref _)) _ _ _); (k_here; (with_reducible show wpAny _ _ (subscriptTail _ (PySem.Expr.Slice none _ none _) (Value.ref _) (Value.ref _)) _ _ _); k_dflt (refine' uptoL ?zqF ?zqN ?zqm ?zqs ?zqy ?zqz ?_ ?zqhs ?zqhg; (case zqF => k_asm); (case zqN => k_asm); (case zqm => k_mem); (case zqs => assumption); (case zqy => first | exact Nat.lt_of_lt_of_le (by with_reducible assumption) (by decide) | exact Nat.lt_of_le_of_lt (by with_reducible assumption) (by decide) | exact Nat.le_trans (by with_reducible assumption) (by decide) | omega | exact half0 _); (case zqz => first | exact Nat.lt_of_lt_of_le (by with_reducible assumption) (by decide) | exact Nat.lt_of_le_of_lt (by with_reducible assumption) (by decide) | exact Nat.le_trans (by with_reducible assumption) (by decide) | omega); (case zqhs => with_unfolding_all rfl); (case zqhg => (intro _; with_unfolding_all rfl))); intro D9q h9q F9q N9q S9q l9q; (try k_lt l9q); (try dsimp only))))
        | (with_reducible ((with_reducible show wpAny _ _ (call (Value.builtin "len") _ _) _ _ _); (k_here; (with_reducible show wpAny _ _ (call (Value.builtin "len") [Value.ref _]) _ _ _); k_dflt (refine' lenL ?zqN ?zqm ?zqs ?zqz ?_; (case zqN => k_asm); (case zqm => k_mem); (case zqs => assumption); (case zqz => first | exact Nat.lt_of_lt_of_le (by with_reducible assumption) (by decide) | exact Nat.lt_of_le_of_lt (by with_reducible assumption) (by decide) | exact Nat.le_trans (by with_reducible assumption) (by decide) | omega)); (try dsimp only))))
        | (with_reducible ((with_reducible show wpAny _ _ (call (Value.builtin "str.join") _ _) _ _ _); (k_here; (with_reducible show wpAny _ _ (call (Value.builtin "str.join") [Value.str _ _, Value.ref _]) _ _ _); k_dflt (refine' joinL ?zqN ?zqm ?zqs ?zqx ?zqw ?zqz ?_; (case zqN => k_asm); (case zqm => k_mem); (case zqs => with_reducible assumption); (case zqx => decide); (case zqw => first | exact Nat.lt_of_lt_of_le (by with_reducible assumption) (by decide) | exact Nat.lt_of_le_of_lt (by with_reducible assumption) (by decide) | exact Nat.le_trans (by with_reducible assumption) (by decide) | omega | exact Nat.le_trans (sum_take _ _) (by omega)); (case zqz => first | exact Nat.lt_of_lt_of_le (by with_reducible assumption) (by decide) | exact Nat.lt_of_le_of_lt (by with_reducible assumption) (by decide) | exact Nat.le_trans (by with_reducible assumption) (by decide) | omega | (rw [List.length_take]; omega))); intro _ _; (try dsimp only))))
        | walk1))
      all_goals (repeat' (first
        | (k_unfold; (try dsimp only))
        | (k_end; wrow_close)
        | ((first | with_reducible show wpAny _ _ (exec _ _) _ _ _ | with_reducible show wpAny _ _ (PySem.isTrue _ _ _) _ _ _); k_fold)
        | (with_reducible ((with_reducible show wpAny _ _ (compareOp CmpOp.Eq (Value.str _ _) (Value.str _ _)) _ _ _); (k_here; k_dflt (refine' eqS ?zqe ?_; (case zqe => with_reducible assumption)); (try dsimp only))))
        | (with_reducible ((with_reducible show wpAny _ _ (compareOp CmpOp.Eq (Value.ref _) (Value.ref _)) _ _ _); (k_here; (with_reducible show wpAny _ _ (compareOp CmpOp.Eq (Value.ref _) (Value.ref _)) _ _ _); k_dflt (refine' eqNilL ?zqN ?zqm ?zqm2 ?zqs ?zqu ?_; (case zqN => k_asm); (case zqm => k_mem); (case zqm2 => k_mem); (case zqs => assumption); (case zqu => ktr_units)); (try dsimp only))))
        | (with_reducible ((with_reducible show wpAny _ _ (subscriptTail (PySem.Expr.Name _ _) (PySem.Expr.Name _ _) (Value.ref _) (Value.int _ _)) _ _ _); (k_here; k_dflt (refine' itemL ?zqN ?zqm ?zqs ?zqy ?zqz ?zqf ?_ ?zqhs ?zqhg; (case zqN => k_asm); (case zqm => k_mem); (case zqs => with_reducible assumption); (case zqy => first | exact Int.natCast_nonneg _ | omega); (case zqz => first | exact Int.ofNat_lt.mpr (lt_both (by with_reducible assumption)).1 | exact Int.ofNat_lt.mpr (lt_both (by with_reducible assumption)).2 | omega); (case zqf => first | exact Nat.lt_of_lt_of_le (by with_reducible assumption) (by decide) | exact Nat.lt_of_le_of_lt (by with_reducible assumption) (by decide) | exact Nat.le_trans (by with_reducible assumption) (by decide) | omega); (case zqhs => with_unfolding_all rfl); (case zqhg => (intro _; with_unfolding_all rfl))); intro _; (try dsimp only))))
        | (with_reducible ((with_reducible show wpAny _ _ (exec (Stmt.While _ _ _ _) _) _ _ _); ((with_reducible show wpAny _ _ (exec (Stmt.While _ _ _ _) _) _ _ _); refine Held.out ?_)))
        | (with_reducible ((with_reducible show wpAny _ _ (binaryOp _ (Value.ref _) (Value.ref _)) _ _ _); (k_here; (with_reducible show wpAny _ _ (binaryOp _ (Value.ref _) (Value.ref _)) _ _ _); k_dflt (refine' addL ?zqF ?zqN ?zqm ?zqm2 ?zqs ?zqs2 ?zqz ?_; (case zqF => k_asm); (case zqN => k_asm); (case zqm => k_mem); (case zqm2 => k_mem); (case zqs => assumption); (case zqs2 => assumption); (case zqz => ((try simp only [List.length_take]); omega))); intro D9q h9q F9q N9q S9q l9q; (try k_lt l9q); (try dsimp only))))
        | (with_reducible ((with_reducible show wpAny _ _ (eval (PySem.Expr.ListComp _ _ _ _) _) _ _ _); (k_here; k_dflt (refine LCg.ListComp_U (F₀ := by k_asm) (by with_unfolding_all rfl) (by decide) (by rfl) (by decide) (by rfl) ?_); walk1; k_dflt (refine LCg.CompSrc.base (by rfl) (by k_asm) (by k_asm) (by assumption) (baseSize (by assumption) (by omega)) ?_); intro g9; k_dflt (refine' namesRest g33 named_g33 ?zqi ?zqS ?zqn ?zqt ?_; (case zqi => assumption); (case zqS => exact Or.inl (by assumption)); (case zqn => first | exact Nat.lt_of_lt_of_le (by with_reducible assumption) (by decide) | exact Nat.lt_of_le_of_lt (by with_reducible assumption) (by decide) | exact Nat.le_trans (by with_reducible assumption) (by decide) | omega); (case zqt => (intro k9 t9 I9 oI9 C9 oC9 D9 oD9 m9 h9 tk9 E9 hC9 hx9 F9 N9; ((k_steps; all_goals (refine' TextOne.intro ?zqb ?zqF ?zqN ?zqs; (case zqF => k_asm); (case zqN => k_asm); (case zqs => ((intro pq hpq; repeat (first | with_reducible exact hpq | refine List.mem_cons_of_mem _ ?_)))); (case zqb => ((rename Int.fmod _ _ = _ => hK9q); (first | unfold g7 | unfold g3 | unfold g33); rw [hK9q]; rfl)))))))); intro ysB BB hB1 hB2 hB)))
        | (with_reducible ((with_reducible show wpAny _ _ (exec (Stmt.Assign _ (PySem.Expr.ListComp _ _ _ _) _) _) _ _ _); (first | ((k_here; (with_reducible show wpAny _ _ (exec (Stmt.Assign [Expr.Name (Str.ofString "names") _] _ _) _) _ _ _); k_dflt (refine LCg.Assign_ListComp_U (F₀ := by k_asm) (by rfl) (by with_unfolding_all rfl) (by with_unfolding_all rfl) (by decide) (by rfl) (by decide) (by rfl) (by rfl) (by rfl) ?_); walk1; k_dflt (refine LCg.CompSrc.base (by rfl) (by k_asm) (by k_asm) (by assumption) (baseSize (by assumption) (by omega)) ?_); intro g9; k_dflt (refine' namesRest g3 named_g3 ?zqi ?zqS ?zqn ?zqt ?_; (case zqi => assumption); (case zqS => exact Or.inl (by assumption)); (case zqn => first | exact Nat.lt_of_lt_of_le (by with_reducible assumption) (by decide) | exact Nat.lt_of_le_of_lt (by with_reducible assumption) (by decide) | exact Nat.le_trans (by with_reducible assumption) (by decide) | omega); (case zqt => (intro k9 t9 I9 oI9 C9 oC9 D9 oD9 m9 h9 tk9 E9 hC9 hx9 F9 N9; ((k_steps; all_goals (refine' TextOne.intro ?zqb ?zqF ?zqN ?zqs; (case zqF => k_asm); (case zqN => k_asm); (case zqs => ((intro pq hpq; repeat (first | with_reducible exact hpq | refine List.mem_cons_of_mem _ ?_)))); (case zqb => ((rename Int.fmod _ _ = _ => hK9q); (first | unfold g7 | unfold g3 | unfold g33); rw [hK9q]; rfl)))))))); intro ysA AA hA1 hA2 hA)) | ((k_here; (with_reducible show wpAny _ _ (exec (Stmt.Assign [Expr.Name (Str.ofString "pieces") _] _ _) _) _ _ _); k_dflt (refine LCg.Assign_ListComp_U (F₀ := by k_asm) (by rfl) (by with_unfolding_all rfl) (by with_unfolding_all rfl) (by decide) (by rfl) (by decide) (by rfl) (by rfl) (by rfl) ?_); walk1; k_dflt (refine LCg.CompSrc.base (by rfl) (by k_asm) (by k_asm) (by assumption) (baseSize (by assumption) (by omega)) ?_); intro g9q; k_dflt (refine' piecesRest ?zqi ?zqS ?zqn ?zqt ?_; (case zqi => assumption); (case zqS => exact Or.inl (by assumption)); (case zqn => first | exact Nat.lt_of_lt_of_le (by with_reducible assumption) (by decide) | exact Nat.lt_of_le_of_lt (by with_reducible assumption) (by decide) | exact Nat.le_trans (by with_reducible assumption) (by decide) | omega); (case zqt => (intro k9q t9q I9q oI9q C9q oC9q D9q oD9q m9q h9q tk9q E9q hC9q hx9q F9q N9q; ((k_steps; all_goals (refine' TextOne.intro ?zqb ?zqF ?zqN ?zqs; (case zqF => k_asm); (case zqN => k_asm); (case zqs => ((intro pq hpq; repeat (first | with_reducible exact hpq | refine List.mem_cons_of_mem _ ?_)))); (case zqb => ((rename Int.fmod _ _ = _ => hK9q); (first | unfold g7 | unfold g3 | unfold g33); rw [hK9q]; rfl)))))))); intro ys9q P9q hP9q hys9q; (unfold PFit at hP9q); (rcases hP9q with ⟨hP1q, hP2q, hP3q, hP4q⟩))))))
        | (with_reducible ((with_reducible show wpAny _ _ (compareOp CmpOp.NotEq (Value.str _ _) (Value.str _ _)) _ _ _); (first | ((k_here; k_dflt (refine' neS ?zqe ?_; (case zqe => first | with_reducible assumption | with_reducible exact Eq.symm (by with_reducible assumption) | with_reducible exact law_join _ _ | with_reducible exact law_join3 _ _ _)); (try dsimp only))) | ((k_here; k_dflt (refine' neS ?zqe ?_; (case zqe => first | with_reducible assumption | with_reducible exact Eq.symm (by with_reducible assumption))); (try dsimp only))))))
        | (with_reducible ((with_reducible show wpAny _ _ (call (Value.ref _) _ _) _ _ _); (first | ((k_here; k_dflt (refine' useS (cp_ok _ _ _ _ _ _ _ _ _ _ _ _ ?zqkx ?zqky ?zqkz ?zqkw) ?zqk1 ?zqk2 ?zqk3 ?zqk4 ?zqk5 ?zqkK ?zqkp ?zqkd ?zqku ?_); k_dflt ((((case zqk1 => k_asm); (case zqk2 => k_asm); (case zqk3 => k_asm); (case zqk4 => k_asm); (case zqk5 => k_asm); (case zqkK => first | exact rfl | assumption); (case zqkp => first | trivial | assumption); (case zqkd => first | decide | (rw [Nat.add_assoc]; exact dp_le hdp (by decide)) | ktr_room); (case zqku => first | decide | (rw [Nat.add_assoc]; exact un_le hun (by decide)) | ktr_units))); (case zqkx => first | exact Nat.lt_of_lt_of_le (by with_reducible assumption) (by decide) | exact Nat.lt_of_le_of_lt (by with_reducible assumption) (by decide) | exact Nat.le_trans (by with_reducible assumption) (by decide) | omega); (case zqky => first | exact Nat.lt_of_lt_of_le (by with_reducible assumption) (by decide) | exact Nat.lt_of_le_of_lt (by with_reducible assumption) (by decide) | exact Nat.le_trans (by with_reducible assumption) (by decide) | omega); (case zqkz => ((first | with_reducible exact starts_stroke _ | (rw [Str.append_assoc]; exact starts_stroke _)))); (case zqkw => ((first | with_reducible exact starts_stroke _ | (rw [Str.append_assoc]; exact starts_stroke _))))); intro t9q h9q tk9q F9q N9q; (try dsimp only); (try k_fold))) | ((k_here; k_dflt (refine' useS (join3_ok _ _ _ _ _ _ _ _ _ _ _ _ _ ?zqkx ?zqky ?zqkz) ?zqk1 ?zqk2 ?zqk3 ?zqk4 ?zqk5 ?zqkK ?zqkp ?zqkd ?zqku ?_); k_dflt ((case zqkx => first | exact Nat.lt_of_lt_of_le (by with_reducible assumption) (by decide) | exact Nat.lt_of_le_of_lt (by with_reducible assumption) (by decide) | exact Nat.le_trans (by with_reducible assumption) (by decide) | omega); (case zqky => first | exact Nat.lt_of_lt_of_le (by with_reducible assumption) (by decide) | exact Nat.lt_of_le_of_lt (by with_reducible assumption) (by decide) | exact Nat.le_trans (by with_reducible assumption) (by decide) | omega); (case zqkz => first | exact Nat.lt_of_lt_of_le (by with_reducible assumption) (by decide) | exact Nat.lt_of_le_of_lt (by with_reducible assumption) (by decide) | exact Nat.le_trans (by with_reducible assumption) (by decide) | omega); (((case zqk1 => k_asm); (case zqk2 => k_asm); (case zqk3 => k_asm); (case zqk4 => k_asm); (case zqk5 => k_asm); (case zqkK => first | exact rfl | assumption); (case zqkp => first | trivial | assumption); (case zqkd => first | decide | (rw [Nat.add_assoc]; exact dp_le hdp (by decide)) | ktr_room); (case zqku => first | decide | (rw [Nat.add_assoc]; exact un_le hun (by decide)) | ktr_units)))); intro t9q h9q tk9q F9q N9q; (try dsimp only); (try k_fold))) | ((k_here; k_dflt (first | refine' useS (lj_ok _ _ _ _ _ _ _ _ _ _ _ ?zqkx ?zqky) ?zqk1 ?zqk2 ?zqk3 ?zqk4 ?zqk5 ?zqkK ?zqkp ?zqkd ?zqku ?_ | refine' useS (join2_ok _ _ _ _ _ _ _ _ _ _ _ ?zqkx ?zqky) ?zqk1 ?zqk2 ?zqk3 ?zqk4 ?zqk5 ?zqkK ?zqkp ?zqkd ?zqku ?_); k_dflt ((case zqkx => first | exact Nat.lt_of_lt_of_le (by with_reducible assumption) (by decide) | exact Nat.lt_of_le_of_lt (by with_reducible assumption) (by decide) | exact Nat.le_trans (by with_reducible assumption) (by decide) | omega); (case zqky => first | exact Nat.lt_of_lt_of_le (by with_reducible assumption) (by decide) | exact Nat.lt_of_le_of_lt (by with_reducible assumption) (by decide) | exact Nat.le_trans (by with_reducible assumption) (by decide) | omega); (((case zqk1 => k_asm); (case zqk2 => k_asm); (case zqk3 => k_asm); (case zqk4 => k_asm); (case zqk5 => k_asm); (case zqkK => first | exact rfl | assumption); (case zqkp => first | trivial | assumption); (case zqkd => first | decide | (rw [Nat.add_assoc]; exact dp_le hdp (by decide)) | ktr_room); (case zqku => first | decide | (rw [Nat.add_assoc]; exact un_le hun (by decide)) | ktr_units)))); intro t9q h9q tk9q F9q N9q; (try dsimp only); (try k_fold))) | ((k_here; k_dflt (refine' useT (split_ok _ _ _ _ _ _ _ _ _ ?zqkx) ?zqk1 ?zqk2 ?zqk3 ?zqk4 ?zqk5 ?zqkK ?zqkp ?zqkd ?zqku ?_); k_dflt ((case zqkx => first | exact Nat.lt_of_lt_of_le (by with_reducible assumption) (by decide) | exact Nat.lt_of_le_of_lt (by with_reducible assumption) (by decide) | exact Nat.le_trans (by with_reducible assumption) (by decide) | omega); (((case zqk1 => k_asm); (case zqk2 => k_asm); (case zqk3 => k_asm); (case zqk4 => k_asm); (case zqk5 => k_asm); (case zqkK => first | exact rfl | assumption); (case zqkp => first | trivial | assumption); (case zqkd => first | decide | (rw [Nat.add_assoc]; exact dp_le hdp (by decide)) | ktr_room); (case zqku => first | decide | (rw [Nat.add_assoc]; exact un_le hun (by decide)) | ktr_units)))); intro d9q ts9q h9q tk9q F9q N9q S9q l9q; (obtain ⟨t7q, u7q, e7q⟩ := strs2 S9q; subst e7q; clear S9q); (try dsimp only); (try k_fold))) | ((k_here; k_dflt (first | refine' useS (norm_ok _ _ _ _ _ _ _ _ _ ?zqkx) ?zqk1 ?zqk2 ?zqk3 ?zqk4 ?zqk5 ?zqkK ?zqkp ?zqkd ?zqku ?_ | refine' useS (lw_ok _ _ _ _ _ _ _ _ _ ?zqkx) ?zqk1 ?zqk2 ?zqk3 ?zqk4 ?zqk5 ?zqkK ?zqkp ?zqkd ?zqku ?_ | refine' useS (dirname_ok _ _ _ _ _ _ _ _ _ ?zqkx) ?zqk1 ?zqk2 ?zqk3 ?zqk4 ?zqk5 ?zqkK ?zqkp ?zqkd ?zqku ?_ | refine' useS (basename_ok _ _ _ _ _ _ _ _ _ ?zqkx) ?zqk1 ?zqk2 ?zqk3 ?zqk4 ?zqk5 ?zqkK ?zqkp ?zqkd ?zqku ?_); k_dflt ((case zqkx => first | exact Nat.lt_of_lt_of_le (by with_reducible assumption) (by decide) | exact Nat.lt_of_le_of_lt (by with_reducible assumption) (by decide) | exact Nat.le_trans (by with_reducible assumption) (by decide) | omega); (((case zqk1 => k_asm); (case zqk2 => k_asm); (case zqk3 => k_asm); (case zqk4 => k_asm); (case zqk5 => k_asm); (case zqkK => first | exact rfl | assumption); (case zqkp => first | trivial | assumption); (case zqkd => first | decide | (rw [Nat.add_assoc]; exact dp_le hdp (by decide)) | ktr_room); (case zqku => first | decide | (rw [Nat.add_assoc]; exact un_le hun (by decide)) | ktr_units)))); intro t9q h9q tk9q F9q N9q; (try dsimp only); (try k_fold))))))
        | (with_reducible ((with_reducible show wpAny _ _ (subscriptTail (PySem.Expr.Call _ _ _ _) (PySem.Expr.Call _ _ _ _) (Value.ref _) (Value.int _ _)) _ _ _); (k_here; k_dflt (refine' itemCount ?zqN ?zqm ?zqs ?zqe ?zqx ?_ ?zqhs; (case zqN => k_asm); (case zqm => k_mem); (case zqs => with_reducible assumption); (case zqe => with_reducible assumption); (case zqx => first | exact Nat.lt_of_lt_of_le (by with_reducible assumption) (by decide) | exact Nat.lt_of_le_of_lt (by with_reducible assumption) (by decide) | exact Nat.le_trans (by with_reducible assumption) (by decide) | omega); (case zqhs => with_unfolding_all rfl)); intro _ _; (try dsimp only))))
        | (with_reducible ((with_reducible show wpAny _ _ (compareOp CmpOp.NotEq (Value.ref _) (Value.ref _)) _ _ _); (k_here; k_dflt (refine' neT ?zqN ?zqa ?zqb ?zqe ?zqe2 ?zqu ?_; (case zqN => k_asm); (case zqa => k_mem); (case zqb => k_mem); (case zqe => first | with_reducible rfl | exact law_due1 (by with_reducible assumption) | exact law_due2 (by with_reducible assumption)); (case zqe2 => first | with_reducible rfl | exact law_tail _); (case zqu => ktr_units)); (try dsimp only))))
        | (with_reducible ((with_reducible show wpAny _ _ (pyIter (Value.ref _)) _ _ _); ((with_reducible show wpAny _ _ (pyIter (Value.ref _)) (fun it s₂ => LoopAtV _ _ _ _ _ _ _ _ _ it s₂) _ _); refine Held.out ?_)))
        | (with_reducible ((with_reducible show wpAny _ _ (exec (Stmt.For _ _ _ _ _) _) _ _ _); (k_here; (rename Fr _ _ _ _ => lF'q); (with_unfolding_all refine' For_invVF lF'q ?zqk1 ?zqk2 ?_; (case zqk1 => exact rfl); (case zqk2 => exact rfl); k_whole))))
        | (with_reducible ((with_reducible show wpAny _ _ (subscriptTail (PySem.Expr.Name _ _) _ (Value.ref _) (Value.ref _)) _ _ _); (k_here; (with_reducible show wpAny _ _ (subscriptTail _ (PySem.Expr.Slice none _ none _) (Value.ref _) (Value.ref _)) _ _ _); k_dflt (refine' uptoL ?zqF ?zqN ?zqm ?zqs ?zqy ?zqz ?_ ?zqhs ?zqhg; (case zqF => k_asm); (case zqN => k_asm); (case zqm => k_mem); (case zqs => assumption); (case zqy => first | exact Nat.lt_of_lt_of_le (by with_reducible assumption) (by decide) | exact Nat.lt_of_le_of_lt (by with_reducible assumption) (by decide) | exact Nat.le_trans (by with_reducible assumption) (by decide) | omega | exact half0 _); (case zqz => first | exact Nat.lt_of_lt_of_le (by with_reducible assumption) (by decide) | exact Nat.lt_of_le_of_lt (by with_reducible assumption) (by decide) | exact Nat.le_trans (by with_reducible assumption) (by decide) | omega); (case zqhs => with_unfolding_all rfl); (case zqhg => (intro _; with_unfolding_all rfl))); intro D9q h9q F9q N9q S9q l9q; (try k_lt l9q); (try dsimp only))))
        | (with_reducible ((with_reducible show wpAny _ _ (call (Value.builtin "len") _ _) _ _ _); (k_here; (with_reducible show wpAny _ _ (call (Value.builtin "len") [Value.ref _]) _ _ _); k_dflt (refine' lenL ?zqN ?zqm ?zqs ?zqz ?_; (case zqN => k_asm); (case zqm => k_mem); (case zqs => assumption); (case zqz => first | exact Nat.lt_of_lt_of_le (by with_reducible assumption) (by decide) | exact Nat.lt_of_le_of_lt (by with_reducible assumption) (by decide) | exact Nat.le_trans (by with_reducible assumption) (by decide) | omega)); (try dsimp only))))
        | (with_reducible ((with_reducible show wpAny _ _ (call (Value.builtin "str.join") _ _) _ _ _); (k_here; (with_reducible show wpAny _ _ (call (Value.builtin "str.join") [Value.str _ _, Value.ref _]) _ _ _); k_dflt (refine' joinL ?zqN ?zqm ?zqs ?zqx ?zqw ?zqz ?_; (case zqN => k_asm); (case zqm => k_mem); (case zqs => with_reducible assumption); (case zqx => decide); (case zqw => first | exact Nat.lt_of_lt_of_le (by with_reducible assumption) (by decide) | exact Nat.lt_of_le_of_lt (by with_reducible assumption) (by decide) | exact Nat.le_trans (by with_reducible assumption) (by decide) | omega | exact Nat.le_trans (sum_take _ _) (by omega)); (case zqz => first | exact Nat.lt_of_lt_of_le (by with_reducible assumption) (by decide) | exact Nat.lt_of_le_of_lt (by with_reducible assumption) (by decide) | exact Nat.le_trans (by with_reducible assumption) (by decide) | omega | (rw [List.length_take]; omega))); intro _ _; (try dsimp only))))
        | walk1
        | (dsimp only; walk1)
        | (leave1; (try dsimp only))
        | fail "no step"))
      all_goals (refine opost_end (by first | exact .inl rfl | exact .inr rfl) (by k_asm) ?_ (by k_asm) (by ((intro pq hpq; repeat (first | with_reducible exact hpq | refine List.mem_cons_of_mem _ ?_)))); (intro z z1 z2 z3; (repeat (first | with_reducible refine (if_neg z1).trans ?_ | with_reducible refine (if_neg z2).trans ?_ | with_reducible refine (if_neg z3).trans ?_)); rfl))
    · clear nN nF
      intro c9 a9 b9 h9 tk9 F9 N9
      dsimp only
      (repeat' (first
        | (k_unfold; (try dsimp only))
        | (k_end; wrow_close)
        | ((first | with_reducible show wpAny _ _ (exec _ _) _ _ _ | with_reducible show wpAny _ _ (PySem.isTrue _ _ _) _ _ _); k_fold)
        | (with_reducible ((with_reducible show wpAny _ _ (compareOp CmpOp.Eq (Value.str _ _) (Value.str _ _)) _ _ _); (k_here; k_dflt (refine' eqS ?zqe ?_; (case zqe => with_reducible assumption)); (try dsimp only))))
        | (with_reducible ((with_reducible show wpAny _ _ (compareOp CmpOp.Eq (Value.ref _) (Value.ref _)) _ _ _); (k_here; (with_reducible show wpAny _ _ (compareOp CmpOp.Eq (Value.ref _) (Value.ref _)) _ _ _); k_dflt (refine' eqNilL ?zqN ?zqm ?zqm2 ?zqs ?zqu ?_; (case zqN => k_asm); (case zqm => k_mem); (case zqm2 => k_mem); (case zqs => assumption); (case zqu => ktr_units)); (try dsimp only))))
        | (with_reducible ((with_reducible show wpAny _ _ (subscriptTail (PySem.Expr.Name _ _) (PySem.Expr.Name _ _) (Value.ref _) (Value.int _ _)) _ _ _); (k_here; k_dflt (refine' itemL ?zqN ?zqm ?zqs ?zqy ?zqz ?zqf ?_ ?zqhs ?zqhg; (case zqN => k_asm); (case zqm => k_mem); (case zqs => with_reducible assumption); (case zqy => first | exact Int.natCast_nonneg _ | omega); (case zqz => first | exact Int.ofNat_lt.mpr (lt_both (by with_reducible assumption)).1 | exact Int.ofNat_lt.mpr (lt_both (by with_reducible assumption)).2 | omega); (case zqf => first | exact Nat.lt_of_lt_of_le (by with_reducible assumption) (by decide) | exact Nat.lt_of_le_of_lt (by with_reducible assumption) (by decide) | exact Nat.le_trans (by with_reducible assumption) (by decide) | omega); (case zqhs => with_unfolding_all rfl); (case zqhg => (intro _; with_unfolding_all rfl))); intro _; (try dsimp only))))
        | (with_reducible ((with_reducible show wpAny _ _ (exec (Stmt.While _ _ _ _) _) _ _ _); ((with_reducible show wpAny _ _ (exec (Stmt.While _ _ _ _) _) _ _ _); refine Held.out ?_)))
        | (with_reducible ((with_reducible show wpAny _ _ (binaryOp _ (Value.ref _) (Value.ref _)) _ _ _); (k_here; (with_reducible show wpAny _ _ (binaryOp _ (Value.ref _) (Value.ref _)) _ _ _); k_dflt (refine' addL ?zqF ?zqN ?zqm ?zqm2 ?zqs ?zqs2 ?zqz ?_; (case zqF => k_asm); (case zqN => k_asm); (case zqm => k_mem); (case zqm2 => k_mem); (case zqs => assumption); (case zqs2 => assumption); (case zqz => ((try simp only [List.length_take]); omega))); intro D9q h9q F9q N9q S9q l9q; (try k_lt l9q); (try dsimp only))))
        | (with_reducible ((with_reducible show wpAny _ _ (eval (PySem.Expr.ListComp _ _ _ _) _) _ _ _); (k_here; k_dflt (refine LCg.ListComp_U (F₀ := by k_asm) (by with_unfolding_all rfl) (by decide) (by rfl) (by decide) (by rfl) ?_); walk1; k_dflt (refine LCg.CompSrc.base (by rfl) (by k_asm) (by k_asm) (by assumption) (baseSize (by assumption) (by omega)) ?_); intro g9; k_dflt (refine' namesRest g33 named_g33 ?zqi ?zqS ?zqn ?zqt ?_; (case zqi => assumption); (case zqS => exact Or.inl (by assumption)); (case zqn => first | exact Nat.lt_of_lt_of_le (by with_reducible assumption) (by decide) | exact Nat.lt_of_le_of_lt (by with_reducible assumption) (by decide) | exact Nat.le_trans (by with_reducible assumption) (by decide) | omega); (case zqt => (intro k9 t9 I9 oI9 C9 oC9 D9 oD9 m9 h9 tk9 E9 hC9 hx9 F9 N9; ((k_steps; all_goals (refine' TextOne.intro ?zqb ?zqF ?zqN ?zqs; (case zqF => k_asm); (case zqN => k_asm); (case zqs => ((intro pq hpq; repeat (first | with_reducible exact hpq | refine List.mem_cons_of_mem _ ?_)))); (case zqb => ((rename Int.fmod _ _ = _ => hK9q); (first | unfold g7 | unfold g3 | unfold g33); rw [hK9q]; rfl)))))))); intro ysB BB hB1 hB2 hB)))
        | (with_reducible ((with_reducible show wpAny _ _ (exec (Stmt.Assign _ (PySem.Expr.ListComp _ _ _ _) _) _) _ _ _); (first | ((k_here; (with_reducible show wpAny _ _ (exec (Stmt.Assign [Expr.Name (Str.ofString "names") _] _ _) _) _ _ _); k_dflt (refine LCg.Assign_ListComp_U (F₀ := by k_asm) (by rfl) (by with_unfolding_all rfl) (by with_unfolding_all rfl) (by decide) (by rfl) (by decide) (by rfl) (by rfl) (by rfl) ?_); walk1; k_dflt (refine LCg.CompSrc.base (by rfl) (by k_asm) (by k_asm) (by assumption) (baseSize (by assumption) (by omega)) ?_); intro g9; k_dflt (refine' namesRest g3 named_g3 ?zqi ?zqS ?zqn ?zqt ?_; (case zqi => assumption); (case zqS => exact Or.inl (by assumption)); (case zqn => first | exact Nat.lt_of_lt_of_le (by with_reducible assumption) (by decide) | exact Nat.lt_of_le_of_lt (by with_reducible assumption) (by decide) | exact Nat.le_trans (by with_reducible assumption) (by decide) | omega); (case zqt => (intro k9 t9 I9 oI9 C9 oC9 D9 oD9 m9 h9 tk9 E9 hC9 hx9 F9 N9; ((k_steps; all_goals (refine' TextOne.intro ?zqb ?zqF ?zqN ?zqs; (case zqF => k_asm); (case zqN => k_asm); (case zqs => ((intro pq hpq; repeat (first | with_reducible exact hpq | refine List.mem_cons_of_mem _ ?_)))); (case zqb => ((rename Int.fmod _ _ = _ => hK9q); (first | unfold g7 | unfold g3 | unfold g33); rw [hK9q]; rfl)))))))); intro ysA AA hA1 hA2 hA)) | ((k_here; (with_reducible show wpAny _ _ (exec (Stmt.Assign [Expr.Name (Str.ofString "pieces") _] _ _) _) _ _ _); k_dflt (refine LCg.Assign_ListComp_U (F₀ := by k_asm) (by rfl) (by with_unfolding_all rfl) (by with_unfolding_all rfl) (by decide) (by rfl) (by decide) (by rfl) (by rfl) (by rfl) ?_); walk1; k_dflt (refine LCg.CompSrc.base (by rfl) (by k_asm) (by k_asm) (by assumption) (baseSize (by assumption) (by omega)) ?_); intro g9q; k_dflt (refine' piecesRest ?zqi ?zqS ?zqn ?zqt ?_; (case zqi => assumption); (case zqS => exact Or.inl (by assumption)); (case zqn => first | exact Nat.lt_of_lt_of_le (by with_reducible assumption) (by decide) | exact Nat.lt_of_le_of_lt (by with_reducible assumption) (by decide) | exact Nat.le_trans (by with_reducible assumption) (by decide) | omega); (case zqt => (intro k9q t9q I9q oI9q C9q oC9q D9q oD9q m9q h9q tk9q E9q hC9q hx9q F9q N9q; ((k_steps; all_goals (refine' TextOne.intro ?zqb ?zqF ?zqN ?zqs; (case zqF => k_asm); (case zqN => k_asm); (case zqs => ((intro pq hpq; repeat (first | with_reducible exact hpq | refine List.mem_cons_of_mem _ ?_)))); (case zqb => ((rename Int.fmod _ _ = _ => hK9q); (first | unfold g7 | unfold g3 | unfold g33); rw [hK9q]; rfl)))))))); intro ys9q P9q hP9q hys9q; (unfold PFit at hP9q); (rcases hP9q with ⟨hP1q, hP2q, hP3q, hP4q⟩))))))
        | (with_reducible ((with_reducible show wpAny _ _ (compareOp CmpOp.NotEq (Value.str _ _) (Value.str _ _)) _ _ _); (first | ((k_here; k_dflt (refine' neS ?zqe ?_; (case zqe => first | with_reducible assumption | with_reducible exact Eq.symm (by with_reducible assumption) | with_reducible exact law_join _ _ | with_reducible exact law_join3 _ _ _)); (try dsimp only))) | ((k_here; k_dflt (refine' neS ?zqe ?_; (case zqe => first | with_reducible assumption | with_reducible exact Eq.symm (by with_reducible assumption))); (try dsimp only))))))
        | (with_reducible ((with_reducible show wpAny _ _ (call (Value.ref _) _ _) _ _ _); (first | ((k_here; k_dflt (refine' useS (cp_ok _ _ _ _ _ _ _ _ _ _ _ _ ?zqkx ?zqky ?zqkz ?zqkw) ?zqk1 ?zqk2 ?zqk3 ?zqk4 ?zqk5 ?zqkK ?zqkp ?zqkd ?zqku ?_); k_dflt ((((case zqk1 => k_asm); (case zqk2 => k_asm); (case zqk3 => k_asm); (case zqk4 => k_asm); (case zqk5 => k_asm); (case zqkK => first | exact rfl | assumption); (case zqkp => first | trivial | assumption); (case zqkd => first | decide | (rw [Nat.add_assoc]; exact dp_le hdp (by decide)) | ktr_room); (case zqku => first | decide | (rw [Nat.add_assoc]; exact un_le hun (by decide)) | ktr_units))); (case zqkx => first | exact Nat.lt_of_lt_of_le (by with_reducible assumption) (by decide) | exact Nat.lt_of_le_of_lt (by with_reducible assumption) (by decide) | exact Nat.le_trans (by with_reducible assumption) (by decide) | omega); (case zqky => first | exact Nat.lt_of_lt_of_le (by with_reducible assumption) (by decide) | exact Nat.lt_of_le_of_lt (by with_reducible assumption) (by decide) | exact Nat.le_trans (by with_reducible assumption) (by decide) | omega); (case zqkz => ((first | with_reducible exact starts_stroke _ | (rw [Str.append_assoc]; exact starts_stroke _)))); (case zqkw => ((first | with_reducible exact starts_stroke _ | (rw [Str.append_assoc]; exact starts_stroke _))))); intro t9q h9q tk9q F9q N9q; (try dsimp only); (try k_fold))) | ((k_here; k_dflt (refine' useS (join3_ok _ _ _ _ _ _ _ _ _ _ _ _ _ ?zqkx ?zqky ?zqkz) ?zqk1 ?zqk2 ?zqk3 ?zqk4 ?zqk5 ?zqkK ?zqkp ?zqkd ?zqku ?_); k_dflt ((case zqkx => first | exact Nat.lt_of_lt_of_le (by with_reducible assumption) (by decide) | exact Nat.lt_of_le_of_lt (by with_reducible assumption) (by decide) | exact Nat.le_trans (by with_reducible assumption) (by decide) | omega); (case zqky => first | exact Nat.lt_of_lt_of_le (by with_reducible assumption) (by decide) | exact Nat.lt_of_le_of_lt (by with_reducible assumption) (by decide) | exact Nat.le_trans (by with_reducible assumption) (by decide) | omega); (case zqkz => first | exact Nat.lt_of_lt_of_le (by with_reducible assumption) (by decide) | exact Nat.lt_of_le_of_lt (by with_reducible assumption) (by decide) | exact Nat.le_trans (by with_reducible assumption) (by decide) | omega); (((case zqk1 => k_asm); (case zqk2 => k_asm); (case zqk3 => k_asm); (case zqk4 => k_asm); (case zqk5 => k_asm); (case zqkK => first | exact rfl | assumption); (case zqkp => first | trivial | assumption); (case zqkd => first | decide | (rw [Nat.add_assoc]; exact dp_le hdp (by decide)) | ktr_room); (case zqku => first | decide | (rw [Nat.add_assoc]; exact un_le hun (by decide)) | ktr_units)))); intro t9q h9q tk9q F9q N9q; (try dsimp only); (try k_fold))) | ((k_here; k_dflt (first | refine' useS (lj_ok _ _ _ _ _ _ _ _ _ _ _ ?zqkx ?zqky) ?zqk1 ?zqk2 ?zqk3 ?zqk4 ?zqk5 ?zqkK ?zqkp ?zqkd ?zqku ?_ | refine' useS (join2_ok _ _ _ _ _ _ _ _ _ _ _ ?zqkx ?zqky) ?zqk1 ?zqk2 ?zqk3 ?zqk4 ?zqk5 ?zqkK ?zqkp ?zqkd ?zqku ?_); k_dflt ((case zqkx => first | exact Nat.lt_of_lt_of_le (by with_reducible assumption) (by decide) | exact Nat.lt_of_le_of_lt (by with_reducible assumption) (by decide) | exact Nat.le_trans (by with_reducible assumption) (by decide) | omega); (case zqky => first | exact Nat.lt_of_lt_of_le (by with_reducible assumption) (by decide) | exact Nat.lt_of_le_of_lt (by with_reducible assumption) (by decide) | exact Nat.le_trans (by with_reducible assumption) (by decide) | omega); (((case zqk1 => k_asm); (case zqk2 => k_asm); (case zqk3 => k_asm); (case zqk4 => k_asm); (case zqk5 => k_asm); (case zqkK => first | exact rfl | assumption); (case zqkp => first | trivial | assumption); (case zqkd => first | decide | (rw [Nat.add_assoc]; exact dp_le hdp (by decide)) | ktr_room); (case zqku => first | decide | (rw [Nat.add_assoc]; exact un_le hun (by decide)) | ktr_units)))); intro t9q h9q tk9q F9q N9q; (try dsimp only); (try k_fold))) | ((k_here; k_dflt (refine' useT (split_ok _ _ _ _ _ _ _ _ _ ?zqkx) ?zqk1 ?zqk2 ?zqk3 ?zqk4 ?zqk5 ?zqkK ?zqkp ?zqkd ?zqku ?_); k_dflt ((case zqkx => first | exact Nat.lt_of_lt_of_le (by with_reducible assumption) (by decide) | exact Nat.lt_of_le_of_lt (by with_reducible assumption) (by decide) | exact Nat.le_trans (by with_reducible assumption) (by decide) | omega); (((case zqk1 => k_asm); (case zqk2 => k_asm); (case zqk3 => k_asm); (case zqk4 => k_asm); (case zqk5 => k_asm); (case zqkK => first | exact rfl | assumption); (case zqkp => first | trivial | assumption); (case zqkd => first | decide | (rw [Nat.add_assoc]; exact dp_le hdp (by decide)) | ktr_room); (case zqku => first | decide | (rw [Nat.add_assoc]; exact un_le hun (by decide)) | ktr_units)))); intro d9q ts9q h9q tk9q F9q N9q S9q l9q; (obtain ⟨t7q, u7q, e7q⟩ := strs2 S9q; subst e7q; clear S9q); (try dsimp only); (try k_fold))) | ((k_here; k_dflt (first | refine' useS (norm_ok _ _ _ _ _ _ _ _ _ ?zqkx) ?zqk1 ?zqk2 ?zqk3 ?zqk4 ?zqk5 ?zqkK ?zqkp ?zqkd ?zqku ?_ | refine' useS (lw_ok _ _ _ _ _ _ _ _ _ ?zqkx) ?zqk1 ?zqk2 ?zqk3 ?zqk4 ?zqk5 ?zqkK ?zqkp ?zqkd ?zqku ?_ | refine' useS (dirname_ok _ _ _ _ _ _ _ _ _ ?zqkx) ?zqk1 ?zqk2 ?zqk3 ?zqk4 ?zqk5 ?zqkK ?zqkp ?zqkd ?zqku ?_ | refine' useS (basename_ok _ _ _ _ _ _ _ _ _ ?zqkx) ?zqk1 ?zqk2 ?zqk3 ?zqk4 ?zqk5 ?zqkK ?zqkp ?zqkd ?zqku ?_); k_dflt ((case zqkx => first | exact Nat.lt_of_lt_of_le (by with_reducible assumption) (by decide) | exact Nat.lt_of_le_of_lt (by with_reducible assumption) (by decide) | exact Nat.le_trans (by with_reducible assumption) (by decide) | omega); (((case zqk1 => k_asm); (case zqk2 => k_asm); (case zqk3 => k_asm); (case zqk4 => k_asm); (case zqk5 => k_asm); (case zqkK => first | exact rfl | assumption); (case zqkp => first | trivial | assumption); (case zqkd => first | decide | (rw [Nat.add_assoc]; exact dp_le hdp (by decide)) | ktr_room); (case zqku => first | decide | (rw [Nat.add_assoc]; exact un_le hun (by decide)) | ktr_units)))); intro t9q h9q tk9q F9q N9q; (try dsimp only); (try k_fold))))))
        | (with_reducible ((with_reducible show wpAny _ _ (subscriptTail (PySem.Expr.Call _ _ _ _) (PySem.Expr.Call _ _ _ _) (Value.ref _) (Value.int _ _)) _ _ _); (k_here; k_dflt (refine' itemCount ?zqN ?zqm ?zqs ?zqe ?zqx ?_ ?zqhs; (case zqN => k_asm); (case zqm => k_mem); (case zqs => with_reducible assumption); (case zqe => with_reducible assumption); (case zqx => first | exact Nat.lt_of_lt_of_le (by with_reducible assumption) (by decide) | exact Nat.lt_of_le_of_lt (by with_reducible assumption) (by decide) | exact Nat.le_trans (by with_reducible assumption) (by decide) | omega); (case zqhs => with_unfolding_all rfl)); intro _ _; (try dsimp only))))
        | (with_reducible ((with_reducible show wpAny _ _ (compareOp CmpOp.NotEq (Value.ref _) (Value.ref _)) _ _ _); (k_here; k_dflt (refine' neT ?zqN ?zqa ?zqb ?zqe ?zqe2 ?zqu ?_; (case zqN => k_asm); (case zqa => k_mem); (case zqb => k_mem); (case zqe => first | with_reducible rfl | exact law_due1 (by with_reducible assumption) | exact law_due2 (by with_reducible assumption)); (case zqe2 => first | with_reducible rfl | exact law_tail _); (case zqu => ktr_units)); (try dsimp only))))
        | (with_reducible ((with_reducible show wpAny _ _ (pyIter (Value.ref _)) _ _ _); ((with_reducible show wpAny _ _ (pyIter (Value.ref _)) (fun it s₂ => LoopAtV _ _ _ _ _ _ _ _ _ it s₂) _ _); refine Held.out ?_)))
        | (with_reducible ((with_reducible show wpAny _ _ (exec (Stmt.For _ _ _ _ _) _) _ _ _); (k_here; (rename Fr _ _ _ _ => lF'q); (with_unfolding_all refine' For_invVF lF'q ?zqk1 ?zqk2 ?_; (case zqk1 => exact rfl); (case zqk2 => exact rfl); k_whole))))
        | (with_reducible ((with_reducible show wpAny _ _ (subscriptTail (PySem.Expr.Name _ _) _ (Value.ref _) (Value.ref _)) _ _ _); (k_here; (with_reducible show wpAny _ _ (subscriptTail _ (PySem.Expr.Slice none _ none _) (Value.ref _) (Value.ref _)) _ _ _); k_dflt (refine' uptoL ?zqF ?zqN ?zqm ?zqs ?zqy ?zqz ?_ ?zqhs ?zqhg; (case zqF => k_asm); (case zqN => k_asm); (case zqm => k_mem); (case zqs => assumption); (case zqy => first | exact Nat.lt_of_lt_of_le (by with_reducible assumption) (by decide) | exact Nat.lt_of_le_of_lt (by with_reducible assumption) (by decide) | exact Nat.le_trans (by with_reducible assumption) (by decide) | omega | exact half0 _); (case zqz => first | exact Nat.lt_of_lt_of_le (by with_reducible assumption) (by decide) | exact Nat.lt_of_le_of_lt (by with_reducible assumption) (by decide) | exact Nat.le_trans (by with_reducible assumption) (by decide) | omega); (case zqhs => with_unfolding_all rfl); (case zqhg => (intro _; with_unfolding_all rfl))); intro D9q h9q F9q N9q S9q l9q; (try k_lt l9q); (try dsimp only))))
        | (with_reducible ((with_reducible show wpAny _ _ (call (Value.builtin "len") _ _) _ _ _); (k_here; (with_reducible show wpAny _ _ (call (Value.builtin "len") [Value.ref _]) _ _ _); k_dflt (refine' lenL ?zqN ?zqm ?zqs ?zqz ?_; (case zqN => k_asm); (case zqm => k_mem); (case zqs => assumption); (case zqz => first | exact Nat.lt_of_lt_of_le (by with_reducible assumption) (by decide) | exact Nat.lt_of_le_of_lt (by with_reducible assumption) (by decide) | exact Nat.le_trans (by with_reducible assumption) (by decide) | omega)); (try dsimp only))))
        | (with_reducible ((with_reducible show wpAny _ _ (call (Value.builtin "str.join") _ _) _ _ _); (k_here; (with_reducible show wpAny _ _ (call (Value.builtin "str.join") [Value.str _ _, Value.ref _]) _ _ _); k_dflt (refine' joinL ?zqN ?zqm ?zqs ?zqx ?zqw ?zqz ?_; (case zqN => k_asm); (case zqm => k_mem); (case zqs => with_reducible assumption); (case zqx => decide); (case zqw => first | exact Nat.lt_of_lt_of_le (by with_reducible assumption) (by decide) | exact Nat.lt_of_le_of_lt (by with_reducible assumption) (by decide) | exact Nat.le_trans (by with_reducible assumption) (by decide) | omega | exact Nat.le_trans (sum_take _ _) (by omega)); (case zqz => first | exact Nat.lt_of_lt_of_le (by with_reducible assumption) (by decide) | exact Nat.lt_of_le_of_lt (by with_reducible assumption) (by decide) | exact Nat.le_trans (by with_reducible assumption) (by decide) | omega | (rw [List.length_take]; omega))); intro _ _; (try dsimp only))))
        | walk1
        | (dsimp only; walk1)
        | (leave1; (try dsimp only))
        | fail "no step"))
      refine Held.mk ?_
      rename StrsAre (_ ++ _) (_ ++ _) => sB
      rename News _ _ _ _ => nN
      rename Fr _ _ _ _ => nF
      have hC2 : Named (List.take ((AA.length : Int).fdiv 2).toNat AA ++ BB) := named_append (named_take hA2 _) hB2
      have hC1 : (List.take ((AA.length : Int).fdiv 2).toNat AA ++ BB).length ≤ 94 := both_len hA1 hB1
      generalize (List.take _ AA ++ BB) = CC at sB hC2 hC1
      generalize (List.take _ ysA ++ ysB) = ysC at sB nN
      with_unfolding_all refine' sameLoop (x := Str.ofString "same") AA CC ?F ?N ?_ ?_
      case F => exact nF
      case N => exact nN
      · clear nN nF
        intro i t9 h9 tk9 he hi F9 N9
        (repeat' (first
        | (k_unfold; (try dsimp only))
        | (k_end; wrow_close)
        | ((first | with_reducible show wpAny _ _ (exec _ _) _ _ _ | with_reducible show wpAny _ _ (PySem.isTrue _ _ _) _ _ _); k_fold)
        | (with_reducible ((with_reducible show wpAny _ _ (compareOp CmpOp.Eq (Value.str _ _) (Value.str _ _)) _ _ _); (k_here; k_dflt (refine' eqS ?zqe ?_; (case zqe => with_reducible assumption)); (try dsimp only))))
        | (with_reducible ((with_reducible show wpAny _ _ (compareOp CmpOp.Eq (Value.ref _) (Value.ref _)) _ _ _); (k_here; (with_reducible show wpAny _ _ (compareOp CmpOp.Eq (Value.ref _) (Value.ref _)) _ _ _); k_dflt (refine' eqNilL ?zqN ?zqm ?zqm2 ?zqs ?zqu ?_; (case zqN => k_asm); (case zqm => k_mem); (case zqm2 => k_mem); (case zqs => assumption); (case zqu => ktr_units)); (try dsimp only))))
        | (with_reducible ((with_reducible show wpAny _ _ (subscriptTail (PySem.Expr.Name _ _) (PySem.Expr.Name _ _) (Value.ref _) (Value.int _ _)) _ _ _); (k_here; k_dflt (refine' itemL ?zqN ?zqm ?zqs ?zqy ?zqz ?zqf ?_ ?zqhs ?zqhg; (case zqN => k_asm); (case zqm => k_mem); (case zqs => with_reducible assumption); (case zqy => first | exact Int.natCast_nonneg _ | omega); (case zqz => first | exact Int.ofNat_lt.mpr (lt_both (by with_reducible assumption)).1 | exact Int.ofNat_lt.mpr (lt_both (by with_reducible assumption)).2 | omega); (case zqf => first | exact Nat.lt_of_lt_of_le (by with_reducible assumption) (by decide) | exact Nat.lt_of_le_of_lt (by with_reducible assumption) (by decide) | exact Nat.le_trans (by with_reducible assumption) (by decide) | omega); (case zqhs => with_unfolding_all rfl); (case zqhg => (intro _; with_unfolding_all rfl))); intro _; (try dsimp only))))
        | (with_reducible ((with_reducible show wpAny _ _ (exec (Stmt.While _ _ _ _) _) _ _ _); ((with_reducible show wpAny _ _ (exec (Stmt.While _ _ _ _) _) _ _ _); refine Held.out ?_)))
        | (with_reducible ((with_reducible show wpAny _ _ (binaryOp _ (Value.ref _) (Value.ref _)) _ _ _); (k_here; (with_reducible show wpAny _ _ (binaryOp _ (Value.ref _) (Value.ref _)) _ _ _); k_dflt (refine' addL ?zqF ?zqN ?zqm ?zqm2 ?zqs ?zqs2 ?zqz ?_; (case zqF => k_asm); (case zqN => k_asm); (case zqm => k_mem); (case zqm2 => k_mem); (case zqs => assumption); (case zqs2 => assumption); (case zqz => ((try simp only [List.length_take]); omega))); intro D9q h9q F9q N9q S9q l9q; (try k_lt l9q); (try dsimp only))))
        | (with_reducible ((with_reducible show wpAny _ _ (eval (PySem.Expr.ListComp _ _ _ _) _) _ _ _); (k_here; k_dflt (refine LCg.ListComp_U (F₀ := by k_asm) (by with_unfolding_all rfl) (by decide) (by rfl) (by decide) (by rfl) ?_); walk1; k_dflt (refine LCg.CompSrc.base (by rfl) (by k_asm) (by k_asm) (by assumption) (baseSize (by assumption) (by omega)) ?_); intro g9; k_dflt (refine' namesRest g33 named_g33 ?zqi ?zqS ?zqn ?zqt ?_; (case zqi => assumption); (case zqS => exact Or.inl (by assumption)); (case zqn => first | exact Nat.lt_of_lt_of_le (by with_reducible assumption) (by decide) | exact Nat.lt_of_le_of_lt (by with_reducible assumption) (by decide) | exact Nat.le_trans (by with_reducible assumption) (by decide) | omega); (case zqt => (intro k9 t9 I9 oI9 C9 oC9 D9 oD9 m9 h9 tk9 E9 hC9 hx9 F9 N9; ((k_steps; all_goals (refine' TextOne.intro ?zqb ?zqF ?zqN ?zqs; (case zqF => k_asm); (case zqN => k_asm); (case zqs => ((intro pq hpq; repeat (first | with_reducible exact hpq | refine List.mem_cons_of_mem _ ?_)))); (case zqb => ((rename Int.fmod _ _ = _ => hK9q); (first | unfold g7 | unfold g3 | unfold g33); rw [hK9q]; rfl)))))))); intro ysB BB hB1 hB2 hB)))
        | (with_reducible ((with_reducible show wpAny _ _ (exec (Stmt.Assign _ (PySem.Expr.ListComp _ _ _ _) _) _) _ _ _); (first | ((k_here; (with_reducible show wpAny _ _ (exec (Stmt.Assign [Expr.Name (Str.ofString "names") _] _ _) _) _ _ _); k_dflt (refine LCg.Assign_ListComp_U (F₀ := by k_asm) (by rfl) (by with_unfolding_all rfl) (by with_unfolding_all rfl) (by decide) (by rfl) (by decide) (by rfl) (by rfl) (by rfl) ?_); walk1; k_dflt (refine LCg.CompSrc.base (by rfl) (by k_asm) (by k_asm) (by assumption) (baseSize (by assumption) (by omega)) ?_); intro g9; k_dflt (refine' namesRest g3 named_g3 ?zqi ?zqS ?zqn ?zqt ?_; (case zqi => assumption); (case zqS => exact Or.inl (by assumption)); (case zqn => first | exact Nat.lt_of_lt_of_le (by with_reducible assumption) (by decide) | exact Nat.lt_of_le_of_lt (by with_reducible assumption) (by decide) | exact Nat.le_trans (by with_reducible assumption) (by decide) | omega); (case zqt => (intro k9 t9 I9 oI9 C9 oC9 D9 oD9 m9 h9 tk9 E9 hC9 hx9 F9 N9; ((k_steps; all_goals (refine' TextOne.intro ?zqb ?zqF ?zqN ?zqs; (case zqF => k_asm); (case zqN => k_asm); (case zqs => ((intro pq hpq; repeat (first | with_reducible exact hpq | refine List.mem_cons_of_mem _ ?_)))); (case zqb => ((rename Int.fmod _ _ = _ => hK9q); (first | unfold g7 | unfold g3 | unfold g33); rw [hK9q]; rfl)))))))); intro ysA AA hA1 hA2 hA)) | ((k_here; (with_reducible show wpAny _ _ (exec (Stmt.Assign [Expr.Name (Str.ofString "pieces") _] _ _) _) _ _ _); k_dflt (refine LCg.Assign_ListComp_U (F₀ := by k_asm) (by rfl) (by with_unfolding_all rfl) (by with_unfolding_all rfl) (by decide) (by rfl) (by decide) (by rfl) (by rfl) (by rfl) ?_); walk1; k_dflt (refine LCg.CompSrc.base (by rfl) (by k_asm) (by k_asm) (by assumption) (baseSize (by assumption) (by omega)) ?_); intro g9q; k_dflt (refine' piecesRest ?zqi ?zqS ?zqn ?zqt ?_; (case zqi => assumption); (case zqS => exact Or.inl (by assumption)); (case zqn => first | exact Nat.lt_of_lt_of_le (by with_reducible assumption) (by decide) | exact Nat.lt_of_le_of_lt (by with_reducible assumption) (by decide) | exact Nat.le_trans (by with_reducible assumption) (by decide) | omega); (case zqt => (intro k9q t9q I9q oI9q C9q oC9q D9q oD9q m9q h9q tk9q E9q hC9q hx9q F9q N9q; ((k_steps; all_goals (refine' TextOne.intro ?zqb ?zqF ?zqN ?zqs; (case zqF => k_asm); (case zqN => k_asm); (case zqs => ((intro pq hpq; repeat (first | with_reducible exact hpq | refine List.mem_cons_of_mem _ ?_)))); (case zqb => ((rename Int.fmod _ _ = _ => hK9q); (first | unfold g7 | unfold g3 | unfold g33); rw [hK9q]; rfl)))))))); intro ys9q P9q hP9q hys9q; (unfold PFit at hP9q); (rcases hP9q with ⟨hP1q, hP2q, hP3q, hP4q⟩))))))
        | (with_reducible ((with_reducible show wpAny _ _ (compareOp CmpOp.NotEq (Value.str _ _) (Value.str _ _)) _ _ _); (first | ((k_here; k_dflt (refine' neS ?zqe ?_; (case zqe => first | with_reducible assumption | with_reducible exact Eq.symm (by with_reducible assumption) | with_reducible exact law_join _ _ | with_reducible exact law_join3 _ _ _)); (try dsimp only))) | ((k_here; k_dflt (refine' neS ?zqe ?_; (case zqe => first | with_reducible assumption | with_reducible exact Eq.symm (by with_reducible assumption))); (try dsimp only))))))
        | (with_reducible ((with_reducible show wpAny _ _ (call (Value.ref _) _ _) _ _ _); (first | ((k_here; k_dflt (refine' useS (cp_ok _ _ _ _ _ _ _ _ _ _ _ _ ?zqkx ?zqky ?zqkz ?zqkw) ?zqk1 ?zqk2 ?zqk3 ?zqk4 ?zqk5 ?zqkK ?zqkp ?zqkd ?zqku ?_); k_dflt ((((case zqk1 => k_asm); (case zqk2 => k_asm); (case zqk3 => k_asm); (case zqk4 => k_asm); (case zqk5 => k_asm); (case zqkK => first | exact rfl | assumption); (case zqkp => first | trivial | assumption); (case zqkd => first | decide | (rw [Nat.add_assoc]; exact dp_le hdp (by decide)) | ktr_room); (case zqku => first | decide | (rw [Nat.add_assoc]; exact un_le hun (by decide)) | ktr_units))); (case zqkx => first | exact Nat.lt_of_lt_of_le (by with_reducible assumption) (by decide) | exact Nat.lt_of_le_of_lt (by with_reducible assumption) (by decide) | exact Nat.le_trans (by with_reducible assumption) (by decide) | omega); (case zqky => first | exact Nat.lt_of_lt_of_le (by with_reducible assumption) (by decide) | exact Nat.lt_of_le_of_lt (by with_reducible assumption) (by decide) | exact Nat.le_trans (by with_reducible assumption) (by decide) | omega); (case zqkz => ((first | with_reducible exact starts_stroke _ | (rw [Str.append_assoc]; exact starts_stroke _)))); (case zqkw => ((first | with_reducible exact starts_stroke _ | (rw [Str.append_assoc]; exact starts_stroke _))))); intro t9q h9q tk9q F9q N9q; (try dsimp only); (try k_fold))) | ((k_here; k_dflt (refine' useS (join3_ok _ _ _ _ _ _ _ _ _ _ _ _ _ ?zqkx ?zqky ?zqkz) ?zqk1 ?zqk2 ?zqk3 ?zqk4 ?zqk5 ?zqkK ?zqkp ?zqkd ?zqku ?_); k_dflt ((case zqkx => first | exact Nat.lt_of_lt_of_le (by with_reducible assumption) (by decide) | exact Nat.lt_of_le_of_lt (by with_reducible assumption) (by decide) | exact Nat.le_trans (by with_reducible assumption) (by decide) | omega); (case zqky => first | exact Nat.lt_of_lt_of_le (by with_reducible assumption) (by decide) | exact Nat.lt_of_le_of_lt (by with_reducible assumption) (by decide) | exact Nat.le_trans (by with_reducible assumption) (by decide) | omega); (case zqkz => first | exact Nat.lt_of_lt_of_le (by with_reducible assumption) (by decide) | exact Nat.lt_of_le_of_lt (by with_reducible assumption) (by decide) | exact Nat.le_trans (by with_reducible assumption) (by decide) | omega); (((case zqk1 => k_asm); (case zqk2 => k_asm); (case zqk3 => k_asm); (case zqk4 => k_asm); (case zqk5 => k_asm); (case zqkK => first | exact rfl | assumption); (case zqkp => first | trivial | assumption); (case zqkd => first | decide | (rw [Nat.add_assoc]; exact dp_le hdp (by decide)) | ktr_room); (case zqku => first | decide | (rw [Nat.add_assoc]; exact un_le hun (by decide)) | ktr_units)))); intro t9q h9q tk9q F9q N9q; (try dsimp only); (try k_fold))) | ((k_here; k_dflt (first | refine' useS (lj_ok _ _ _ _ _ _ _ _ _ _ _ ?zqkx ?zqky) ?zqk1 ?zqk2 ?zqk3 ?zqk4 ?zqk5 ?zqkK ?zqkp ?zqkd ?zqku ?_ | refine' useS (join2_ok _ _ _ _ _ _ _ _ _ _ _ ?zqkx ?zqky) ?zqk1 ?zqk2 ?zqk3 ?zqk4 ?zqk5 ?zqkK ?zqkp ?zqkd ?zqku ?_); k_dflt ((case zqkx => first | exact Nat.lt_of_lt_of_le (by with_reducible assumption) (by decide) | exact Nat.lt_of_le_of_lt (by with_reducible assumption) (by decide) | exact Nat.le_trans (by with_reducible assumption) (by decide) | omega); (case zqky => first | exact Nat.lt_of_lt_of_le (by with_reducible assumption) (by decide) | exact Nat.lt_of_le_of_lt (by with_reducible assumption) (by decide) | exact Nat.le_trans (by with_reducible assumption) (by decide) | omega); (((case zqk1 => k_asm); (case zqk2 => k_asm); (case zqk3 => k_asm); (case zqk4 => k_asm); (case zqk5 => k_asm); (case zqkK => first | exact rfl | assumption); (case zqkp => first | trivial | assumption); (case zqkd => first | decide | (rw [Nat.add_assoc]; exact dp_le hdp (by decide)) | ktr_room); (case zqku => first | decide | (rw [Nat.add_assoc]; exact un_le hun (by decide)) | ktr_units)))); intro t9q h9q tk9q F9q N9q; (try dsimp only); (try k_fold))) | ((k_here; k_dflt (refine' useT (split_ok _ _ _ _ _ _ _ _ _ ?zqkx) ?zqk1 ?zqk2 ?zqk3 ?zqk4 ?zqk5 ?zqkK ?zqkp ?zqkd ?zqku ?_); k_dflt ((case zqkx => first | exact Nat.lt_of_lt_of_le (by with_reducible assumption) (by decide) | exact Nat.lt_of_le_of_lt (by with_reducible assumption) (by decide) | exact Nat.le_trans (by with_reducible assumption) (by decide) | omega); (((case zqk1 => k_asm); (case zqk2 => k_asm); (case zqk3 => k_asm); (case zqk4 => k_asm); (case zqk5 => k_asm); (case zqkK => first | exact rfl | assumption); (case zqkp => first | trivial | assumption); (case zqkd => first | decide | (rw [Nat.add_assoc]; exact dp_le hdp (by decide)) | ktr_room); (case zqku => first | decide | (rw [Nat.add_assoc]; exact un_le hun (by decide)) | ktr_units)))); intro d9q ts9q h9q tk9q F9q N9q S9q l9q; (obtain ⟨t7q, u7q, e7q⟩ := strs2 S9q; subst e7q; clear S9q); (try dsimp only); (try k_fold))) | ((k_here; k_dflt (first | refine' useS (norm_ok _ _ _ _ _ _ _ _ _ ?zqkx) ?zqk1 ?zqk2 ?zqk3 ?zqk4 ?zqk5 ?zqkK ?zqkp ?zqkd ?zqku ?_ | refine' useS (lw_ok _ _ _ _ _ _ _ _ _ ?zqkx) ?zqk1 ?zqk2 ?zqk3 ?zqk4 ?zqk5 ?zqkK ?zqkp ?zqkd ?zqku ?_ | refine' useS (dirname_ok _ _ _ _ _ _ _ _ _ ?zqkx) ?zqk1 ?zqk2 ?zqk3 ?zqk4 ?zqk5 ?zqkK ?zqkp ?zqkd ?zqku ?_ | refine' useS (basename_ok _ _ _ _ _ _ _ _ _ ?zqkx) ?zqk1 ?zqk2 ?zqk3 ?zqk4 ?zqk5 ?zqkK ?zqkp ?zqkd ?zqku ?_); k_dflt ((case zqkx => first | exact Nat.lt_of_lt_of_le (by with_reducible assumption) (by decide) | exact Nat.lt_of_le_of_lt (by with_reducible assumption) (by decide) | exact Nat.le_trans (by with_reducible assumption) (by decide) | omega); (((case zqk1 => k_asm); (case zqk2 => k_asm); (case zqk3 => k_asm); (case zqk4 => k_asm); (case zqk5 => k_asm); (case zqkK => first | exact rfl | assumption); (case zqkp => first | trivial | assumption); (case zqkd => first | decide | (rw [Nat.add_assoc]; exact dp_le hdp (by decide)) | ktr_room); (case zqku => first | decide | (rw [Nat.add_assoc]; exact un_le hun (by decide)) | ktr_units)))); intro t9q h9q tk9q F9q N9q; (try dsimp only); (try k_fold))))))
        | (with_reducible ((with_reducible show wpAny _ _ (subscriptTail (PySem.Expr.Call _ _ _ _) (PySem.Expr.Call _ _ _ _) (Value.ref _) (Value.int _ _)) _ _ _); (k_here; k_dflt (refine' itemCount ?zqN ?zqm ?zqs ?zqe ?zqx ?_ ?zqhs; (case zqN => k_asm); (case zqm => k_mem); (case zqs => with_reducible assumption); (case zqe => with_reducible assumption); (case zqx => first | exact Nat.lt_of_lt_of_le (by with_reducible assumption) (by decide) | exact Nat.lt_of_le_of_lt (by with_reducible assumption) (by decide) | exact Nat.le_trans (by with_reducible assumption) (by decide) | omega); (case zqhs => with_unfolding_all rfl)); intro _ _; (try dsimp only))))
        | (with_reducible ((with_reducible show wpAny _ _ (compareOp CmpOp.NotEq (Value.ref _) (Value.ref _)) _ _ _); (k_here; k_dflt (refine' neT ?zqN ?zqa ?zqb ?zqe ?zqe2 ?zqu ?_; (case zqN => k_asm); (case zqa => k_mem); (case zqb => k_mem); (case zqe => first | with_reducible rfl | exact law_due1 (by with_reducible assumption) | exact law_due2 (by with_reducible assumption)); (case zqe2 => first | with_reducible rfl | exact law_tail _); (case zqu => ktr_units)); (try dsimp only))))
        | (with_reducible ((with_reducible show wpAny _ _ (pyIter (Value.ref _)) _ _ _); ((with_reducible show wpAny _ _ (pyIter (Value.ref _)) (fun it s₂ => LoopAtV _ _ _ _ _ _ _ _ _ it s₂) _ _); refine Held.out ?_)))
        | (with_reducible ((with_reducible show wpAny _ _ (exec (Stmt.For _ _ _ _ _) _) _ _ _); (k_here; (rename Fr _ _ _ _ => lF'q); (with_unfolding_all refine' For_invVF lF'q ?zqk1 ?zqk2 ?_; (case zqk1 => exact rfl); (case zqk2 => exact rfl); k_whole))))
        | (with_reducible ((with_reducible show wpAny _ _ (subscriptTail (PySem.Expr.Name _ _) _ (Value.ref _) (Value.ref _)) _ _ _); (k_here; (with_reducible show wpAny _ _ (subscriptTail _ (PySem.Expr.Slice none _ none _) (Value.ref _) (Value.ref _)) _ _ _); k_dflt (refine' uptoL ?zqF ?zqN ?zqm ?zqs ?zqy ?zqz ?_ ?zqhs ?zqhg; (case zqF => k_asm); (case zqN => k_asm); (case zqm => k_mem); (case zqs => assumption); (case zqy => first | exact Nat.lt_of_lt_of_le (by with_reducible assumption) (by decide) | exact Nat.lt_of_le_of_lt (by with_reducible assumption) (by decide) | exact Nat.le_trans (by with_reducible assumption) (by decide) | omega | exact half0 _); (case zqz => first | exact Nat.lt_of_lt_of_le (by with_reducible assumption) (by decide) | exact Nat.lt_of_le_of_lt (by with_reducible assumption) (by decide) | exact Nat.le_trans (by with_reducible assumption) (by decide) | omega); (case zqhs => with_unfolding_all rfl); (case zqhg => (intro _; with_unfolding_all rfl))); intro D9q h9q F9q N9q S9q l9q; (try k_lt l9q); (try dsimp only))))
        | (with_reducible ((with_reducible show wpAny _ _ (call (Value.builtin "len") _ _) _ _ _); (k_here; (with_reducible show wpAny _ _ (call (Value.builtin "len") [Value.ref _]) _ _ _); k_dflt (refine' lenL ?zqN ?zqm ?zqs ?zqz ?_; (case zqN => k_asm); (case zqm => k_mem); (case zqs => assumption); (case zqz => first | exact Nat.lt_of_lt_of_le (by with_reducible assumption) (by decide) | exact Nat.lt_of_le_of_lt (by with_reducible assumption) (by decide) | exact Nat.le_trans (by with_reducible assumption) (by decide) | omega)); (try dsimp only))))
        | (with_reducible ((with_reducible show wpAny _ _ (call (Value.builtin "str.join") _ _) _ _ _); (k_here; (with_reducible show wpAny _ _ (call (Value.builtin "str.join") [Value.str _ _, Value.ref _]) _ _ _); k_dflt (refine' joinL ?zqN ?zqm ?zqs ?zqx ?zqw ?zqz ?_; (case zqN => k_asm); (case zqm => k_mem); (case zqs => with_reducible assumption); (case zqx => decide); (case zqw => first | exact Nat.lt_of_lt_of_le (by with_reducible assumption) (by decide) | exact Nat.lt_of_le_of_lt (by with_reducible assumption) (by decide) | exact Nat.le_trans (by with_reducible assumption) (by decide) | omega | exact Nat.le_trans (sum_take _ _) (by omega)); (case zqz => first | exact Nat.lt_of_lt_of_le (by with_reducible assumption) (by decide) | exact Nat.lt_of_le_of_lt (by with_reducible assumption) (by decide) | exact Nat.le_trans (by with_reducible assumption) (by decide) | omega | (rw [List.length_take]; omega))); intro _ _; (try dsimp only))))
        | walk1
        | (dsimp only; walk1)
        | (leave1; (try dsimp only))
        | fail "no step"))
        · rename (_ == _) = true => hq
          refine spost_end (by k_asm) (by k_asm) (same_next he (lt_both (by with_reducible assumption)).1 (lt_both (by with_reducible assumption)).2 hq) (by omega)
        · rename (_ == _) = false => hq
          refine sdone_end (by k_asm) (by k_asm) (same_stop he (lt_both (by with_reducible assumption)).1 (lt_both (by with_reducible assumption)).2 hq)
        · refine sdone_end (by k_asm) (by k_asm) (same_all he (by omega))
      · clear nN nF
        intro i t9 h9 tk9 hp F9 N9
        have w4 := names_len hA2 hA1
        have w5 := others_len hC2 hC1
        have w6 : (AA.take ((i : Int)).toNat).length ≤ 63 := Nat.le_trans (List.length_take_le' _ _) hA1
        have w1 := names_sum hA2 (Nat.le_trans hA1 (by decide))
        have w2 := names_sum hC2 hC1
        have w3 := names_sum (named_take hA2 ((i : Int)).toNat) (Nat.le_trans w6 (by decide))
        have w7 := law_end hA2 hC2 hp
        have w8 : (Str.ofString "/").length = 1 := rfl
        have w9 := names_len (named_take hA2 ((i : Int)).toNat) w6
        (repeat' (first
        | (k_unfold; (try dsimp only))
        | (k_end; wrow_close)
        | ((first | with_reducible show wpAny _ _ (exec _ _) _ _ _ | with_reducible show wpAny _ _ (PySem.isTrue _ _ _) _ _ _); k_fold)
        | (with_reducible ((with_reducible show wpAny _ _ (compareOp CmpOp.Eq (Value.str _ _) (Value.str _ _)) _ _ _); (k_here; k_dflt (refine' eqS ?zqe ?_; (case zqe => with_reducible assumption)); (try dsimp only))))
        | (with_reducible ((with_reducible show wpAny _ _ (compareOp CmpOp.Eq (Value.ref _) (Value.ref _)) _ _ _); (k_here; (with_reducible show wpAny _ _ (compareOp CmpOp.Eq (Value.ref _) (Value.ref _)) _ _ _); k_dflt (refine' eqNilL ?zqN ?zqm ?zqm2 ?zqs ?zqu ?_; (case zqN => k_asm); (case zqm => k_mem); (case zqm2 => k_mem); (case zqs => assumption); (case zqu => ktr_units)); (try dsimp only))))
        | (with_reducible ((with_reducible show wpAny _ _ (subscriptTail (PySem.Expr.Name _ _) (PySem.Expr.Name _ _) (Value.ref _) (Value.int _ _)) _ _ _); (k_here; k_dflt (refine' itemL ?zqN ?zqm ?zqs ?zqy ?zqz ?zqf ?_ ?zqhs ?zqhg; (case zqN => k_asm); (case zqm => k_mem); (case zqs => with_reducible assumption); (case zqy => first | exact Int.natCast_nonneg _ | omega); (case zqz => first | exact Int.ofNat_lt.mpr (lt_both (by with_reducible assumption)).1 | exact Int.ofNat_lt.mpr (lt_both (by with_reducible assumption)).2 | omega); (case zqf => first | exact Nat.lt_of_lt_of_le (by with_reducible assumption) (by decide) | exact Nat.lt_of_le_of_lt (by with_reducible assumption) (by decide) | exact Nat.le_trans (by with_reducible assumption) (by decide) | omega); (case zqhs => with_unfolding_all rfl); (case zqhg => (intro _; with_unfolding_all rfl))); intro _; (try dsimp only))))
        | (with_reducible ((with_reducible show wpAny _ _ (exec (Stmt.While _ _ _ _) _) _ _ _); ((with_reducible show wpAny _ _ (exec (Stmt.While _ _ _ _) _) _ _ _); refine Held.out ?_)))
        | (with_reducible ((with_reducible show wpAny _ _ (binaryOp _ (Value.ref _) (Value.ref _)) _ _ _); (k_here; (with_reducible show wpAny _ _ (binaryOp _ (Value.ref _) (Value.ref _)) _ _ _); k_dflt (refine' addL ?zqF ?zqN ?zqm ?zqm2 ?zqs ?zqs2 ?zqz ?_; (case zqF => k_asm); (case zqN => k_asm); (case zqm => k_mem); (case zqm2 => k_mem); (case zqs => assumption); (case zqs2 => assumption); (case zqz => ((try simp only [List.length_take]); omega))); intro D9q h9q F9q N9q S9q l9q; (try k_lt l9q); (try dsimp only))))
        | (with_reducible ((with_reducible show wpAny _ _ (eval (PySem.Expr.ListComp _ _ _ _) _) _ _ _); (k_here; k_dflt (refine LCg.ListComp_U (F₀ := by k_asm) (by with_unfolding_all rfl) (by decide) (by rfl) (by decide) (by rfl) ?_); walk1; k_dflt (refine LCg.CompSrc.base (by rfl) (by k_asm) (by k_asm) (by assumption) (baseSize (by assumption) (by omega)) ?_); intro g9; k_dflt (refine' namesRest g33 named_g33 ?zqi ?zqS ?zqn ?zqt ?_; (case zqi => assumption); (case zqS => exact Or.inl (by assumption)); (case zqn => first | exact Nat.lt_of_lt_of_le (by with_reducible assumption) (by decide) | exact Nat.lt_of_le_of_lt (by with_reducible assumption) (by decide) | exact Nat.le_trans (by with_reducible assumption) (by decide) | omega); (case zqt => (intro k9 t9 I9 oI9 C9 oC9 D9 oD9 m9 h9 tk9 E9 hC9 hx9 F9 N9; ((k_steps; all_goals (refine' TextOne.intro ?zqb ?zqF ?zqN ?zqs; (case zqF => k_asm); (case zqN => k_asm); (case zqs => ((intro pq hpq; repeat (first | with_reducible exact hpq | refine List.mem_cons_of_mem _ ?_)))); (case zqb => ((rename Int.fmod _ _ = _ => hK9q); (first | unfold g7 | unfold g3 | unfold g33); rw [hK9q]; rfl)))))))); intro ysB BB hB1 hB2 hB)))
        | (with_reducible ((with_reducible show wpAny _ _ (exec (Stmt.Assign _ (PySem.Expr.ListComp _ _ _ _) _) _) _ _ _); (first | ((k_here; (with_reducible show wpAny _ _ (exec (Stmt.Assign [Expr.Name (Str.ofString "names") _] _ _) _) _ _ _); k_dflt (refine LCg.Assign_ListComp_U (F₀ := by k_asm) (by rfl) (by with_unfolding_all rfl) (by with_unfolding_all rfl) (by decide) (by rfl) (by decide) (by rfl) (by rfl) (by rfl) ?_); walk1; k_dflt (refine LCg.CompSrc.base (by rfl) (by k_asm) (by k_asm) (by assumption) (baseSize (by assumption) (by omega)) ?_); intro g9; k_dflt (refine' namesRest g3 named_g3 ?zqi ?zqS ?zqn ?zqt ?_; (case zqi => assumption); (case zqS => exact Or.inl (by assumption)); (case zqn => first | exact Nat.lt_of_lt_of_le (by with_reducible assumption) (by decide) | exact Nat.lt_of_le_of_lt (by with_reducible assumption) (by decide) | exact Nat.le_trans (by with_reducible assumption) (by decide) | omega); (case zqt => (intro k9 t9 I9 oI9 C9 oC9 D9 oD9 m9 h9 tk9 E9 hC9 hx9 F9 N9; ((k_steps; all_goals (refine' TextOne.intro ?zqb ?zqF ?zqN ?zqs; (case zqF => k_asm); (case zqN => k_asm); (case zqs => ((intro pq hpq; repeat (first | with_reducible exact hpq | refine List.mem_cons_of_mem _ ?_)))); (case zqb => ((rename Int.fmod _ _ = _ => hK9q); (first | unfold g7 | unfold g3 | unfold g33); rw [hK9q]; rfl)))))))); intro ysA AA hA1 hA2 hA)) | ((k_here; (with_reducible show wpAny _ _ (exec (Stmt.Assign [Expr.Name (Str.ofString "pieces") _] _ _) _) _ _ _); k_dflt (refine LCg.Assign_ListComp_U (F₀ := by k_asm) (by rfl) (by with_unfolding_all rfl) (by with_unfolding_all rfl) (by decide) (by rfl) (by decide) (by rfl) (by rfl) (by rfl) ?_); walk1; k_dflt (refine LCg.CompSrc.base (by rfl) (by k_asm) (by k_asm) (by assumption) (baseSize (by assumption) (by omega)) ?_); intro g9q; k_dflt (refine' piecesRest ?zqi ?zqS ?zqn ?zqt ?_; (case zqi => assumption); (case zqS => exact Or.inl (by assumption)); (case zqn => first | exact Nat.lt_of_lt_of_le (by with_reducible assumption) (by decide) | exact Nat.lt_of_le_of_lt (by with_reducible assumption) (by decide) | exact Nat.le_trans (by with_reducible assumption) (by decide) | omega); (case zqt => (intro k9q t9q I9q oI9q C9q oC9q D9q oD9q m9q h9q tk9q E9q hC9q hx9q F9q N9q; ((k_steps; all_goals (refine' TextOne.intro ?zqb ?zqF ?zqN ?zqs; (case zqF => k_asm); (case zqN => k_asm); (case zqs => ((intro pq hpq; repeat (first | with_reducible exact hpq | refine List.mem_cons_of_mem _ ?_)))); (case zqb => ((rename Int.fmod _ _ = _ => hK9q); (first | unfold g7 | unfold g3 | unfold g33); rw [hK9q]; rfl)))))))); intro ys9q P9q hP9q hys9q; (unfold PFit at hP9q); (rcases hP9q with ⟨hP1q, hP2q, hP3q, hP4q⟩))))))
        | (with_reducible ((with_reducible show wpAny _ _ (compareOp CmpOp.NotEq (Value.str _ _) (Value.str _ _)) _ _ _); (first | ((k_here; k_dflt (refine' neS ?zqe ?_; (case zqe => first | with_reducible assumption | with_reducible exact Eq.symm (by with_reducible assumption) | with_reducible exact law_join _ _ | with_reducible exact law_join3 _ _ _)); (try dsimp only))) | ((k_here; k_dflt (refine' neS ?zqe ?_; (case zqe => first | with_reducible assumption | with_reducible exact Eq.symm (by with_reducible assumption))); (try dsimp only))))))
        | (with_reducible ((with_reducible show wpAny _ _ (call (Value.ref _) _ _) _ _ _); (first | ((k_here; k_dflt (refine' useS (cp_ok _ _ _ _ _ _ _ _ _ _ _ _ ?zqkx ?zqky ?zqkz ?zqkw) ?zqk1 ?zqk2 ?zqk3 ?zqk4 ?zqk5 ?zqkK ?zqkp ?zqkd ?zqku ?_); k_dflt ((((case zqk1 => k_asm); (case zqk2 => k_asm); (case zqk3 => k_asm); (case zqk4 => k_asm); (case zqk5 => k_asm); (case zqkK => first | exact rfl | assumption); (case zqkp => first | trivial | assumption); (case zqkd => first | decide | (rw [Nat.add_assoc]; exact dp_le hdp (by decide)) | ktr_room); (case zqku => first | decide | (rw [Nat.add_assoc]; exact un_le hun (by decide)) | ktr_units))); (case zqkx => first | exact Nat.lt_of_lt_of_le (by with_reducible assumption) (by decide) | exact Nat.lt_of_le_of_lt (by with_reducible assumption) (by decide) | exact Nat.le_trans (by with_reducible assumption) (by decide) | omega); (case zqky => first | exact Nat.lt_of_lt_of_le (by with_reducible assumption) (by decide) | exact Nat.lt_of_le_of_lt (by with_reducible assumption) (by decide) | exact Nat.le_trans (by with_reducible assumption) (by decide) | omega); (case zqkz => ((first | with_reducible exact starts_stroke _ | (rw [Str.append_assoc]; exact starts_stroke _)))); (case zqkw => ((first | with_reducible exact starts_stroke _ | (rw [Str.append_assoc]; exact starts_stroke _))))); intro t9q h9q tk9q F9q N9q; (try dsimp only); (try k_fold))) | ((k_here; k_dflt (refine' useS (join3_ok _ _ _ _ _ _ _ _ _ _ _ _ _ ?zqkx ?zqky ?zqkz) ?zqk1 ?zqk2 ?zqk3 ?zqk4 ?zqk5 ?zqkK ?zqkp ?zqkd ?zqku ?_); k_dflt ((case zqkx => first | exact Nat.lt_of_lt_of_le (by with_reducible assumption) (by decide) | exact Nat.lt_of_le_of_lt (by with_reducible assumption) (by decide) | exact Nat.le_trans (by with_reducible assumption) (by decide) | omega); (case zqky => first | exact Nat.lt_of_lt_of_le (by with_reducible assumption) (by decide) | exact Nat.lt_of_le_of_lt (by with_reducible assumption) (by decide) | exact Nat.le_trans (by with_reducible assumption) (by decide) | omega); (case zqkz => first | exact Nat.lt_of_lt_of_le (by with_reducible assumption) (by decide) | exact Nat.lt_of_le_of_lt (by with_reducible assumption) (by decide) | exact Nat.le_trans (by with_reducible assumption) (by decide) | omega); (((case zqk1 => k_asm); (case zqk2 => k_asm); (case zqk3 => k_asm); (case zqk4 => k_asm); (case zqk5 => k_asm); (case zqkK => first | exact rfl | assumption); (case zqkp => first | trivial | assumption); (case zqkd => first | decide | (rw [Nat.add_assoc]; exact dp_le hdp (by decide)) | ktr_room); (case zqku => first | decide | (rw [Nat.add_assoc]; exact un_le hun (by decide)) | ktr_units)))); intro t9q h9q tk9q F9q N9q; (try dsimp only); (try k_fold))) | ((k_here; k_dflt (first | refine' useS (lj_ok _ _ _ _ _ _ _ _ _ _ _ ?zqkx ?zqky) ?zqk1 ?zqk2 ?zqk3 ?zqk4 ?zqk5 ?zqkK ?zqkp ?zqkd ?zqku ?_ | refine' useS (join2_ok _ _ _ _ _ _ _ _ _ _ _ ?zqkx ?zqky) ?zqk1 ?zqk2 ?zqk3 ?zqk4 ?zqk5 ?zqkK ?zqkp ?zqkd ?zqku ?_); k_dflt ((case zqkx => first | exact Nat.lt_of_lt_of_le (by with_reducible assumption) (by decide) | exact Nat.lt_of_le_of_lt (by with_reducible assumption) (by decide) | exact Nat.le_trans (by with_reducible assumption) (by decide) | omega); (case zqky => first | exact Nat.lt_of_lt_of_le (by with_reducible assumption) (by decide) | exact Nat.lt_of_le_of_lt (by with_reducible assumption) (by decide) | exact Nat.le_trans (by with_reducible assumption) (by decide) | omega); (((case zqk1 => k_asm); (case zqk2 => k_asm); (case zqk3 => k_asm); (case zqk4 => k_asm); (case zqk5 => k_asm); (case zqkK => first | exact rfl | assumption); (case zqkp => first | trivial | assumption); (case zqkd => first | decide | (rw [Nat.add_assoc]; exact dp_le hdp (by decide)) | ktr_room); (case zqku => first | decide | (rw [Nat.add_assoc]; exact un_le hun (by decide)) | ktr_units)))); intro t9q h9q tk9q F9q N9q; (try dsimp only); (try k_fold))) | ((k_here; k_dflt (refine' useT (split_ok _ _ _ _ _ _ _ _ _ ?zqkx) ?zqk1 ?zqk2 ?zqk3 ?zqk4 ?zqk5 ?zqkK ?zqkp ?zqkd ?zqku ?_); k_dflt ((case zqkx => first | exact Nat.lt_of_lt_of_le (by with_reducible assumption) (by decide) | exact Nat.lt_of_le_of_lt (by with_reducible assumption) (by decide) | exact Nat.le_trans (by with_reducible assumption) (by decide) | omega); (((case zqk1 => k_asm); (case zqk2 => k_asm); (case zqk3 => k_asm); (case zqk4 => k_asm); (case zqk5 => k_asm); (case zqkK => first | exact rfl | assumption); (case zqkp => first | trivial | assumption); (case zqkd => first | decide | (rw [Nat.add_assoc]; exact dp_le hdp (by decide)) | ktr_room); (case zqku => first | decide | (rw [Nat.add_assoc]; exact un_le hun (by decide)) | ktr_units)))); intro d9q ts9q h9q tk9q F9q N9q S9q l9q; (obtain ⟨t7q, u7q, e7q⟩ := strs2 S9q; subst e7q; clear S9q); (try dsimp only); (try k_fold))) | ((k_here; k_dflt (first | refine' useS (norm_ok _ _ _ _ _ _ _ _ _ ?zqkx) ?zqk1 ?zqk2 ?zqk3 ?zqk4 ?zqk5 ?zqkK ?zqkp ?zqkd ?zqku ?_ | refine' useS (lw_ok _ _ _ _ _ _ _ _ _ ?zqkx) ?zqk1 ?zqk2 ?zqk3 ?zqk4 ?zqk5 ?zqkK ?zqkp ?zqkd ?zqku ?_ | refine' useS (dirname_ok _ _ _ _ _ _ _ _ _ ?zqkx) ?zqk1 ?zqk2 ?zqk3 ?zqk4 ?zqk5 ?zqkK ?zqkp ?zqkd ?zqku ?_ | refine' useS (basename_ok _ _ _ _ _ _ _ _ _ ?zqkx) ?zqk1 ?zqk2 ?zqk3 ?zqk4 ?zqk5 ?zqkK ?zqkp ?zqkd ?zqku ?_); k_dflt ((case zqkx => first | exact Nat.lt_of_lt_of_le (by with_reducible assumption) (by decide) | exact Nat.lt_of_le_of_lt (by with_reducible assumption) (by decide) | exact Nat.le_trans (by with_reducible assumption) (by decide) | omega); (((case zqk1 => k_asm); (case zqk2 => k_asm); (case zqk3 => k_asm); (case zqk4 => k_asm); (case zqk5 => k_asm); (case zqkK => first | exact rfl | assumption); (case zqkp => first | trivial | assumption); (case zqkd => first | decide | (rw [Nat.add_assoc]; exact dp_le hdp (by decide)) | ktr_room); (case zqku => first | decide | (rw [Nat.add_assoc]; exact un_le hun (by decide)) | ktr_units)))); intro t9q h9q tk9q F9q N9q; (try dsimp only); (try k_fold))))))
        | (with_reducible ((with_reducible show wpAny _ _ (subscriptTail (PySem.Expr.Call _ _ _ _) (PySem.Expr.Call _ _ _ _) (Value.ref _) (Value.int _ _)) _ _ _); (k_here; k_dflt (refine' itemCount ?zqN ?zqm ?zqs ?zqe ?zqx ?_ ?zqhs; (case zqN => k_asm); (case zqm => k_mem); (case zqs => with_reducible assumption); (case zqe => with_reducible assumption); (case zqx => first | exact Nat.lt_of_lt_of_le (by with_reducible assumption) (by decide) | exact Nat.lt_of_le_of_lt (by with_reducible assumption) (by decide) | exact Nat.le_trans (by with_reducible assumption) (by decide) | omega); (case zqhs => with_unfolding_all rfl)); intro _ _; (try dsimp only))))
        | (with_reducible ((with_reducible show wpAny _ _ (compareOp CmpOp.NotEq (Value.ref _) (Value.ref _)) _ _ _); (k_here; k_dflt (refine' neT ?zqN ?zqa ?zqb ?zqe ?zqe2 ?zqu ?_; (case zqN => k_asm); (case zqa => k_mem); (case zqb => k_mem); (case zqe => first | with_reducible rfl | exact law_due1 (by with_reducible assumption) | exact law_due2 (by with_reducible assumption)); (case zqe2 => first | with_reducible rfl | exact law_tail _); (case zqu => ktr_units)); (try dsimp only))))
        | (with_reducible ((with_reducible show wpAny _ _ (pyIter (Value.ref _)) _ _ _); ((with_reducible show wpAny _ _ (pyIter (Value.ref _)) (fun it s₂ => LoopAtV _ _ _ _ _ _ _ _ _ it s₂) _ _); refine Held.out ?_)))
        | (with_reducible ((with_reducible show wpAny _ _ (exec (Stmt.For _ _ _ _ _) _) _ _ _); (k_here; (rename Fr _ _ _ _ => lF'q); (with_unfolding_all refine' For_invVF lF'q ?zqk1 ?zqk2 ?_; (case zqk1 => exact rfl); (case zqk2 => exact rfl); k_whole))))
        | (with_reducible ((with_reducible show wpAny _ _ (subscriptTail (PySem.Expr.Name _ _) _ (Value.ref _) (Value.ref _)) _ _ _); (k_here; (with_reducible show wpAny _ _ (subscriptTail _ (PySem.Expr.Slice none _ none _) (Value.ref _) (Value.ref _)) _ _ _); k_dflt (refine' uptoL ?zqF ?zqN ?zqm ?zqs ?zqy ?zqz ?_ ?zqhs ?zqhg; (case zqF => k_asm); (case zqN => k_asm); (case zqm => k_mem); (case zqs => assumption); (case zqy => first | exact Nat.lt_of_lt_of_le (by with_reducible assumption) (by decide) | exact Nat.lt_of_le_of_lt (by with_reducible assumption) (by decide) | exact Nat.le_trans (by with_reducible assumption) (by decide) | omega | exact half0 _); (case zqz => first | exact Nat.lt_of_lt_of_le (by with_reducible assumption) (by decide) | exact Nat.lt_of_le_of_lt (by with_reducible assumption) (by decide) | exact Nat.le_trans (by with_reducible assumption) (by decide) | omega); (case zqhs => with_unfolding_all rfl); (case zqhg => (intro _; with_unfolding_all rfl))); intro D9q h9q F9q N9q S9q l9q; (try k_lt l9q); (try dsimp only))))
        | (with_reducible ((with_reducible show wpAny _ _ (call (Value.builtin "len") _ _) _ _ _); (k_here; (with_reducible show wpAny _ _ (call (Value.builtin "len") [Value.ref _]) _ _ _); k_dflt (refine' lenL ?zqN ?zqm ?zqs ?zqz ?_; (case zqN => k_asm); (case zqm => k_mem); (case zqs => assumption); (case zqz => first | exact Nat.lt_of_lt_of_le (by with_reducible assumption) (by decide) | exact Nat.lt_of_le_of_lt (by with_reducible assumption) (by decide) | exact Nat.le_trans (by with_reducible assumption) (by decide) | omega)); (try dsimp only))))
        | (with_reducible ((with_reducible show wpAny _ _ (call (Value.builtin "str.join") _ _) _ _ _); (k_here; (with_reducible show wpAny _ _ (call (Value.builtin "str.join") [Value.str _ _, Value.ref _]) _ _ _); k_dflt (refine' joinL ?zqN ?zqm ?zqs ?zqx ?zqw ?zqz ?_; (case zqN => k_asm); (case zqm => k_mem); (case zqs => with_reducible assumption); (case zqx => decide); (case zqw => first | exact Nat.lt_of_lt_of_le (by with_reducible assumption) (by decide) | exact Nat.lt_of_le_of_lt (by with_reducible assumption) (by decide) | exact Nat.le_trans (by with_reducible assumption) (by decide) | omega | exact Nat.le_trans (sum_take _ _) (by omega)); (case zqz => first | exact Nat.lt_of_lt_of_le (by with_reducible assumption) (by decide) | exact Nat.lt_of_le_of_lt (by with_reducible assumption) (by decide) | exact Nat.le_trans (by with_reducible assumption) (by decide) | omega | (rw [List.length_take]; omega))); intro _ _; (try dsimp only))))
        | walk1
        | (dsimp only; walk1)
        | (leave1; (try dsimp only))
        | fail "no step")))
end
end Mine
theorem PySem.Challenge.cw_xc0040_01_holds : PySem.Challenge.rw_xc0040_01.Holds := by
  exact Mine.mainW
