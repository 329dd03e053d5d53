import PyProof.Rows.All
import Wide.All
import OpenK.AllK
import Wide.FinOn
import PySem.Challenge.RW_fc0028_01
set_option Elab.async false
-- Hd
section
open PySem PySem.W PyProof.Rows PySem.Calls
set_option Elab.async false
set_option maxRecDepth 100000
namespace Mine
/-- the law called with None: TypeError. This small row serves to lay the program's top in pieces (the law's own row is proved from the same pieces, by another walk) -/
def r1 : OpenRow := { PySem.Challenge.rw_fc0028_01.row with args := [.none], pre := .lit (.bool true), post := .lit (.bool true), raises := [(.builtin "TypeError", .lit (.bool true))] }
theorem len_none {prog : Program} {w : World} {A : Around} {E : Value → Shared → Prop} {s : Shared} {Q : Value → Shared → Prop} (hh : A.handled = none) (h : ∀ h' tk e, Heap.NewExc s.heap h' e "TypeError" → E (.ref e) { s with heap := h', toks := tk }) :
    wpAny (model prog w) A (call (.builtin "len") [.none]) Q E s := by
  refine Calls.call_function_entry kind_len plain_len entry_len (args_len1 _) ?_
  unfold Builtin.«len»
  have f1 : typeLookup (.type "NoneType") "__len__" = pure none := by kernel_rfl
  wp_walk
  refine wpAny_raiseErrorMade plainExc_TypeError (by first | exact hh | (show A.handled = none; exact hh)) h (by decide +kernel)
theorem forRaise {M : Model} {A : Around} {E : Value → Shared → Prop} {s : Shared} {env : Env} {target iter : PySem.Expr} {body orelse : List Stmt} {pos : Pos} {Q : Flow → Shared → Prop} (h : wpAny M A (eval iter env) (fun _ _ => False) E s) : wpAny M A (exec (.For target iter body orelse pos) env) Q E s := by
  rw [exec_For]
  exact wpAny_bind (wpAny_standAt (wpAny_bind (wpAny_mono h (fun _ _ x => x.elim) fun _ _ x => x)))
theorem leave_new {M : Model} {A A₀ : Around} {E : Value → Shared → Prop} {s : Shared} {base g h : Heap} {env : Env} {outer : List Env} {L e : Addr} {cls : String} {m : PySem.Str → Option Value} {Q : Unit → Shared → Prop} (B : Below A₀ base outer g) (F : Fr g L h m) (hx : Heap.NewExc h s.heap e cls) (hA : A.frames = some (env :: outer)) (hf : env.frame = some L) (hk : env.scope.kind = .function)
    (hQ : ∀ h', Heap.Flying base outer e (.type cls) h' → Q () { s with heap := h' }) : wpAny M A (leaving env (.ref e)) Q E s := by
  have hnew : base.get? L = none := by
    cases hq : base.get? L with
    | none => rfl
    | some o => exact absurd (Nat.lt_of_lt_of_le (Heap.lt_size (B.stays L o hq)) F.above) (Nat.lt_irrefl _)
  exact wpAny_leaves_new hA hf (fun b o q => F.keep _ _ (B.stays b o q)) (.cons (by rw [hk]; decide) hf F.ns hnew (B.frames.of_keeps fun b o q _ => ⟨o, F.keep b o q, rfl⟩)) hx hQ
local macro_rules | `(tactic| walk_at "exec For") => `(tactic| (k_here; (with_reducible refine forRaise ?_)))
local macro_rules | `(tactic| walk_at "exec For Name Call cons nil") => `(tactic| (k_here; (with_reducible refine forRaise ?_)))
local macro_rules | `(tactic| walk_at "call builtin:len") => `(tactic| (k_here; (with_reducible show wpAny _ _ (call (Value.builtin "len") [Value.none]) _ _ _); (refine len_none (by rfl) ?_); intro _ _ _ _))
/-! the head lays a fast twin for each of its definitions, with a proof that grows with the square of the objects. Where a name is taken it goes without: so these keep the compiled file small -/
/-- of heap_1_1374 -/
def hd.tw1970687133343842671 : Nat := 0
/-- of tree_1_1372 -/
def hd.tw2963139391257366001 : Nat := 0
/-- of heap_1_1 -/
def hd.tw14015909994521340511 : Nat := 0
/-- of tree_1_1280 -/
def hd.tw3240729154252626498 : Nat := 0
/-- of tree_1_1189 -/
def hd.tw4468249632195274437 : Nat := 0
/-- of tree_1_1126 -/
def hd.tw14525711261754624267 : Nat := 0
/-- of tree_1_844 -/
def hd.tw13779237791589564278 : Nat := 0
/-- of tree_1_1068 -/
def hd.tw8211384405938104136 : Nat := 0
set_option rowWalk.seconds 0 in
set_option maxHeartbeats 0 in
set_option Elab.async true in
theorem hd : r1.Holds := by
  w_on
  k_head
  case hw => w_witness2
  w_on
  k_go0
  all_goals (try k_fold)
  k_steps
  rename Below _ _ _ _ => BB
  rename Fr _ _ _ _ => FF
  rename _ = #[] => hgg
  refine leave_new BB FF (by assumption) rfl rfl rfl fun h1 fl1 => ?_
  refine wpAny_leaves_on rfl rfl fl1 fun h2 fl2 => ?_
  obtain ⟨k1, k2, _, k4⟩ := fl2
  obtain ⟨oe, vs, T0, oT, ts, q1, q2, _⟩ := k4
  exact ⟨.inr ⟨_, oe, .builtin "TypeError", rfl, q1, by rw [q2]; rfl, by decide +kernel, k2⟩, k1, rfl, hgg⟩
end Mine
end
theorem Mine.top_off : Mine.hd.heap_1_1 = Mine.hd.heap_1_1 := by
  w_top off
  rfl
-- BI
section
open PySem PySem.W PyProof.Rows PySem.Calls
set_option Elab.async false
set_option maxRecDepth 100000
namespace Mine
namespace BI
theorem rv_no_bytes : typeLookup (.type "list_reverseiterator") "__bytes__" = pure none := by rw [typeLookup_type, builtinLookup_eq_fast]; kernel_rfl
theorem rv_no_index : typeLookup (.type "list_reverseiterator") "__index__" = pure none := by rw [typeLookup_type, builtinLookup_eq_fast]; kernel_rfl
theorem rv_no_buffer : typeLookup (.type "list_reverseiterator") "__buffer__" = pure none := by rw [typeLookup_type, builtinLookup_eq_fast]; kernel_rfl
theorem rv_no_len : typeLookup (.type "list_reverseiterator") "__len__" = pure none := by rw [typeLookup_type, builtinLookup_eq_fast]; kernel_rfl
theorem rv_hint : typeLookup (.type "list_reverseiterator") "__length_hint__" = pure (some (.builtin "list_reverseiterator.__length_hint__")) := by rw [typeLookup_type, builtinLookup_eq_fast]; kernel_rfl
theorem rv_sub : isSubtype (.type "list_reverseiterator") (.type "list_reverseiterator") = pure true := by rw [isSubtype_type]; kernel_rfl
theorem rv_split : splitId "list_reverseiterator.__length_hint__" = some ("list_reverseiterator", "__length_hint__") := by decide +kernel
end BI
section
variable {prog : Program} {w : World} {A : Around} {E : Value → Shared → Prop} {s : Shared}
theorem rv_loop {R : Result → Shared → Prop} {l I S : Addr} {vs : List Value} {ns : List Int} (hh : A.handled = none) (hi : IntsAre vs ns) (hr : ∀ n ∈ ns, 0 ≤ n ∧ n < 256) (hz : ns.length ≤ sizeLine) (hIS : I ≠ S) (hlI : l ≠ I) (hlS : l ≠ S) :
    ∀ (k : Nat) (s : Shared), k ≤ ns.length → s.heap.IsList l vs.toArray → s.heap.IsRevIter I l ((k : Int) - 1) → s.heap.get? S = some { cls := .type "bytearray", data := .bytearray (byteArr (ns.drop k).reverse) } →
      (∀ h' t k', (∀ b o, b ≠ I → b ≠ S → s.heap.get? b = some o → h'.get? b = some o) → R (.ok (.ret (.bytes (byteArr ns.reverse) t))) { s with heap := h', toks := k' }) →
      codeAny (model prog w) A (.builtin "bytes.__new__.loop" ⟨[.type "bytes", .ref I, .ref S], []⟩) R s := by
  have hlen : vs.length = ns.length := hi.length
  intro k
  induction k with
  | zero =>
    intro s hle hl hit hS hR
    refine codeAny_builtin F.bm_entry_loop ?_
    rw [Around.under_plainId F.bm_plain_loop _]
    show wpAny _ A.in1 (pyNext (.ref I) >>= _) _ _ s
    refine wpAny_bind (wpAny_pyNext_rev_end hh hit fun h' he => ?_)
    have hS' : h'.get? S = some { cls := .type "bytearray", data := .bytearray (byteArr (ns.drop 0).reverse) } := he S _ (Ne.symm hIS) hS
    refine wpAny_bind ?_
    unfold Builtin.Bytes.payload Builtin.Bytes.payload?
    refine wpAny_bind (wpAny_bind (wpAny_load hS' ?_))
    refine wpAny_pure (wpAny_pure ?_)
    rw [List.drop_zero]
    refine wpAny_bind (wpAny_mkBytes ?_ (by rw [byteArr_size, List.length_reverse]; exact hz))
    show wpAny _ _ (if (Value.type "bytes" == Value.type "bytes") = true then _ else _) _ _ _
    refine bm_if_true (by decide) ?_
    first
      | exact wpAny_pure (hR h' _ _ fun b o hb _ e => he b o hb e)
      | exact wpAny_bind (wpAny_pure (wpAny_pure (hR h' _ _ fun b o hb _ e => he b o hb e)))
  | succ k ih =>
    intro s hle hl hit hS hR
    obtain ⟨x, hx⟩ : ∃ x, vs[k]? = some x := ⟨vs[k]'(by omega), List.getElem?_eq_getElem (by omega)⟩
    obtain ⟨n, t, rfl, hn⟩ := IntsAre.at hi k x hx
    obtain ⟨h0, h1⟩ := hr n (List.mem_of_getElem? hn)
    refine codeAny_builtin F.bm_entry_loop ?_
    rw [Around.under_plainId F.bm_plain_loop _]
    show wpAny _ A.in1 (pyNext (.ref I) >>= _) _ _ s
    have ek : ((k + 1 : Nat) : Int) - 1 = (k : Int) := by omega
    rw [ek] at hit
    refine wpAny_bind (wpAny_pyNext_rev_item (x := .int n t) hit hl (by simpa using hx) fun h' hit' hs => ?_)
    have hS' : h'.get? S = some { cls := .type "bytearray", data := .bytearray (byteArr (ns.drop (k + 1)).reverse) } := (hs.2 S (Ne.symm hIS)).trans hS
    refine wpAny_bind (wpAny_holding (wpAny_of_eq (rfl : asIndex (.int n t) = pure n) ?_))
    refine wpAny_bind (wpAny_letGo ?_)
    refine bm_if_false (by simp only [Bool.or_eq_false_iff, decide_eq_false_iff_not]; omega) ?_
    refine wpAny_bind ?_
    show wpAny _ _ (updateBytearray S (·.push n.toNat.toUInt8)) _ _ _
    unfold updateBytearray
    refine wpAny_bind (wpAny_load hS' ?_)
    show wpAny _ _ (update S (Obj.mapBytearray (·.push n.toNat.toUInt8)) >>= fun _ => lookBehind S) _ _ _
    refine wpAny_bind (wpAny_update hS' ?_)
    have hb : byteArr (ns.drop k).reverse = (byteArr (ns.drop (k + 1)).reverse).push n.toNat.toUInt8 := by
      rw [List.drop_eq_getElem_cons (show k < ns.length by omega)]
      have : ns[k] = n := by
        have := List.getElem?_eq_getElem (l := ns) (i := k) (by omega)
        rw [hn] at this
        exact (Option.some.inj this).symm
      rw [this]
      unfold byteArr
      simp
    have hS₂ : (h'.update S (Obj.mapBytearray (·.push n.toNat.toUInt8))).get? S = some { cls := .type "bytearray", data := .bytearray (byteArr (ns.drop k).reverse) } := by
      rw [hb]
      exact Heap.get?_update_self (Obj.mapBytearray (·.push n.toNat.toUInt8)) hS' rfl
    refine wpAny_lookBehind hS₂ ?_ ?_
    · show (if (byteArr (ns.drop k).reverse).size > sizeLine then some "bytearray:memory" else none) = none
      rw [if_neg]
      rw [byteArr_size, List.length_reverse, List.length_drop]
      omega
    · refine wpAny_pure ⟨plainId_quiet F.bm_plain_loop _, ih { s with heap := h'.update S (Obj.mapBytearray (·.push n.toNat.toUInt8)) } (by omega) ?_ ?_ hS₂ fun h3 t' k' hk3 => ?_⟩
      · exact (hl.extBut hs.extBut hlI).extBut (Heap.SameBut.update ..).extBut hlS
      · exact hit'.at fun o e => (Heap.get?_update_other _ _ (Ne.symm hIS)).trans e
      · exact hR h3 t' k' fun b o hbI hbS e => hk3 b o hbI hbS ((Heap.get?_update_other _ _ (Ne.symm hbS)).trans (hs.extBut b o hbI e))
theorem rv_new {l I : Addr} {vs : List Value} {ns : List Int} {Q : Value → Shared → Prop} (hh : A.handled = none) (hl : s.heap.IsList l vs.toArray) (hit : s.heap.IsRevIter I l ((ns.length : Int) - 1)) (hlI : l ≠ I) (hi : IntsAre vs ns) (hr : ∀ n ∈ ns, 0 ≤ n ∧ n < 256) (hz : ns.length ≤ sizeLine)
    (hQ : ∀ h' t k, (∀ b o, b ≠ I → s.heap.get? b = some o → h'.get? b = some o) → Q (.bytes (byteArr ns.reverse) t) { s with heap := h', toks := k }) :
    codeAny (model prog w) A (.call (.builtin "bytes.__new__") ⟨[.type "bytes", .ref I], []⟩) (wants Q E) s := by
  refine codeAny_of_tree ?_
  show wpAny _ A.in1 (do checkBuiltinCall "bytes.__new__" ⟨[.type "bytes", .ref I], []⟩; again (.builtin "bytes.__new__" ⟨[.type "bytes", .ref I], []⟩)) _ _ s
  refine wpAny_bind (wpAny_of_eq (F.bm_newCall _) (wpAny_pure ⟨plainId_quiet F.bm_plain _, codeAny_builtin F.bm_entry ?_⟩))
  rw [Around.under_plainId F.bm_plain _]
  have hT : s.TypeIs (.ref I) "list_reverseiterator" := hit.typeIs
  obtain ⟨ol, hol, hoc, hod⟩ := id hit
  unfold Builtin.«bytes.__new__»
  refine wpAny_bind (wpAny_of_eq (a := true) rfl ?_)
  refine bm_if_false rfl ?_
  refine wpAny_bind (wpAny_of_eq F.bm_sub ?_)
  refine bm_if_false rfl ?_
  refine wpAny_bind (wpAny_of_eq (F.bm_bind _) ?_)
  refine wpAny_bind (wpAny_of_eq (a := ()) rfl ?_)
  refine wpAny_bind (wpAny_of_eq (a := ()) rfl ?_)
  refine bm_if_false rfl ?_
  refine wpAny_bind (wpAny_specialOf hT BI.rv_no_bytes ?_)
  refine wpAny_bind (wpAny_bind ?_)
  show wpAny _ _ (load I >>= _) _ _ _
  refine wpAny_bind (wpAny_load hol ?_)
  rw [hod]
  refine wpAny_pure (wpAny_pure ?_)
  refine bm_if_false rfl ?_
  refine wpAny_bind (wpAny_specialOf hT BI.rv_no_index ?_)
  refine bm_if_true rfl ?_
  first
    | show wpAny _ _ (Builtin.Bytes.buffer? "bytes.__new__" (.ref I) true >>= _) _ _ _
    | (refine wpAny_bind ?_; show wpAny _ _ (Builtin.Bytes.buffer? "bytes.__new__" (.ref I) true >>= _) _ _ _)
  refine wpAny_bind ?_
  unfold Builtin.Bytes.buffer?
  refine wpAny_bind (wpAny_specialOf hT BI.rv_no_buffer ?_)
  refine wpAny_bind (wpAny_specialOf hT BI.rv_no_buffer ?_)
  refine wpAny_pure ?_
  refine wpAny_bind (wpAny_tryCatch (wpAny_pyIter_revIter hit ?_))
  refine wpAny_bind (wpAny_holding ?_)
  unfold Builtin.Bytes.lengthHint
  refine wpAny_bind (wpAny_specialOf hT BI.rv_no_len ?_)
  dsimp only
  refine bm_if_false (by decide +kernel) ?_
  refine bm_if_false rfl ?_
  refine wpAny_bind (wpAny_specialOf hT BI.rv_hint ?_)
  dsimp only
  rw [BI.rv_split]
  dsimp only
  refine wpAny_bind (wpAny_isInstance hT BI.rv_sub ?_)
  refine bm_if_false rfl ?_
  refine bm_if_true (by decide +kernel) ?_
  refine bm_if_false (by decide +kernel) ?_
  refine wpAny_pure ?_
  refine wpAny_bind ?_
  unfold Builtin.Bytes.newBytearray
  refine wpAny_newObj_type ?_ (Nat.zero_le _)
  have hlt : I < s.heap.objs.size := Heap.lt_size hol
  obtain ⟨oo, hoo, _⟩ := id hl
  have hll : l < s.heap.objs.size := Heap.lt_size hoo
  have main := rv_loop (prog := prog) (w := w) (A := A) (R := wants Q E) (l := l) (I := I) (S := s.heap.objs.size) hh hi hr hz (Nat.ne_of_lt hlt) hlI (Nat.ne_of_lt hll)
    ns.length { s with heap := s.heap.push { cls := .type "bytearray", data := .bytearray #[] } } (Nat.le_refl _) (hl.push _) (hit.at fun o e => Heap.get?_push_of_some _ e) (by rw [List.drop_length]; exact Heap.get?_push_size _ rfl)
    fun h' t k hk => hQ h' t k fun b o hb e => hk b o hb (Nat.ne_of_lt (Heap.lt_size e)) (Heap.get?_push_of_some _ e)
  first
    | exact wpAny_pure ⟨plainId_quiet F.bm_plain_loop _, main⟩
    | exact wpAny_pure (wpAny_pure ⟨plainId_quiet F.bm_plain_loop _, main⟩)
theorem call_bytes_rev {l I : Addr} {vs : List Value} {ns : List Int} {Q : Value → Shared → Prop} (hl : s.heap.IsList l vs.toArray) (hit : s.heap.IsRevIter I l ((ns.length : Int) - 1)) (hlI : l ≠ I) (hi : IntsAre vs ns) (hr : ∀ n ∈ ns, 0 ≤ n ∧ n < 256) (hz : ns.length ≤ sizeLine) (hh : A.handled = none)
    (hQ : ∀ h' t k, (∀ b o, b ≠ I → s.heap.get? b = some o → h'.get? b = some o) → Q (.bytes (byteArr ns.reverse) t) { s with heap := h', toks := k }) : wpAny (model prog w) A (call (.type "bytes") [.ref I]) Q E s := by
  refine callType_codes (Q₁ := fun obj s₁ => s₁.TypeIs obj "bytes" ∧ Q obj s₁) F.bm_called (F.bm_typeCall _) F.entry_object_init
    (rv_new hh hl hit hlI hi hr hz fun h' t k hk => ⟨PySem.W.typeIs_bytes _ _ _, hQ h' t k hk⟩) fun obj s₁ h₁ => ?_
  exact ⟨h₁.1, F.args_object_init_2 obj _, object_init_meets F.bm_called.init.lookup F.bm_called.made (by decide) prog w A.in1 _ s₁ ⟨h₁.1, rfl, h₁.2⟩⟩
end
end Mine
end
-- BX
section
open PySem PySem.W PyProof.Rows PySem.Calls
set_option Elab.async false
set_option maxRecDepth 100000
namespace Mine
namespace BX
theorem in1 {a : Int} (h : 0 ≤ a ∧ a < 256) : ∀ n ∈ [a], 0 ≤ n ∧ n < 256 := fun n hn => by rw [List.mem_singleton] at hn; subst hn; exact h
theorem in_cons {a : Int} {r : List Int} (h : 0 ≤ a ∧ a < 256) (k : ∀ n ∈ r, 0 ≤ n ∧ n < 256) : ∀ n ∈ a :: r, 0 ≤ n ∧ n < 256 := fun n hn => by
  rcases List.mem_cons.mp hn with rfl | hn
  · exact h
  · exact k n hn
theorem in_nil : ∀ n ∈ ([] : List Int), 0 ≤ n ∧ n < 256 := fun n hn => nomatch hn
theorem fm128 (a : Int) : 0 ≤ a.fmod 128 ∧ a.fmod 128 < 128 := by rw [Int.fmod_eq_emod_of_nonneg _ (by decide)]; omega
theorem fm256 (a : Int) : 0 ≤ a.fmod 256 ∧ a.fmod 256 < 256 := by rw [Int.fmod_eq_emod_of_nonneg _ (by decide)]; omega
theorem fm2 (a : Int) : 0 ≤ a.fmod 2 ∧ a.fmod 2 < 2 := by rw [Int.fmod_eq_emod_of_nonneg _ (by decide)]; omega
section
variable {prog : Program} {w : World} {A : Around} {E : Value → Shared → Prop} {s : Shared} {h₀ : Heap} {L : Addr} {m : PySem.Str → Option Value} {news : List (Addr × Obj)}
theorem make {D : Addr} {vs : List Value} {ns : List Int} {Q : Value → Shared → Prop} (F : Fr h₀ L s.heap m) (N : News h₀ L s.heap news) (hl : s.heap.IsList D vs.toArray) (hi : IntsAre vs ns) (hr : ∀ n ∈ ns, 0 ≤ n ∧ n < 256) (hz : ns.length ≤ 16777216) (hh : A.handled = none)
    (h : ∀ h' t k, Fr h₀ L h' m → News h₀ L h' news → Q (.bytes (ns.map fun n => n.toNat.toUInt8).toArray t) { s with heap := h', toks := k }) : wpAny (model prog w) A (call (.type "bytes") [.ref D]) Q E s :=
  KBa.make_K F N hh hl hi hr hz fun h' t k F N _ => h h' t k F N
theorem add {b c : List UInt8} {t u : Tok} {Q : Value → Shared → Prop} (hsz : b.length + c.length ≤ 16777216) (h : ∀ t' k, Q (.bytes (b ++ c).toArray t') { s with toks := k }) :
    wpAny (model prog w) A (binaryOp .Add (.bytes b.toArray t) (.bytes c.toArray u)) Q E s :=
  bytes_add_K (by simpa using hsz) rfl h
theorem len {b : List UInt8} {t : Tok} {Q : Value → Shared → Prop} (hsz : b.length ≤ 1099511627776) (h : ∀ t' k, Q (.int (b.length : Nat) t') { s with toks := k }) :
    wpAny (model prog w) A (call (.builtin "len") [.bytes b.toArray t]) Q E s :=
  KBw.len_K (b := b.toArray) (ks := KBw.bInts b.toArray) rfl (by rw [KBw.ints_length]; simpa using hsz) (by rw [KBw.ints_length]; exact h _ _)
theorem truth {b : List UInt8} {t : Tok} {Q : Bool → Shared → Prop} (hsz : b.length ≤ 1099511627776) (h : ∀ k, Q (decide (0 < b.length)) { s with toks := k }) :
    wpAny (model prog w) A (truthy (.bytes b.toArray t)) Q E s :=
  KBw.truthy_K (b := b.toArray) (ks := KBw.bInts b.toArray) rfl (by rw [KBw.ints_length]; simpa using hsz) (by rw [KBw.ints_length]; exact h _)
theorem item {x : List UInt8} {i : Int} {t ui : Tok} {value slice : PySem.Expr} {Q : Value → Shared → Prop} (hfit : x.length ≤ 1099511627776) (h0 : 0 ≤ i) (h1 : i < (x.length : Int))
    (h : ∀ t' k, Q (.int (((x.getD i.toNat 0).toNat : Nat) : Int) t') { s with toks := k })
    (hs : subscripted slice false (.bytes x.toArray t) (.int i ui) = operate [.bytes x.toArray t, .int i ui] (getItem (.bytes x.toArray t) (.int i ui)))
    (ht : ∀ r, letTemporaryGo value (.bytes x.toArray t) r = pure ()) : wpAny (model prog w) A (subscriptTail value slice (.bytes x.toArray t) (.int i ui)) Q E s :=
  bytes_item_K hfit h0 h1 rfl (h _ _) hs ht
theorem slice {x : List UInt8} {l u : Value} {lo hi : Option Int} {t : Tok} {value slice : PySem.Expr} {Q : Value → Shared → Prop} (F : Fr h₀ L s.heap m) (N : News h₀ L s.heap news) (hl : IsPart l lo) (hu : IsPart u hi) (hz : x.length ≤ 16777216)
    (h : ∀ h' t' k, Fr h₀ L h' m → News h₀ L h' news → Q (.bytes ((x.drop (lo.elim 0 (clipAt x.length))).take (hi.elim x.length (clipAt x.length) - lo.elim 0 (clipAt x.length))).toArray t') { s with heap := h', toks := k })
    (hs : subscripted slice false (.bytes x.toArray t) (.ref s.heap.objs.size) = operate [.ref s.heap.objs.size, .bytes x.toArray t] (getItem (.bytes x.toArray t) (.ref s.heap.objs.size)))
    (ht : ∀ r, letTemporaryGo value (.bytes x.toArray t) r = pure ()) :
    wpAny (model prog w) A (subscriptTail value slice (.bytes x.toArray t) (.ref s.heap.objs.size)) Q E { s with heap := s.heap.push { cls := .type "slice", data := .fields #[l, u, .none] } } := by
  refine KBc.slice_K (ks := KBw.bInts x.toArray) F N rfl hl hu (by rw [KBw.ints_length]; simpa using hz) (fun h' t' k F N _ => ?_) hs ht
  have e := KBc.picked_eq x.toArray lo hi
  rw [e]
  exact h h' t' k F N
end
/-- what slices say, in drop and take -/
theorem clip_hi {n k : Nat} : clipAt n ((k : Nat) : Int) = min k n := clipAt_nat n k
end BX
end Mine
end
-- BY
section
open PySem PySem.W PyProof.Rows PySem.Calls
set_option Elab.async false
set_option maxRecDepth 100000
set_option maxHeartbeats 4000000
namespace Mine
namespace BI
theorem ba_slot_len : Slot "bytearray" "__len__" "bytearray.__len__" :=
  .of (owner := "bytearray") (n := "__len__") (by rw [typeLookup_type, builtinLookup_eq_fast]; kernel_rfl) (by decide +kernel) (by decide +kernel) (by decide +kernel)
    (by first | exact .inl (by decide +kernel) | exact .inr (by decide +kernel)) (by rw [isSubtype_type]; kernel_rfl)
theorem ba_entry_len : entryFor table "bytearray.__len__" = some Builtin.«bytearray.__len__» := by first | exact entryFor_of_fast (by kernel_rfl) | exact entryFor_of_tree (by kernel_rfl)
theorem ba_args_len (a : Value) : argsOk "bytearray.__len__" ⟨[a], []⟩ := by unfold argsOk; kernel_rfl
theorem ba_slot_get : Slot "bytearray" "__getitem__" "bytearray.__getitem__" :=
  .of (owner := "bytearray") (n := "__getitem__") (by rw [typeLookup_type, builtinLookup_eq_fast]; kernel_rfl) (by decide +kernel) (by decide +kernel) (by decide +kernel)
    (by first | exact .inl (by decide +kernel) | exact .inr (by decide +kernel)) (by rw [isSubtype_type]; kernel_rfl)
theorem ba_entry_get : entryFor table "bytearray.__getitem__" = some Builtin.«bytearray.__getitem__» := by first | exact entryFor_of_fast (by kernel_rfl) | exact entryFor_of_tree (by kernel_rfl)
theorem ba_args_get (a b : Value) : argsOk "bytearray.__getitem__" ⟨[a, b], []⟩ := by unfold argsOk; kernel_rfl
theorem ba_no_bytes : typeLookup (.type "bytearray") "__bytes__" = pure none := by rw [typeLookup_type, builtinLookup_eq_fast]; kernel_rfl
theorem ba_no_index : typeLookup (.type "bytearray") "__index__" = pure none := by rw [typeLookup_type, builtinLookup_eq_fast]; kernel_rfl
theorem ba_buffer : typeLookup (.type "bytearray") "__buffer__" = pure (some (.builtin "bytearray.__buffer__")) := by rw [typeLookup_type, builtinLookup_eq_fast]; kernel_rfl
theorem ba_release : typeLookup (.type "bytearray") "__release_buffer__" = pure (some (.builtin "bytearray.__release_buffer__")) := by rw [typeLookup_type, builtinLookup_eq_fast]; kernel_rfl
theorem ba_sub : isSubtype (.type "bytearray") (.type "bytearray") = pure true := by rw [isSubtype_type]; kernel_rfl
end BI
section
variable {prog : Program} {w : World} {A : Around} {E : Value → Shared → Prop} {s : Shared} {a : Addr} {o : Obj} {b : Array UInt8} {n : Nat}
theorem ba_len {Q : Value → Shared → Prop} (ho : s.heap.get? a = some o) (hc : o.cls = .type "bytearray") (hd : o.data = .bytearray b n) (hz : (b.size : Int) < 2 ^ 63)
    (h : ∀ t k, Q (.int b.size t) { s with toks := k }) : wpAny (model prog w) A (call (.builtin "len") [.ref a]) Q E s := by
  have hT : s.TypeIs (.ref a) "bytearray" := ⟨o, ho, hc⟩
  refine Calls.call_function_entry kind_len plain_len entry_len (args_len1 _) ?_
  unfold Builtin.«len»
  refine wpAny_bind (m := oneArg "len" _) (wpAny_pure ?_)
  refine wpAny_bind (m := callSpecial? (.ref a) (PySem.Str.ofString "__len__")) (wpAny_callSpecial?_slot (name := PySem.Str.ofString "__len__") hT BI.ba_slot_len
    (wpAny_call_entry BI.ba_slot_len hT BI.ba_entry_len ?_ (BI.ba_args_len _)))
  show wpAny _ _ (Builtin.Bytes.payload (.ref a) >>= fun r => retInt r.size) _ _ s
  unfold Builtin.Bytes.payload Builtin.Bytes.payload?
  refine wpAny_bind (wpAny_bind (wpAny_bind (wpAny_load ho ?_)))
  rw [hd]
  refine wpAny_pure (wpAny_pure ?_)
  refine wpAny_bind (wpAny_mkInt (wpAny_pure ⟨_, rfl, ?_⟩))
  refine wpAny_bind (wpAny_holding (wpAny_pure ?_))
  refine wpAny_bind (wpAny_letGo ?_)
  show wpAny _ _ (if ((b.size : Nat) : Int) < 0 then _ else _) _ _ _
  rw [if_neg (by omega)]
  show wpAny _ _ (if ((b.size : Nat) : Int) ≥ 2 ^ 63 then _ else _) _ _ _
  rw [if_neg (by omega)]
  exact wpAny_bind (wpAny_mkInt (wpAny_pure ⟨_, rfl, h _ _⟩))
open Builtin in
theorem ba_getitem {sl : Addr} {l u : Value} {lo hi : Option Int} {Q : Value → Shared → Prop} (hl : IsPart l lo) (hu : IsPart u hi) (ho : s.heap.get? a = some o) (hc : o.cls = .type "bytearray") (hd : o.data = .bytearray b n) (hs : s.heap.IsSliceOf sl l u .none) (hz : b.size ≤ sizeLine)
    (h : Q (.ref s.heap.objs.size) { s with heap := s.heap.push { cls := .type "bytearray", data := .bytearray (KBy.picked b lo hi) } }) : wpAny (model prog w) A (getItem (.ref a) (.ref sl)) Q E s := by
  have hTa : s.TypeIs (.ref a) "bytearray" := ⟨o, ho, hc⟩
  refine wpAny_getItem_slot hTa (by decide) BI.ba_slot_get (wpAny_call_entry BI.ba_slot_get hTa BI.ba_entry_get ?_ (BI.ba_args_get _ _))
  obtain ⟨o2, ho2, hc2, hd2⟩ := hs
  have hT : s.TypeIs (.ref sl) "slice" := ⟨o2, ho2, hc2⟩
  show wpAny _ _ (Bytes.subscript? (.ref sl) >>= fun r => _) _ _ s
  refine wpAny_bind ?_
  unfold Bytes.subscript?
  refine wpAny_bind (wpAny_specialOf hT slice_no_index (wpAny_pure ?_))
  refine wpAny_bind (wpAny_typeOf hT ?_)
  show wpAny _ _ (Bytes.sliceParts (.ref sl) >>= fun r => _) _ _ s
  refine wpAny_bind ?_
  unfold Bytes.sliceParts
  refine wpAny_bind (wpAny_field (x := .none) ho2 hd2 rfl ?_)
  kby_none
  refine wpAny_ite (KBy.ite_no (show ¬ ((Value.none == rawInt 0) = true) from Bool.false_ne_true) ?_)
  refine wpAny_bind (wpAny_field (x := l) ho2 hd2 rfl ?_)
  have go : wpAny (model prog w) A.in1 (sliceIndices (rawPart lo) (rawPart hi) (rawPart none) b.size) (fun r s' => r = sliceBounds lo hi none b.size ∧ s' = s) (fun _ _ => False) s :=
    wpAny_of_eq (sliceIndices_raw lo hi none b.size (fun e => nomatch e)) ⟨rfl, rfl⟩
  cases hl <;> cases hu <;> (first
    | (kby_none; (refine wpAny_bind (wpAny_field (x := .none) ho2 hd2 rfl ?_)); kby_none)
    | (kby_none; (refine wpAny_bind (wpAny_field (x := .int _ _) ho2 hd2 rfl ?_)); kby_int)
    | (kby_int; (refine wpAny_bind (wpAny_field (x := .none) ho2 hd2 rfl ?_)); kby_none)
    | (kby_int; (refine wpAny_bind (wpAny_field (x := .int _ _) ho2 hd2 rfl ?_)); kby_int)) <;> refine wpAny_pure ?_
  all_goals
    show wpAny _ _ (Bytes.payload (.ref a) >>= fun r => _) _ _ s
    refine wpAny_bind ?_
    unfold Bytes.payload Bytes.payload?
    refine wpAny_bind (wpAny_bind (wpAny_load ho ?_))
    rw [hd]
    refine wpAny_pure (wpAny_pure ?_)
    refine wpAny_bind (wpAny_mono go (fun r s' hr => ?_) fun _ _ e => e.elim)
    obtain ⟨hr1, hr2⟩ := hr
    subst hr1 hr2
    refine wpAny_bind ?_
    unfold Bytes.newBytearray
    have hsz : ∀ lo hi, (KBy.picked b lo hi).size ≤ sizeLine := fun lo hi => Nat.le_trans (KBc.size_picked_le b lo hi) hz
    refine wpAny_newObj_type ?_ (by first | exact hsz none none | exact hsz none (some _) | exact hsz (some _) none | exact hsz (some _) (some _))
    exact wpAny_pure ⟨_, rfl, h⟩
theorem ba_own {nm id : String} {Q : Bool → Shared → Prop} (ho : s.heap.get? a = some o) (hc : o.cls = .type "bytearray") (look : typeLookup (.type "bytearray") (nm : PySem.Str) = pure (some (.builtin id))) (e1 : id.endsWith ("." ++ nm) = true) (e2 : id.dropRight (nm.length + 1) = "bytearray") (h : Q true s) :
    wpAny (model prog w) A (Builtin.Bytes.slotIsOwn (.ref a) nm) Q E s := by
  have hT : s.TypeIs (.ref a) "bytearray" := ⟨o, ho, hc⟩
  unfold Builtin.Bytes.slotIsOwn
  refine wpAny_bind (wpAny_specialOf hT look ?_)
  dsimp only
  rw [e1, e2]
  show wpAny _ _ (isInstance (.ref a) (.type "bytearray")) _ _ _
  exact wpAny_isInstance hT BI.ba_sub h
theorem ba_buffer? {nm : String} {Q : Option (Array UInt8) → Shared → Prop} (ho : s.heap.get? a = some o) (hc : o.cls = .type "bytearray") (hd : o.data = .bytearray b n) (h : Q (some b) s) :
    wpAny (model prog w) A (Builtin.Bytes.buffer? nm (.ref a) true) Q E s := by
  have hT : s.TypeIs (.ref a) "bytearray" := ⟨o, ho, hc⟩
  unfold Builtin.Bytes.buffer?
  refine wpAny_bind (wpAny_specialOf hT BI.ba_buffer ?_)
  dsimp only
  refine wpAny_bind (ba_own ho hc BI.ba_buffer (by decide +kernel) (by decide +kernel) ?_)
  refine bm_if_false rfl ?_
  refine wpAny_bind (wpAny_specialOf hT BI.ba_buffer ?_)
  try dsimp only
  refine wpAny_bind ?_
  unfold Builtin.Bytes.ownRelease
  refine wpAny_bind (ba_own ho hc BI.ba_release (by decide +kernel) (by decide +kernel) (wpAny_pure ?_))
  refine bm_if_false rfl ?_
  refine wpAny_bind ?_
  unfold Builtin.Bytes.payload Builtin.Bytes.payload?
  refine wpAny_bind (wpAny_bind (wpAny_load ho ?_))
  rw [hd]
  exact wpAny_pure (wpAny_pure (wpAny_pure h))
theorem ba_new {Q : Value → Shared → Prop} (hh : A.handled = none) (ho : s.heap.get? a = some o) (hc : o.cls = .type "bytearray") (hd : o.data = .bytearray b n) (hz : b.size ≤ sizeLine)
    (hQ : ∀ t k, Q (.bytes b t) { s with toks := k }) :
    codeAny (model prog w) A (.call (.builtin "bytes.__new__") ⟨[.type "bytes", .ref a], []⟩) (wants Q E) s := by
  refine codeAny_of_tree ?_
  show wpAny _ A.in1 (do checkBuiltinCall "bytes.__new__" ⟨[.type "bytes", .ref a], []⟩; again (.builtin "bytes.__new__" ⟨[.type "bytes", .ref a], []⟩)) _ _ s
  refine wpAny_bind (wpAny_of_eq (F.bm_newCall _) (wpAny_pure ⟨plainId_quiet F.bm_plain _, codeAny_builtin F.bm_entry ?_⟩))
  rw [Around.under_plainId F.bm_plain _]
  have hT : s.TypeIs (.ref a) "bytearray" := ⟨o, ho, hc⟩
  unfold Builtin.«bytes.__new__»
  refine wpAny_bind (wpAny_of_eq (a := true) rfl ?_)
  refine bm_if_false rfl ?_
  refine wpAny_bind (wpAny_of_eq F.bm_sub ?_)
  refine bm_if_false rfl ?_
  refine wpAny_bind (wpAny_of_eq (F.bm_bind _) ?_)
  refine wpAny_bind (wpAny_of_eq (a := ()) rfl ?_)
  refine wpAny_bind (wpAny_of_eq (a := ()) rfl ?_)
  refine bm_if_false rfl ?_
  refine wpAny_bind (wpAny_specialOf hT BI.ba_no_bytes ?_)
  refine wpAny_bind (wpAny_bind ?_)
  show wpAny _ _ (load a >>= _) _ _ _
  refine wpAny_bind (wpAny_load ho ?_)
  rw [hd]
  refine wpAny_pure (wpAny_pure ?_)
  refine bm_if_false rfl ?_
  refine wpAny_bind (wpAny_specialOf hT BI.ba_no_index ?_)
  refine bm_if_true rfl ?_
  first
    | show wpAny _ _ (Builtin.Bytes.buffer? "bytes.__new__" (.ref a) true >>= _) _ _ _
    | (refine wpAny_bind ?_; show wpAny _ _ (Builtin.Bytes.buffer? "bytes.__new__" (.ref a) true >>= _) _ _ _)
  refine wpAny_bind (ba_buffer? ho hc hd ?_)
  dsimp only
  refine wpAny_bind (wpAny_rule ?_)
  refine wpAny_bind (wpAny_mkBytes ?_ hz)
  show wpAny _ _ (if (Value.type "bytes" == Value.type "bytes") = true then _ else _) _ _ _
  refine bm_if_true (by decide) ?_
  first
    | exact wpAny_pure (hQ _ _)
    | exact wpAny_bind (wpAny_pure (wpAny_pure (hQ _ _)))
    | exact wpAny_bind (wpAny_pure (wpAny_bind (wpAny_pure (wpAny_pure (hQ _ _)))))
theorem ba_bytes {Q : Value → Shared → Prop} (hh : A.handled = none) (ho : s.heap.get? a = some o) (hc : o.cls = .type "bytearray") (hd : o.data = .bytearray b n) (hz : b.size ≤ sizeLine)
    (hQ : ∀ t k, Q (.bytes b t) { s with toks := k }) : wpAny (model prog w) A (call (.type "bytes") [.ref a]) Q E s := by
  refine callType_codes (Q₁ := fun obj s₁ => s₁.TypeIs obj "bytes" ∧ Q obj s₁) F.bm_called (F.bm_typeCall _) F.entry_object_init
    (ba_new hh ho hc hd hz fun t k => ⟨PySem.W.typeIs_bytes _ _ _, hQ t k⟩) fun obj s₁ h₁ => ?_
  exact ⟨h₁.1, F.args_object_init_2 obj _, object_init_meets F.bm_called.init.lookup F.bm_called.made (by decide) prog w A.in1 _ s₁ ⟨h₁.1, rfl, h₁.2⟩⟩
end
end Mine
end
-- Wh
section
open PySem PySem.W PyProof.Rows PySem.Calls
set_option Elab.async false
set_option maxRecDepth 100000
namespace Mine
def Hold (P : Prop) : Prop := P
theorem hold {P : Prop} (h : Hold P) : P := h
/-- the frame of a loop's turn -/
def WPost {σ : Type} (g : Heap) (L : Addr) (s : Shared) (J : σ → Prop) (mf : σ → PySem.Str → Option Value) (nf : σ → List (Addr × Obj)) (μ : σ → Nat) (Q : Flow → Shared → Prop) (x : σ) (f : Flow) (s₃ : Shared) : Prop :=
  match f with
  | .next | .cont => ∃ h' tk x', s₃ = { s with heap := h', toks := tk } ∧ Fr g L h' (mf x') ∧ News g L h' (nf x') ∧ μ x' < μ x ∧ J x'
  | .brk => Q .next s₃
  | .ret v => Q (.ret v) s₃
theorem Fr.to {g h : Heap} {L : Addr} {m m' : PySem.Str → Option Value} (F : Fr g L h m) (e : ∀ y, m y = m' y) : Fr g L h m' := by
  have : m = m' := funext e
  rw [← this]; exact F
section
variable {prog : Program} {w : World} {A : Around} {E : Value → Shared → Prop} {Q : Flow → Shared → Prop} {s : Shared} {env : Env} {g : Heap} {L : Addr}
theorem while_own {σ : Type} {test : PySem.Expr} {body : List Stmt} {pos : Pos} {m : PySem.Str → Option Value} (J : σ → Prop) (mf : σ → PySem.Str → Option Value) (nf : σ → List (Addr × Obj)) (μ : σ → Nat) (x₀ : σ)
    (F : Fr g L s.heap m) (N : News g L s.heap (nf x₀)) (em : ∀ y, m y = mf x₀ y) (hJ : J x₀)
    (turn : ∀ x h₁ tk₁, J x → Fr g L h₁ (mf x) → News g L h₁ (nf x) →
      wpAny (model prog w) A (isTrue test env (eval test env)) (fun b s₂ => WhlIf b (wpAny (model prog w) A (execs body env) (WPost g L s J mf nf μ Q x) E s₂) (Q .next s₂)) E { s with heap := h₁, toks := tk₁ })
    (hE : PassesOwn (model prog w) A env E) :
    wpAny (model prog w) A (exec (.While test body [] pos) env) Q E s := by
  refine whl_start 0 ?_
  have key : ∀ n x h₁ tk₁, μ x ≤ n → J x → Fr g L h₁ (mf x) → News g L h₁ (nf x) → WhlRest prog w A E env test body [] Q 1 { s with heap := h₁, toks := tk₁ } := by
    intro n
    induction n with
    | zero =>
      intro x h₁ tk₁ hn J₁ F₁ N₁
      refine whl_turn hE (wpAny_mono (turn x h₁ tk₁ J₁ F₁ N₁) (fun b s₂ h₂ => ?_) fun _ _ e => e)
      cases b with
      | false => exact WhlIf.no rfl (wpAny_execs_nil h₂)
      | true =>
        refine WhlIf.yes rfl (wpAny_mono h₂ (fun f s₃ h₃ => ?_) fun _ _ e => e)
        cases f with
        | next => obtain ⟨_, _, x', _, _, _, hl, _⟩ := h₃; omega
        | cont => obtain ⟨_, _, x', _, _, _, hl, _⟩ := h₃; omega
        | brk => exact h₃
        | ret v => exact h₃
    | succ n ih =>
      intro x h₁ tk₁ hn J₁ F₁ N₁
      refine whl_turn hE (wpAny_mono (turn x h₁ tk₁ J₁ F₁ N₁) (fun b s₂ h₂ => ?_) fun _ _ e => e)
      cases b with
      | false => exact WhlIf.no rfl (wpAny_execs_nil h₂)
      | true =>
        refine WhlIf.yes rfl (wpAny_mono h₂ (fun f s₃ h₃ => ?_) fun _ _ e => e)
        cases f with
        | next => obtain ⟨h', tk, x', rfl, F', N', hl, J'⟩ := h₃; exact ih x' h' tk (by omega) J' F' N'
        | cont => obtain ⟨h', tk, x', rfl, F', N', hl, J'⟩ := h₃; exact ih x' h' tk (by omega) J' F' N'
        | brk => exact h₃
        | ret v => exact h₃
  exact key (μ x₀) x₀ s.heap s.toks (Nat.le_refl _) hJ (Fr.to F em) N
theorem wpost_next {σ : Type} {J : σ → Prop} {mf : σ → PySem.Str → Option Value} {nf : σ → List (Addr × Obj)} {μ : σ → Nat} {x x' : σ} {h' : Heap} {tk : Nat} {m : PySem.Str → Option Value}
    (F : Fr g L h' m) (N : News g L h' (nf x')) (em : ∀ y, m y = mf x' y) (hl : μ x' < μ x) (hJ : J x') : WPost g L s J mf nf μ Q x .next { s with heap := h', toks := tk } :=
  ⟨h', tk, x', rfl, Fr.to F em, N, hl, hJ⟩
theorem whl_split {b : Bool} {T F : Prop} (t : b = true → T) (f : b = false → F) : WhlIf b T F := by
  cases b
  · exact WhlIf.no rfl (f rfl)
  · exact WhlIf.yes rfl (t rfl)
theorem lk0 {y a : PySem.Str} {v : Value} {r : List (PySem.Str × Value)} : List.lookup y ((a, v) :: r) = if y = a then some v else List.lookup y r := by
  rw [List.lookup_cons]
  by_cases e : y = a
  · rw [if_pos e, beq_iff_eq.mpr e]
  · rw [if_neg e, beq_eq_false_iff_ne.mpr e]
theorem lk1 {y a : PySem.Str} {v : Value} : List.lookup y [(a, v)].reverse = if y = a then some v else none := lk0
theorem lk2 {y a b : PySem.Str} {v u : Value} : List.lookup y [(a, v), (b, u)].reverse = if y = b then some u else if y = a then some v else none := lk0.trans (by rw [lk0]; rfl)
theorem em1 {m : PySem.Str → Option Value} {a : PySem.Str} {va : Option Value} (ha : m a = va) (hn : ∀ y, y ≠ a → m y = none) : ∀ y, m y = if y = a then va else none := fun y => by
  by_cases ea : y = a
  · rw [if_pos ea, ea, ha]
  rw [if_neg ea]
  exact hn y ea
theorem em2 {m : PySem.Str → Option Value} {a b : PySem.Str} {va vb : Option Value} (ha : m a = va) (hb : m b = vb) (hn : ∀ y, y ≠ a → y ≠ b → m y = none) : ∀ y, m y = if y = a then va else if y = b then vb else none := fun y => by
  by_cases ea : y = a
  · rw [if_pos ea, ea, ha]
  rw [if_neg ea]
  by_cases eb : y = b
  · rw [if_pos eb, eb, hb]
  rw [if_neg eb]
  exact hn y ea eb
theorem em3 {m : PySem.Str → Option Value} {a b c : PySem.Str} {va vb vc : Option Value} (ha : m a = va) (hb : m b = vb) (hc : m c = vc) (hn : ∀ y, y ≠ a → y ≠ b → y ≠ c → m y = none) : ∀ y, m y = if y = a then va else if y = b then vb else if y = c then vc else none := fun y => by
  by_cases ea : y = a
  · rw [if_pos ea, ea, ha]
  rw [if_neg ea]
  by_cases eb : y = b
  · rw [if_pos eb, eb, hb]
  rw [if_neg eb]
  by_cases ec : y = c
  · rw [if_pos ec, ec, hc]
  rw [if_neg ec]
  exact hn y ea eb ec
theorem em4 {m : PySem.Str → Option Value} {a b c d : PySem.Str} {va vb vc vd : Option Value} (ha : m a = va) (hb : m b = vb) (hc : m c = vc) (hd : m d = vd) (hn : ∀ y, y ≠ a → y ≠ b → y ≠ c → y ≠ d → m y = none) : ∀ y, m y = if y = a then va else if y = b then vb else if y = c then vc else if y = d then vd else none := fun y => by
  by_cases ea : y = a
  · rw [if_pos ea, ea, ha]
  rw [if_neg ea]
  by_cases eb : y = b
  · rw [if_pos eb, eb, hb]
  rw [if_neg eb]
  by_cases ec : y = c
  · rw [if_pos ec, ec, hc]
  rw [if_neg ec]
  by_cases ed : y = d
  · rw [if_pos ed, ed, hd]
  rw [if_neg ed]
  exact hn y ea eb ec ed
theorem em5 {m : PySem.Str → Option Value} {a b c d e : PySem.Str} {va vb vc vd ve : Option Value} (ha : m a = va) (hb : m b = vb) (hc : m c = vc) (hd : m d = vd) (he : m e = ve) (hn : ∀ y, y ≠ a → y ≠ b → y ≠ c → y ≠ d → y ≠ e → m y = none) : ∀ y, m y = if y = a then va else if y = b then vb else if y = c then vc else if y = d then vd else if y = e then ve else none := fun y => by
  by_cases ea : y = a
  · rw [if_pos ea, ea, ha]
  rw [if_neg ea]
  by_cases eb : y = b
  · rw [if_pos eb, eb, hb]
  rw [if_neg eb]
  by_cases ec : y = c
  · rw [if_pos ec, ec, hc]
  rw [if_neg ec]
  by_cases ed : y = d
  · rw [if_pos ed, ed, hd]
  rw [if_neg ed]
  by_cases ee : y = e
  · rw [if_pos ee, ee, he]
  rw [if_neg ee]
  exact hn y ea eb ec ed ee
theorem em6 {m : PySem.Str → Option Value} {a b c d e f : PySem.Str} {va vb vc vd ve vf : Option Value} (ha : m a = va) (hb : m b = vb) (hc : m c = vc) (hd : m d = vd) (he : m e = ve) (hf : m f = vf) (hn : ∀ y, y ≠ a → y ≠ b → y ≠ c → y ≠ d → y ≠ e → y ≠ f → m y = none) : ∀ y, m y = if y = a then va else if y = b then vb else if y = c then vc else if y = d then vd else if y = e then ve else if y = f then vf else none := fun y => by
  by_cases ea : y = a
  · rw [if_pos ea, ea, ha]
  rw [if_neg ea]
  by_cases eb : y = b
  · rw [if_pos eb, eb, hb]
  rw [if_neg eb]
  by_cases ec : y = c
  · rw [if_pos ec, ec, hc]
  rw [if_neg ec]
  by_cases ed : y = d
  · rw [if_pos ed, ed, hd]
  rw [if_neg ed]
  by_cases ee : y = e
  · rw [if_pos ee, ee, he]
  rw [if_neg ee]
  by_cases ef : y = f
  · rw [if_pos ef, ef, hf]
  rw [if_neg ef]
  exact hn y ea eb ec ed ee ef
end
end Mine
end
-- MathA
section
/- plain law: variable-length numbers; no program in sight -/
namespace Mine

def P (m : Nat) : List UInt8 :=
  if h : m = 0 then [] else P ((m - 1) / 128) ++ [UInt8.ofNat (128 + (m - 1) % 128)]
termination_by m
decreasing_by omega

theorem P_zero : P 0 = [] := by unfold P; rfl
theorem P_step (x c : Nat) (hc : c < 128) : P (x * 128 + c + 1) = P x ++ [UInt8.ofNat (128 + c)] := by
  rw [P, dif_neg (by omega)]
  have h1 : (x * 128 + c + 1 - 1) / 128 = x := by omega
  have h2 : (x * 128 + c + 1 - 1) % 128 = c := by omega
  rw [h1, h2]
theorem P_pos (m : Nat) (h : m ≠ 0) : P m = P ((m - 1) / 128) ++ [UInt8.ofNat (128 + (m - 1) % 128)] := by
  rw [P, dif_neg h]

def enc (n : Nat) : List UInt8 := P (n / 128) ++ [UInt8.ofNat (n % 128)]

/-- reading: the number and what is left -/
def rd (mx : Nat) : Nat → List UInt8 → Option (Nat × List UInt8)
  | _, [] => none
  | num, b :: r =>
    if mx ≤ num * 128 + b.toNat % 128 then none
    else if b.toNat < 128 then some (num * 128 + b.toNat % 128, r)
    else if mx ≤ num * 128 + b.toNat % 128 + 1 then none
    else rd mx (num * 128 + b.toNat % 128 + 1) r

theorem ofNat_toNat {n : Nat} (h : n < 256) : (UInt8.ofNat n).toNat = n := by
  rw [UInt8.toNat_ofNat']; omega

theorem rd_P (mx : Nat) (r : List UInt8) : ∀ (k m : Nat), m ≤ k → rd mx 0 (P m ++ r) = if m = 0 then rd mx 0 r else if m < mx then rd mx m r else none := by
  intro k
  induction k generalizing r with
  | zero => intro m hm; have : m = 0 := by omega
            subst this; rw [P_zero]; rfl
  | succ k ih =>
    intro m hm
    by_cases h0 : m = 0
    · subst h0; rw [P_zero]; rfl
    rw [if_neg h0, P_pos m h0, List.append_assoc, ih _ _ (by omega)]
    have hb : (UInt8.ofNat (128 + (m - 1) % 128)).toNat = 128 + (m - 1) % 128 := ofNat_toNat (by omega)
    have step : ∀ x, x = (m - 1) / 128 → rd mx x ([UInt8.ofNat (128 + (m - 1) % 128)] ++ r) = if m < mx then rd mx m r else none := by
      intro x hx
      show rd mx x (UInt8.ofNat (128 + (m - 1) % 128) :: r) = _
      rw [rd, hb]
      have e1 : x * 128 + (128 + (m - 1) % 128) % 128 + 1 = m := by omega
      by_cases c1 : mx ≤ x * 128 + (128 + (m - 1) % 128) % 128
      · rw [if_pos c1, if_neg (by omega)]
      · rw [if_neg c1, if_neg (by omega)]
        by_cases c2 : mx ≤ x * 128 + (128 + (m - 1) % 128) % 128 + 1
        · rw [if_pos c2, if_neg (by omega)]
        · rw [if_neg c2, e1, if_pos (by omega)]
    by_cases hz : (m - 1) / 128 = 0
    · rw [if_pos hz, step 0 hz.symm]
    · rw [if_neg hz]
      by_cases hlt : (m - 1) / 128 < mx
      · rw [if_pos hlt, step _ rfl]
      · rw [if_neg hlt, if_neg (by omega)]

theorem rd_enc (mx n : Nat) (t : List UInt8) (h : 0 < mx) : rd mx 0 (enc n ++ t) = if n < mx then some (n, t) else none := by
  unfold enc
  rw [List.append_assoc, rd_P mx _ _ _ (Nat.le_refl _)]
  have hb : (UInt8.ofNat (n % 128)).toNat = n % 128 := ofNat_toNat (by omega)
  have step : ∀ x, x = n / 128 → rd mx x ([UInt8.ofNat (n % 128)] ++ t) = if n < mx then some (n, t) else none := by
    intro x hx
    show rd mx x (UInt8.ofNat (n % 128) :: t) = _
    rw [rd, hb]
    have e1 : x * 128 + n % 128 % 128 = n := by omega
    rw [e1]
    by_cases c1 : mx ≤ n
    · rw [if_pos c1, if_neg (by omega)]
    · rw [if_neg c1, if_pos (by omega), if_pos (by omega)]
  by_cases hz : n / 128 = 0
  · rw [if_pos hz, step 0 hz.symm]
  · rw [if_neg hz]
    by_cases hlt : n / 128 < mx
    · rw [if_pos hlt, step _ rfl]
    · rw [if_neg hlt, if_neg (by omega)]

theorem rd_cut (mx n : Nat) : rd mx 0 (enc n).dropLast = none := by
  unfold enc
  rw [List.dropLast_concat, ← List.append_nil (P (n / 128)), rd_P mx _ _ _ (Nat.le_refl _)]
  by_cases hz : n / 128 = 0
  · rw [if_pos hz]; rfl
  · rw [if_neg hz]; split <;> rfl

theorem rd_back (mx : Nat) : ∀ (l : List UInt8) (num v : Nat) (rest : List UInt8), rd mx num l = some (v, rest) → P num ++ l = enc v ++ rest
  | [], _, _, _, h => by cases h
  | b :: r, num, v, rest, h => by
    have hb := b.toNat_lt
    rw [rd] at h
    split at h
    · cases h
    split at h
    · rename_i hlt
      cases h
      unfold enc
      have e1 : (num * 128 + b.toNat % 128) / 128 = num := by omega
      have e2 : (num * 128 + b.toNat % 128) % 128 = b.toNat := by omega
      rw [e1, e2, List.append_assoc]
      show _ = P num ++ (UInt8.ofNat b.toNat :: r)
      rw [UInt8.ofNat_toNat]
    · rename_i hge
      split at h
      · cases h
      have ih := rd_back mx r _ v rest h
      rw [P_step _ _ (by omega)] at ih
      have e : 128 + b.toNat % 128 = b.toNat := by omega
      rw [e, UInt8.ofNat_toNat, List.append_assoc] at ih
      exact ih

theorem rd_lt (mx : Nat) : ∀ (l : List UInt8) (num v : Nat) (rest : List UInt8), rd mx num l = some (v, rest) → v < mx
  | [], _, _, _, h => by cases h
  | b :: r, num, v, rest, h => by
    rw [rd] at h
    split at h
    · cases h
    split at h
    · cases h; omega
    · split at h
      · cases h
      exact rd_lt mx r _ v rest h

def plen (m : Nat) : Nat := (P m).length
theorem plen_mono : ∀ (k m n : Nat), n ≤ k → m ≤ n → (P m).length ≤ (P n).length := by
  intro k
  induction k with
  | zero => intro m n hn hm; have : m = 0 := by omega
            subst this; rw [P_zero]; exact Nat.zero_le _
  | succ k ih =>
    intro m n hn hm
    by_cases h0 : m = 0
    · subst h0; rw [P_zero]; exact Nat.zero_le _
    rw [P_pos m h0, P_pos n (by omega), List.length_append, List.length_append]
    have := ih ((m - 1) / 128) ((n - 1) / 128) (by omega) (Nat.div_le_div_right (by omega))
    simpa using this
theorem enc_mono (m n : Nat) (h : m ≤ n) : (enc m).length ≤ (enc n).length := by
  unfold enc
  rw [List.length_append, List.length_append]
  have := plen_mono (n / 128) (m / 128) (n / 128) (Nat.le_refl _) (Nat.div_le_div_right h)
  simpa using this
end Mine
end
-- MathC
section
namespace Mine
theorem rd_suffix (mx : Nat) : ∀ (l : List UInt8) (num v : Nat) (rest : List UInt8), rd mx num l = some (v, rest) → rest = l.drop (l.length - rest.length) ∧ rest.length < l.length := by
  intro l
  induction l with
  | nil => intro num v rest h; unfold rd at h; cases h
  | cons c r ih =>
    intro num v rest h
    unfold rd at h
    have key : ∀ num', rd mx num' r = some (v, rest) → rest = (c :: r).drop ((c :: r).length - rest.length) ∧ rest.length < (c :: r).length := by
      intro num' h'
      obtain ⟨a, b⟩ := ih _ _ _ h'
      refine ⟨?_, by rw [List.length_cons]; omega⟩
      rw [List.length_cons, show r.length + 1 - rest.length = (r.length - rest.length) + 1 from by omega, List.drop_succ_cons]
      exact a
    have stop : ∀ n', some (n', r) = some (v, rest) → rest = (c :: r).drop ((c :: r).length - rest.length) ∧ rest.length < (c :: r).length := by
      intro n' h'
      cases h'
      refine ⟨?_, by rw [List.length_cons]; omega⟩
      rw [List.length_cons, show r.length + 1 - r.length = 1 from by omega]
      rfl
    split at h
    · cases h
    · split at h
      · exact stop _ h
      · split at h
        · cases h
        · exact key _ h
end Mine
end
-- MathB
section
/- plain law: amounts; no program in sight -/
namespace Mine
/-- strips noughts: what is left and how many -/
def stripA : Nat → Nat → Nat → Nat × Nat
  | 0, m, e => (m, e)
  | f + 1, m, e => if m % 10 = 0 ∧ e < 9 then stripA f (m / 10) (e + 1) else (m, e)
def shortA (n : Nat) : Nat :=
  if n = 0 then 0 else
    if (stripA 9 n 0).2 < 9 then 1 + ((stripA 9 n 0).1 / 10 * 9 + (stripA 9 n 0).1 % 10 - 1) * 10 + (stripA 9 n 0).2
    else 1 + ((stripA 9 n 0).1 - 1) * 10 + 9
def openA (c : Nat) : Nat :=
  if c = 0 then 0 else
    (if (c - 1) % 10 < 9 then ((c - 1) / 10 / 9 * 10 + ((c - 1) / 10 % 9 + 1)) else (c - 1) / 10 + 1) * 10 ^ ((c - 1) % 10) % 2 ^ 64
theorem strip_stop (f m e : Nat) (h : ¬ (m % 10 = 0 ∧ e < 9)) : stripA f m e = (m, e) := by
  cases f with
  | zero => rfl
  | succ f => rw [stripA, if_neg h]
theorem strip_on (f m e : Nat) (hf : e + f = 9) (h : m % 10 = 0 ∧ e < 9) : stripA f m e = stripA (f - 1) (m / 10) (e + 1) := by
  cases f with
  | zero => omega
  | succ f => rw [stripA, if_pos h]; rfl
theorem short_of {n m e : Nat} (h0 : n ≠ 0) (st : stripA 9 n 0 = (m, e)) : shortA n = if e < 9 then 1 + (m / 10 * 9 + m % 10 - 1) * 10 + e else 1 + (m - 1) * 10 + 9 := by
  unfold shortA
  rw [if_neg h0, st]
theorem stripA_spec : ∀ (f m e : Nat), 0 < m → e + f = 9 → 0 < (stripA f m e).1 ∧ (stripA f m e).1 * 10 ^ ((stripA f m e).2) = m * 10 ^ e ∧ e ≤ (stripA f m e).2 ∧ (stripA f m e).2 ≤ 9 ∧ ((stripA f m e).2 < 9 → (stripA f m e).1 % 10 ≠ 0)
  | 0, m, e, hm, hf => ⟨hm, rfl, Nat.le_refl _, by show e ≤ 9; omega, fun h => by have : e < 9 := h; omega⟩
  | f + 1, m, e, hm, hf => by
    unfold stripA
    by_cases h : m % 10 = 0 ∧ e < 9
    · rw [if_pos h]
      obtain ⟨a, b, c, d, g⟩ := stripA_spec f (m / 10) (e + 1) (by omega) (by omega)
      refine ⟨a, ?_, by omega, d, g⟩
      rw [b, Nat.pow_succ]
      have : m = m / 10 * 10 := by omega
      conv => rhs; rw [this]
      rw [Nat.mul_assoc, Nat.mul_comm 10]
    · rw [if_neg h]
      exact ⟨hm, rfl, Nat.le_refl _, by show e ≤ 9; omega, fun h9 h0 => h ⟨h0, h9⟩⟩
theorem openA_shortA (n : Nat) (h : n ≤ 2100000000000000) : openA (shortA n) = n := by
  by_cases h0 : n = 0
  · subst h0; rfl
  obtain ⟨a, b, c, d, g⟩ := stripA_spec 9 n 0 (by omega) rfl
  rw [Nat.pow_zero, Nat.mul_one] at b
  unfold shortA
  rw [if_neg h0]
  generalize hm : (stripA 9 n 0).1 = m at *
  generalize he : (stripA 9 n 0).2 = e at *
  by_cases h9 : e < 9
  · rw [if_pos h9]
    have gm := g h9
    unfold openA
    rw [if_neg (by omega)]
    have e1 : 1 + (m / 10 * 9 + m % 10 - 1) * 10 + e - 1 = (m / 10 * 9 + m % 10 - 1) * 10 + e := by omega
    have e2 : ((m / 10 * 9 + m % 10 - 1) * 10 + e) % 10 = e := by omega
    have e3 : ((m / 10 * 9 + m % 10 - 1) * 10 + e) / 10 = m / 10 * 9 + m % 10 - 1 := by omega
    rw [e1, e2, e3, if_pos h9]
    have e4 : (m / 10 * 9 + m % 10 - 1) / 9 * 10 + ((m / 10 * 9 + m % 10 - 1) % 9 + 1) = m := by omega
    rw [e4, b]
    exact Nat.mod_eq_of_lt (by omega)
  · rw [if_neg h9]
    have e9 : e = 9 := by omega
    subst e9
    unfold openA
    rw [if_neg (by omega)]
    have e1 : 1 + (m - 1) * 10 + 9 - 1 = (m - 1) * 10 + 9 := by omega
    have e2 : ((m - 1) * 10 + 9) % 10 = 9 := by omega
    have e3 : ((m - 1) * 10 + 9) / 10 = m - 1 := by omega
    rw [e1, e2, e3, if_neg (by omega)]
    have e4 : m - 1 + 1 = m := by omega
    rw [e4, b]
    exact Nat.mod_eq_of_lt (by omega)
theorem shortA_le (n : Nat) : shortA n ≤ 9 * n + 10 := by
  by_cases h0 : n = 0
  · subst h0; decide
  obtain ⟨a, b, c, d, g⟩ := stripA_spec 9 n 0 (by omega) rfl
  rw [Nat.pow_zero, Nat.mul_one] at b
  unfold shortA
  rw [if_neg h0]
  generalize hm : (stripA 9 n 0).1 = m at *
  generalize he : (stripA 9 n 0).2 = e at *
  have hle : m * 10 ^ e = n := b
  by_cases h9 : e < 9
  · rw [if_pos h9]
    have : e = 0 ∨ e = 1 ∨ e = 2 ∨ e = 3 ∨ e = 4 ∨ e = 5 ∨ e = 6 ∨ e = 7 ∨ e = 8 := by omega
    rcases this with rfl | rfl | rfl | rfl | rfl | rfl | rfl | rfl | rfl <;> simp only [Nat.reducePow] at hle <;> omega
  · rw [if_neg h9]
    have : e = 9 := by omega
    subst this
    simp only [Nat.reducePow] at hle
    omega
end Mine
end
-- BV
section
open PySem PySem.W PyProof.Rows PySem.Calls
set_option Elab.async false
set_option maxRecDepth 100000
set_option maxHeartbeats 4000000
namespace Mine
namespace BI
theorem by_bytes : typeLookup (.type "bytes") "__bytes__" = pure (some (.builtin "bytes.__bytes__")) := by rw [typeLookup_type, builtinLookup_eq_fast]; kernel_rfl
theorem it_no_bytes : typeLookup (.type "int") "__bytes__" = pure none := by rw [typeLookup_type, builtinLookup_eq_fast]; kernel_rfl
end BI
section
variable {prog : Program} {w : World} {A : Around} {E : Value → Shared → Prop} {s : Shared} {b : Array UInt8} {t : Tok} {n : Nat}
theorem by_new {Q : Value → Shared → Prop} (hQ : Q (.bytes b t) s) :
    codeAny (model prog w) A (.call (.builtin "bytes.__new__") ⟨[.type "bytes", .bytes b t], []⟩) (wants Q E) s := by
  refine codeAny_of_tree ?_
  show wpAny _ A.in1 (do checkBuiltinCall "bytes.__new__" ⟨[.type "bytes", .bytes b t], []⟩; again (.builtin "bytes.__new__" ⟨[.type "bytes", .bytes b t], []⟩)) _ _ s
  refine wpAny_bind (wpAny_of_eq (F.bm_newCall _) (wpAny_pure ⟨plainId_quiet F.bm_plain _, codeAny_builtin F.bm_entry ?_⟩))
  rw [Around.under_plainId F.bm_plain _]
  have hT : s.TypeIs (.bytes b t) "bytes" := PySem.W.typeIs_bytes _ _ _
  unfold Builtin.«bytes.__new__»
  refine wpAny_bind (wpAny_of_eq (a := true) rfl ?_)
  refine bm_if_false rfl ?_
  refine wpAny_bind (wpAny_of_eq F.bm_sub ?_)
  refine bm_if_false rfl ?_
  refine wpAny_bind (wpAny_of_eq (F.bm_bind _) ?_)
  refine wpAny_bind (wpAny_of_eq (a := ()) rfl ?_)
  refine wpAny_bind (wpAny_of_eq (a := ()) rfl ?_)
  refine bm_if_false rfl ?_
  refine wpAny_bind (wpAny_specialOf hT BI.by_bytes ?_)
  dsimp only
  refine wpAny_bind (wpAny_rule ?_)
  refine wpAny_bind (wpAny_typeOf hT ?_)
  refine bm_if_true (by decide) ?_
  show wpAny _ _ (if (Value.type "bytes" == Value.type "bytes") = true then _ else _) _ _ _
  refine bm_if_true (by decide) ?_
  first
    | exact wpAny_pure hQ
    | exact wpAny_bind (wpAny_pure (wpAny_pure hQ))
theorem bytes_of_bytes {Q : Value → Shared → Prop} (hQ : Q (.bytes b t) s) : wpAny (model prog w) A (call (.type "bytes") [.bytes b t]) Q E s := by
  refine callType_codes (Q₁ := fun obj s₁ => s₁.TypeIs obj "bytes" ∧ Q obj s₁) F.bm_called (F.bm_typeCall _) F.entry_object_init
    (by_new ⟨PySem.W.typeIs_bytes _ _ _, hQ⟩) fun obj s₁ h₁ => ?_
  exact ⟨h₁.1, F.args_object_init_2 obj _, object_init_meets F.bm_called.init.lookup F.bm_called.made (by decide) prog w A.in1 _ s₁ ⟨h₁.1, rfl, h₁.2⟩⟩
theorem in_newV {v : Value} {m : Int} {Q : Value → Shared → Prop} (hT : s.TypeIs v "int") (hs : asStr? v = pure none) (ha : asIndex v = pure m) (hf : Builtin.Bytes.fitsIndex m = true) (h0 : ¬ m < 0) (h1 : ¬ m > 2 ^ 63 - 34) (h2 : Builtin.Bytes.tooLong m.toNat = false) (h3 : m.toNat ≤ sizeLine) (hQ : ∀ t' k, Q (.bytes (Array.replicate m.toNat 0) t') { s with toks := k }) :
    codeAny (model prog w) A (.call (.builtin "bytes.__new__") ⟨[.type "bytes", v], []⟩) (wants Q E) s := by
  refine codeAny_of_tree ?_
  show wpAny _ A.in1 (do checkBuiltinCall "bytes.__new__" ⟨[.type "bytes", v], []⟩; again (.builtin "bytes.__new__" ⟨[.type "bytes", v], []⟩)) _ _ s
  refine wpAny_bind (wpAny_of_eq (F.bm_newCall _) (wpAny_pure ⟨plainId_quiet F.bm_plain _, codeAny_builtin F.bm_entry ?_⟩))
  rw [Around.under_plainId F.bm_plain _]
  unfold Builtin.«bytes.__new__»
  refine wpAny_bind (wpAny_of_eq (a := true) rfl ?_)
  refine bm_if_false rfl ?_
  refine wpAny_bind (wpAny_of_eq F.bm_sub ?_)
  refine bm_if_false rfl ?_
  refine wpAny_bind (wpAny_of_eq (F.bm_bind _) ?_)
  refine wpAny_bind (wpAny_of_eq (a := ()) rfl ?_)
  refine wpAny_bind (wpAny_of_eq (a := ()) rfl ?_)
  refine bm_if_false rfl ?_
  refine wpAny_bind (wpAny_specialOf hT BI.it_no_bytes ?_)
  dsimp only
  refine wpAny_bind (wpAny_bind (wpAny_of_eq hs (wpAny_pure ?_)))
  refine bm_if_false rfl ?_
  refine wpAny_bind (wpAny_specialOf hT F.slot_int_index.lookup ?_)
  refine bm_if_false rfl ?_
  refine wpAny_bind (wpAny_attempt (wpAny_of_eq ha ?_))
  dsimp only
  refine bm_if_false (by rw [hf]; rfl) ?_
  rw [if_neg h0, if_neg h1]
  refine bm_if_false h2 ?_
  refine wpAny_bind (wpAny_rule ?_)
  refine wpAny_bind (wpAny_mkBytes ?_ (by simpa using h3))
  show wpAny _ _ (if (Value.type "bytes" == Value.type "bytes") = true then _ else _) _ _ _
  refine bm_if_true (by decide) ?_
  first
    | exact wpAny_pure (hQ _ _)
    | exact wpAny_bind (wpAny_pure (wpAny_pure (hQ _ _)))
theorem bytes_of_int {m : Int} {Q : Value → Shared → Prop} (h0 : 0 ≤ m) (hm : m ≤ 1000000) (hQ : ∀ t' k, Q (.bytes (Array.replicate m.toNat 0) t') { s with toks := k }) : wpAny (model prog w) A (call (.type "bytes") [.int m t]) Q E s := by
  refine callType_codes (Q₁ := fun obj s₁ => s₁.TypeIs obj "bytes" ∧ Q obj s₁) F.bm_called (F.bm_typeCall _) F.entry_object_init
    (in_newV (typeIs_int _ _ _) rfl rfl ?_ (by omega) (by omega) ?_ ?_ fun t k => ⟨PySem.W.typeIs_bytes _ _ _, hQ t k⟩) fun obj s₁ h₁ => ?_
  · simp only [Builtin.Bytes.fitsIndex, Bool.and_eq_true, decide_eq_true_eq]; omega
  · exact KBy.tooLong_not (by omega)
  · rw [sizeLine_eq]; omega
  · exact ⟨h₁.1, F.args_object_init_2 obj _, object_init_meets F.bm_called.init.lookup F.bm_called.made (by decide) prog w A.in1 _ s₁ ⟨h₁.1, rfl, h₁.2⟩⟩
theorem bytes_of_intL {m : Int} {Q : Value → Shared → Prop} (h0 : 0 ≤ m) (hm : m ≤ 1000000) (hQ : ∀ t' k, Q (.bytes (List.replicate m.toNat 0).toArray t') { s with toks := k }) : wpAny (model prog w) A (call (.type "bytes") [.int m t]) Q E s :=
  bytes_of_int h0 hm (by rw [show Array.replicate m.toNat (0 : UInt8) = (List.replicate m.toNat 0).toArray from by simp]; exact hQ)
end
end Mine
end
-- BW
section
open PySem PySem.W PyProof.Rows PySem.Calls
set_option Elab.async false
set_option maxRecDepth 100000
set_option maxHeartbeats 4000000
namespace Mine
/-- n in k octets, the great one first -/
def beR : Nat → Nat → List UInt8
  | 0, _ => []
  | k + 1, n => beR k (n / 256) ++ [UInt8.ofNat (n % 256)]
@[irreducible] def be (k n : Nat) : List UInt8 := beR k n
theorem be_zero (n : Nat) : be 0 n = [] := by unfold be; rfl
theorem be_succ (k n : Nat) : be (k + 1) n = be k (n / 256) ++ [UInt8.ofNat (n % 256)] := by unfold be; rfl
def beVal (l : List UInt8) : Nat := l.foldl (fun (acc : Nat) (b : UInt8) => acc * 256 + b.toNat) 0
theorem be_len : ∀ (k n : Nat), (be k n).length = k
  | 0, _ => by rw [be_zero]; rfl
  | k + 1, n => by rw [be_succ, List.length_append, be_len k]; rfl
theorem u8 (n : Nat) (h : n < 256) : (UInt8.ofNat n).toNat = n := by rw [UInt8.toNat_ofNat']; omega
theorem beVal_be : ∀ (k n : Nat), n < 256 ^ k → beVal (be k n) = n
  | 0, n, h => by have : n = 0 := by simpa using h
                  subst this; rw [be_zero]; rfl
  | k + 1, n, h => by
    have ih := beVal_be k (n / 256) (by rw [Nat.pow_succ] at h; exact Nat.div_lt_of_lt_mul (by rw [Nat.mul_comm]; exact h))
    rw [be_succ, beVal, List.foldl_append]
    rw [beVal] at ih
    rw [ih]
    show n / 256 * 256 + (UInt8.ofNat (n % 256)).toNat = n
    rw [u8 _ (Nat.mod_lt _ (by decide))]
    omega
theorem beVal_lt (l : List UInt8) : beVal l < 256 ^ l.length := by
  have h := KFB.fold_lt l 0
  rw [Nat.zero_add, Nat.one_mul] at h
  exact h
theorem be_low : ∀ (k n : Nat), n < 256 ^ k → ((be k n).map fun c => ((c.toNat : Nat) : Int)) = (KTBy.little k (n : Int)).reverse
  | 0, _, _ => by rw [be_zero]; rfl
  | k + 1, n, h => by
    have e : (n : Int) / 256 = ((n / 256 : Nat) : Int) := by omega
    rw [be_succ, List.map_append, be_low k (n / 256) (by rw [Nat.pow_succ] at h; exact Nat.div_lt_of_lt_mul (by rw [Nat.mul_comm]; exact h))]
    show _ = ((n : Int) % 256 :: KTBy.little k ((n : Int) / 256)).reverse
    rw [List.reverse_cons, e]
    congr 1
    simp only [List.map_cons, List.map_nil]
    rw [u8 _ (Nat.mod_lt _ (by decide))]
    congr 1
theorem map_inj_u8 : ∀ {a b : List UInt8}, a.map (fun c => ((c.toNat : Nat) : Int)) = b.map (fun c => ((c.toNat : Nat) : Int)) → a = b
  | [], [], _ => rfl
  | [], _ :: _, h => by cases h
  | _ :: _, [], h => by cases h
  | x :: a, y :: b, h => by
    simp only [List.map_cons, List.cons.injEq] at h
    rw [map_inj_u8 h.2]
    congr 1
    exact UInt8.toNat_inj.mp (Int.ofNat.inj h.1)
theorem clip1 (n : Nat) (i : Int) (h : 0 ≤ i) : clipAt n i = min i.toNat n := by
  obtain ⟨k, rfl⟩ := Int.eq_ofNat_of_zero_le h
  exact clipAt_nat n k
theorem slc {α : Type} (b : List α) (i j : Nat) : (b.drop (min i b.length)).take (min j b.length - min i b.length) = (b.drop i).take (j - i) := by
  by_cases h : i ≤ b.length
  · rw [Nat.min_eq_left h]
    by_cases h2 : j ≤ b.length
    · rw [Nat.min_eq_left h2]
    · rw [Nat.min_eq_right (show b.length ≤ j by omega)]
      rw [List.take_of_length_le (by rw [List.length_drop]; omega), List.take_of_length_le (by rw [List.length_drop]; omega)]
  · rw [Nat.min_eq_right (show b.length ≤ i by omega), List.drop_of_length_le (Nat.le_refl _), List.drop_of_length_le (show b.length ≤ i by omega), List.take_nil, List.take_nil]
theorem slcE {α : Type} (b : List α) (i : Nat) : (b.drop (min i b.length)).take (b.length - min i b.length) = b.drop i := by
  by_cases h : i ≤ b.length
  · rw [Nat.min_eq_left h, List.take_of_length_le (by rw [List.length_drop]; omega)]
  · rw [Nat.min_eq_right (show b.length ≤ i by omega), List.drop_of_length_le (Nat.le_refl _), List.drop_of_length_le (show b.length ≤ i by omega), List.take_nil]
theorem slc0 {α : Type} (b : List α) (j : Nat) : b.take (min j b.length) = b.take j := by
  by_cases h2 : j ≤ b.length
  · rw [Nat.min_eq_left h2]
  · rw [Nat.min_eq_right (show b.length ≤ j by omega), List.take_of_length_le (Nat.le_refl _), List.take_of_length_le (show b.length ≤ j by omega)]
namespace BW
open PySem.Builtin.Int (intBits)
section
variable {prog : Program} {w : World} {M : Model} {A : Around} {E : Value → Shared → Prop} {s : Shared} {h₀ : Heap} {L : Addr} {m : PySem.Str → Option Value} {news : List (Addr × Obj)}
theorem to_big {n k : Nat} {t u v : Tok} {Q : Value → Shared → Prop} (hk : k ≤ 64) (h1 : n < 256 ^ k) (h : ∀ t' k', Q (.bytes (be k n).toArray t') { s with toks := k' }) :
    wpAny (model prog w) A (call (.builtin "int.to_bytes") [.int (n : Int) t, .int (k : Int) u, .str (PySem.Str.ofString "big") v]) Q E s := by
  refine wpAny_call_entry KTBy.slot (typeIs_int s n t) KTBy.entry ?_ (KTBy.args _ _ _)
  have h1' : (n : Int) < 256 ^ k := by rw [KTBy.p256]; exact Int.ofNat_lt.mpr h1
  have h0 : (0 : Int) ≤ n := by omega
  have hb := KTBy.bits_le rfl h0 h1'
  show wpAny _ _ (Builtin.Int.intOfSelf (.int (n : Int) t) >>= fun y => _) _ _ s
  refine wpAny_bind (wpAny_of_eq (a := (n : Int)) rfl ?_)
  show wpAny _ _ (Builtin.Int.intBindNamed "to_bytes" ["length", "byteorder", "signed"] 0 2 [.int (k : Int) u, .str (PySem.Str.ofString "big") v] [] >>= fun l => _) _ _ s
  refine wpAny_bind (wpAny_of_eq (a := [some (.int (k : Int) u), some (.str (PySem.Str.ofString "big") v), none]) (by kernel_rfl) ?_)
  show wpAny _ _ (Builtin.Int.intIndex "int.to_bytes" (.int (k : Int) u) >>= fun n => _) _ _ s
  refine wpAny_bind (wpAny_of_eq (a := (k : Int)) rfl ?_)
  refine KTBy.if_not (by show (decide ((k : Int) < -(2 ^ 63 : Int)) || decide ((k : Int) ≥ 2 ^ 63)) = false; rw [decide_eq_false (show ¬ ((k : Int) < -(2 ^ 63 : Int)) by omega), decide_eq_false (show ¬ ((k : Int) ≥ 2 ^ 63) by omega)]; rfl) ?_
  refine wpAny_bind (wpAny_of_eq (a := PySem.Str.ofString "big") (by kernel_rfl) ?_)
  refine wpAny_bind (wpAny_of_eq (a := false) rfl ?_)
  refine wpAny_bind (wpAny_of_eq (a := false) (by kernel_rfl) ?_)
  refine wpAny_ite_false (decide_eq_false (show ¬ ((k : Int) < 0) by omega)) ?_
  refine wpAny_ite_false (decide_eq_false (show ¬ ((k : Int) > 2 ^ 63 - 1 - 33) by omega)) ?_
  refine wpAny_ite_false (decide_eq_false (show ¬ ((k : Int) > (sizeLine : Int)) by rw [sizeLine_eq]; omega)) ?_
  refine KTBy.if_not (by show (decide ((n : Int) < 0) && !false) = false; rw [decide_eq_false (show ¬ (n : Int) < 0 by omega)]; rfl) ?_
  refine KTBy.if_not (by show (_ && decide ((intBits (n : Int) : Int) > 8 * (k : Int))) = false; rw [decide_eq_false (show ¬ ((intBits (n : Int) : Int) > 8 * (k : Int)) by omega), Bool.and_false]) ?_
  have e : List.reverse (KTBy.low (n : Int) (Int.toNat (k : Int))) = be k n := by
    refine map_inj_u8 ?_
    rw [Int.toNat_natCast, List.map_reverse, KTBy.low_ints h0 h1', ← KTBy.little_eq, be_low k n h1]
  show wpAny _ _ (mkBytes (List.reverse (KTBy.low (n : Int) (Int.toNat (k : Int)))).toArray >>= fun v => _) _ _ _
  rw [e]
  exact wpAny_bind (wpAny_mkBytes (wpAny_pure ⟨_, rfl, h _ _⟩) (by show (be k n).length ≤ sizeLine; rw [be_len, sizeLine_eq]; omega))
theorem grown {n : Nat} {Q : Value → Shared → Prop} (hn : n < 2 ^ 1024) (h : Q (.int (n : Int) s.toks) { s with toks := s.toks + 1 }) : wpAny M A (mkIntGrown (n : Int)) Q E s := by
  unfold mkIntGrown
  have hl : ¬ ((n : Int).natAbs.log2 ≥ bitsLine) := by
    rw [Int.natAbs_natCast]
    have hb : bitsLine = 134217728 := by first | rfl | decide
    by_cases hz : n = 0
    · subst hz
      rw [hb]
      decide
    · have h1 := (Nat.log2_lt hz).mpr hn
      omega
  rw [if_neg hl]
  exact wpAny_mkInt h
def kwBig (u : Tok) : List (PySem.Str × Value) := [(PySem.Str.ofString "byteorder", .str (PySem.Str.ofString "big") u), (PySem.Str.ofString "signed", .bool false)]
theorem tree_big {b : List UInt8} {t u : Tok} {P : Fin → Shared → Prop} (hl : b.length ≤ 128) (h : P (.done (.ret (.int (beVal b : Nat) s.toks))) { s with toks := s.toks + 1 }) :
    wpAny M A (Builtin.«int.from_bytes» ⟨[.type "int", .bytes b.toArray t], kwBig u⟩) P E s := by
  have hn : beVal b < 2 ^ 1024 := by
    have h1 := beVal_lt b
    have h2 : 256 ^ b.length ≤ 256 ^ 128 := Nat.pow_le_pow_right (by decide) hl
    have h3 : (256 : Nat) ^ 128 = 2 ^ 1024 := by decide +kernel
    omega
  unfold Builtin.«int.from_bytes»
  refine wpAny_bind (wpAny_of_eq (a := true) KFB.type_int ?_)
  refine KFB.if_not rfl ?_
  refine wpAny_bind (wpAny_of_eq (a := true) F.conv_sub_int ?_)
  refine KFB.if_not rfl ?_
  refine wpAny_bind (wpAny_of_eq (a := [some (.bytes b.toArray t), some (.str (PySem.Str.ofString "big") u), some (.bool false)]) (by kernel_rfl) ?_)
  refine wpAny_bind (wpAny_of_eq (a := PySem.Str.ofString "big") (by kernel_rfl) ?_)
  refine wpAny_bind (wpAny_of_eq (a := false) (by first | rfl | kernel_rfl) ?_)
  refine wpAny_bind (wpAny_of_eq (a := false) (by kernel_rfl) ?_)
  refine wpAny_bind (wpAny_of_eq (a := b.toArray) rfl ?_)
  show wpAny _ _ (mkIntGrown (b.foldl (fun (acc : Int) (b : UInt8) => acc * 256 + (b.toNat : Int)) ((0 : Nat) : Int)) >>= fun v => _) _ _ _
  rw [KFB.foldI_eq]
  refine wpAny_bind (grown hn ?_)
  refine KFB.if_so (by decide +kernel) ?_
  exact wpAny_bind (wpAny_pure (wpAny_pure h))
theorem check_fb {b : Array UInt8} {t u : Tok} : checkBoundCall "int.from_bytes" ⟨[.type "int", .bytes b t], kwBig u⟩ = pure () := by first | kernel_rfl | rfl
theorem call_big {x : Addr} {b : List UInt8} {t u : Tok} {Q : Value → Shared → Prop} (ho : KFB.StandsAt x s.heap) (hl : b.length ≤ 128)
    (h : ∀ t' k, Q (.int (beVal b : Nat) t') { s with toks := k }) : wpAny (model prog w) A (call (.ref x) [.bytes b.toArray t] (kwBig u)) Q E s := by
  refine wpAny_call (codeAny_of_tree ?_)
  show wpAny _ A.in1 (callAny (.ref x) ⟨[.bytes b.toArray t], kwBig u⟩) _ _ s
  simp only [callAny]
  refine wpAny_bind (wpAny_load ho ?_)
  simp only [KFB.bound, show (Value.type "builtin_function_or_method" == Value.type "method" || Value.type "builtin_function_or_method" == Value.type "builtin_function_or_method" || Value.type "builtin_function_or_method" == Value.type "method-wrapper") = true by decide, if_true]
  refine KFB.if_so (by decide) ?_
  refine wpAny_bind (wpAny_of_eq (a := ()) check_fb ?_)
  refine wpAny_bind (wpAny_pure (wpAny_pure ?_))
  exact ⟨KFB.quiet_fb, codeAny_builtin KFB.entry_fb (tree_big hl (h _ _))⟩
theorem callWith_fieldsK {pos : Pos} {u : Addr} {first : List Value} {args : List (Bool × Sem Value)} {keywords : List (Option PySem.Str × Sem Value)} {Q : Value → Shared → Prop} (hplain : args.any (·.1) = false) (hkw : keywords.any (·.1.isNone) = false)
    (h : wpAny M A (evalArgs (.ref u) true args keywords) (fun x s₁ => KFB.StandsAt u s₁.heap ∧ wpAny M A (call (.ref u) (first ++ x.pos) x.kw) Q E s₁) E s) : wpAny M A (callWith pos (.ref u) first args keywords) Q E s := by
  unfold callWith
  refine wpAny_bind (wpAny_holding (wpAny_mono h (fun x s₁ h₁ => wpAny_bind (wpAny_standAt ?_)) fun _ _ x => x))
  obtain ⟨ho, hcall⟩ := h₁
  simp only [hplain, hkw, Bool.or_false]
  refine wpAny_bind (m := keeperOf (.ref u)) ?_
  unfold keeperOf
  refine wpAny_bind (wpAny_load ho ?_)
  simp only [KFB.bound, show (Value.type "builtin_function_or_method" != Value.type "method") = true by decide, show (Value.type "builtin_function_or_method" == Value.type "builtin_function_or_method" || Value.type "builtin_function_or_method" == Value.type "method-wrapper") = true by decide, if_true]
  refine wpAny_pure ?_
  exact wpAny_bind (wpAny_mono hcall (fun r s₂ hr => wpAny_bind (wpAny_holding (wpAny_point (wpAny_pure hr)))) fun _ _ x => x)
theorem callWith_boundK {pos : Pos} {u : Addr} {first : List Value} {env : Env} {e : Expr} {rest : List Expr} {kws : List Keyword} {Q : Value → Shared → Prop}
    (h : wpAny M A (spliced (backTo pos (starEach (e :: rest) env))) (fun vs s₁ => wpAny M A (evalAll ((backToKw pos (keywordEach kws env)).map (·.2)))
      (fun kvs s₂ => KFB.StandsAt u s₂.heap ∧ wpAny M A (call (.ref u) (first ++ vs) (((backToKw pos (keywordEach kws env)).filterMap (·.1)).zip kvs)) Q E s₂) E s₁) E s)
    (he : backTo pos (starEach (e :: rest) env) = (false, eval e env) :: backTo pos (starEach rest env) := by rfl)
    (hplain : (backTo pos (starEach (e :: rest) env)).any (·.1) = false := by rfl)
    (hall : (backToKw pos (keywordEach kws env)).all (·.1.isSome) = true := by rfl)
    (hkw : (backToKw pos (keywordEach kws env)).any (·.1.isNone) = false := by rfl) :
    wpAny M A (callWith pos (.ref u) first (backTo pos (starEach (e :: rest) env)) (backToKw pos (keywordEach kws env))) Q E s := by
  refine callWith_fieldsK hplain hkw ?_
  rw [he] at h ⊢
  exact evalArgs_kwB hall h
end
end BW
end Mine
end
-- BP
section
open PySem PySem.W PyProof.Rows PySem.Calls
set_option Elab.async false
set_option maxRecDepth 100000
set_option maxHeartbeats 4000000
namespace Mine
namespace BP
theorem kind_pow : builtinKind "pow" = none := by decide +kernel
theorem plain_pow : plainId "pow" = true := by decide +kernel
theorem entry_pow : entryFor table "pow" = some Builtin.«pow» := entryFor_of_fast (by kernel_rfl)
theorem args_pow (a b c : Value) : argsOk "pow" ⟨[a, b, c], []⟩ := by unfold argsOk; kernel_rfl
theorem if_so {α : Type} {M : Model} {A : Around} {E : Value → Shared → Prop} {s : Shared} {c : Bool} {a b : Sem α} {Q : α → Shared → Prop} (hc : c = true) (h : wpAny M A a Q E s) : wpAny M A (if c = true then a else b) Q E s := by
  subst hc
  exact h
theorem if_not {α : Type} {M : Model} {A : Around} {E : Value → Shared → Prop} {s : Shared} {c : Bool} {a b : Sem α} {Q : α → Shared → Prop} (hc : c = false) (h : wpAny M A b Q E s) : wpAny M A (if c = true then a else b) Q E s := by
  subst hc
  exact h
theorem pow_gives (a e m : Nat) (t u v : Tok) (hm : 1 < m) : Gives (Builtin.«int.__pow__» ⟨[.int (a : Int) t, .int (e : Int) u, .int (m : Int) v], []⟩) (.int (Builtin.powMod (a % m) e m : Nat)) :=
  .of_wp fun M A E s Q h => by
    obtain ⟨hp, g, d, tk, os⟩ := s
    have hc0 : ¬((m : Int) == 0) = true := by simp; omega
    have hc1 : ¬((m : Int).natAbs == 1) = true := by simp; omega
    have hc2 : ¬ (e : Int) < 0 := by omega
    have hc3 : ¬ (m : Int) < 0 := by omega
    have hc4 : (((a : Int) % ((m : Int).natAbs : Int)).toNat) = a % m := by rw [Int.natAbs_natCast, ← Int.natCast_emod, Int.toNat_natCast]
    have e1 : (Builtin.powMod (((a : Int) % ((m : Int).natAbs : Int)).toNat) (e : Int).natAbs (m : Int).natAbs) = Builtin.powMod (a % m) e m := by rw [hc4, Int.natAbs_natCast, Int.natAbs_natCast]
    have e2 : (if (decide ((m : Int) < 0) && ((Builtin.powMod (((a : Int) % ((m : Int).natAbs : Int)).toNat) (e : Int).natAbs (m : Int).natAbs : Nat) : Int) != 0) = true then ((Builtin.powMod (((a : Int) % ((m : Int).natAbs : Int)).toNat) (e : Int).natAbs (m : Int).natAbs : Nat) : Int) - ((m : Int).natAbs : Int) else ((Builtin.powMod (((a : Int) % ((m : Int).natAbs : Int)).toNat) (e : Int).natAbs (m : Int).natAbs : Nat) : Int)) = ((Builtin.powMod (a % m) e m : Nat) : Int) := by
      rw [decide_eq_false hc3, Bool.false_and, if_neg (by decide), e1]
    wp_walk
    rw [if_neg hc1]
    dsimp only
    rw [if_neg hc2, e2]
    unfold retInt
    exact wpAny_bind (wpAny_mkInt (wpAny_pure ⟨_, rfl, h⟩))
section
variable {prog : Program} {w : World} {A : Around} {E : Value → Shared → Prop} {s : Shared}
theorem pow3 {a e m : Nat} {t u v : Tok} {Q : Value → Shared → Prop} (hm : 1 < m) (h : ∀ t' k, Q (.int (Builtin.powMod (a % m) e m : Nat) t') { s with toks := k }) :
    wpAny (model prog w) A (call (.builtin "pow") [.int (a : Int) t, .int (e : Int) u, .int (m : Int) v]) Q E s := by
  refine call_function_entry kind_pow plain_pow entry_pow (args_pow _ _ _) ?_
  have hT := typeIs_int s (a : Int) t
  unfold Builtin.«pow»
  refine wpAny_bind (wpAny_of_eq (a := [some (.int (a : Int) t), some (.int (e : Int) u), some (.int (m : Int) v)]) (by kernel_rfl) ?_)
  show wpAny _ _ (rule "pow.mod" >>= fun _ => _) _ _ _
  refine wpAny_bind (wpAny_rule ?_)
  refine wpAny_bind (wpAny_typeOf hT ?_)
  dsimp only
  refine wpAny_bind (wpAny_of_eq F.slot_int_pow.lookup ?_)
  refine wpAny_bind (m := callSpecial? (.int (a : Int) t) (dunder "pow") [.int (e : Int) u, .int (m : Int) v]) (wpAny_callSpecial?_slot (name := dunder "pow") hT F.slot_int_pow (call_gives F.slot_int_pow hT F.entry_int_pow (F.args_int_pow_3 _ _ _) (pow_gives a e m t u v hm) ?_))
  refine if_so rfl ?_
  exact wpAny_pure ⟨_, rfl, h _ _⟩
theorem pow3I {a e m : Int} {t u v : Tok} {Q : Value → Shared → Prop} (ha : 0 ≤ a) (he : 0 ≤ e) (hm : 1 < m) (h : ∀ t' k, Q (.int (Builtin.powMod (a.toNat % m.toNat) e.toNat m.toNat : Nat) t') { s with toks := k }) :
    wpAny (model prog w) A (call (.builtin "pow") [.int a t, .int e u, .int m v]) Q E s := by
  obtain ⟨a, rfl⟩ := Int.eq_ofNat_of_zero_le ha
  obtain ⟨e, rfl⟩ := Int.eq_ofNat_of_zero_le he
  obtain ⟨m, rfl⟩ := Int.eq_ofNat_of_zero_le (show 0 ≤ m by omega)
  exact pow3 (by omega) h
end
theorem powMod_lt (b e m : Nat) (hm : 0 < m) : Builtin.powMod b e m < m := by
  unfold Builtin.powMod
  have all : ∀ (l : List Nat) (p : Nat), p < m → l.foldl (fun p i => if e.testBit i then p * p % m * b % m else p * p % m) p < m := by
    intro l
    induction l with
    | nil => intro p hp; exact hp
    | cons i r ih =>
      intro p _
      rw [List.foldl_cons]
      refine ih _ ?_
      split <;> exact Nat.mod_lt _ hm
  exact all _ _ (Nat.mod_lt _ hm)
end BP
/-- the field's prime -/
abbrev pP : Nat := 115792089237316195423570985008687907853269984665640564039457584007908834671663
/-- the root at x, if there is one -/
@[irreducible] def root (x : Nat) : Nat := Builtin.powMod ((x * x * x + 7) % pP) 28948022309329048855892746252171976963317496166410141009864396001977208667916 pP
def onC (x : Nat) : Prop := x < pP ∧ root x * root x % pP = (x * x * x + 7) % pP
instance (x : Nat) : Decidable (onC x) := inferInstanceAs (Decidable (_ ∧ _))
def evenY (x : Nat) : Nat := if root x % 2 = 0 then root x else pP - root x
theorem root_lt (x : Nat) : root x < pP := by
  unfold root
  exact BP.powMod_lt _ _ _ (by decide)
def pts : List (Nat × Nat) := [(1, 29896722852569046015560700294576055776214335159245303116488692907525646231534), (2, 69211104694897500952317515077652022726490027694212560352756646854116994689233), (3, 94471189679404635060807731153122836805497974241028285133722790318709222555876), (43695595240774383441671015625, 88030629451834923122693113696628204480685518282548049798389582082561280054133), (118856401143447268038196570232967281236850220365326241014225905020723, 19972137572381168744426543098124417496492957017668028717352264677526889455681), (2030762022846968849690503250558058874215914970377210671572936773517312, 44061634940810458226908550570514118774546734343832934819482004936681328168040), (15213495527460412436584924592962385803826532870835621747064839049408629, 79919369602682965737423274614382043253235562363059511229630663338962797641692), (115792089237316195423570985008687907853269984665640564039457584007908834671660, 6603225675942137755722016048183769717410321709583529039474051610042430502525)]
theorem pts_on : ∀ q ∈ pts, q.1 < pP ∧ q.2 < pP ∧ 0 < q.2 ∧ onC q.1 ∧ (q.2 = evenY q.1 ∨ q.2 = pP - evenY q.1) ∧ 2 * q.2 + 1 ≠ pP ∧ 2 * (pP - q.2) + 1 ≠ pP ∧ q.2 + 1 ≠ pP := by decide +kernel
theorem zero_off : ¬ onC 0 := by decide +kernel
end Mine
end
-- FK
section
open PySem PySem.W PyProof.Rows PySem.Calls PySem.Spec
set_option Elab.async false
set_option maxRecDepth 100000
namespace Mine
/-! what a tree without calls leaves alone: the third field of a record -/
def FieldKept (f : Obj → Obj) : Prop := ∀ o vs, o.data = .fields vs → vs[2]? = some .none → ∃ vs', (f o).data = .fields vs' ∧ vs'[2]? = some .none
def KeepT {α : Type} : Sem α → Prop
  | .pure _ => True
  | .raise _ => True
  | .unsupported _ => True
  | .finish _ => True
  | .rule _ k => KeepT (k ())
  | .at _ k => KeepT (k ())
  | .load _ _ k => ∀ o, KeepT (k o)
  | .update _ _ f k => FieldKept f ∧ KeepT (k ())
  | .alloc _ k => ∀ a, KeepT (k a)
  | .loadIfAlive _ k => ∀ o, KeepT (k o)
  | .point _ k => KeepT (k ())
  | .register _ k => KeepT (k ())
  | .fresh k => ∀ t, KeepT (k t)
  | .ask k => ∀ x, KeepT (k x)
  | .choose _ _ k => ∀ n, KeepT (k n)
  | .os _ _ k => ∀ r, KeepT (k r)
  | .call .. => False
  | .handled _ k => ∀ v, KeepT (k v)
  | .newGen _ k => ∀ n, KeepT (k n)
  | .genState _ k => ∀ g, KeepT (k g)
  | .resume .. => False
  | .yield .. => False
  | .stack k => ∀ l, KeepT (k l)
  | .fork .. => False
  | .thread k => ∀ n, KeepT (k n)
  | .await .. => False
theorem keep_bind {α β : Type} {t : Sem α} {f : α → Sem β} (h : KeepT t) (hf : ∀ a, KeepT (f a)) : KeepT (t >>= f) := by
  show KeepT (Sem.bind t f)
  induction t <;> simp only [Sem.bind, KeepT] at h ⊢ <;> first | exact hf _ | exact h.elim | trivial | (rename_i ih; first | exact ih _ h | exact fun x => ih x (h x) | exact ⟨h.1, ih _ h.2⟩)
theorem keep_pure {α : Type} {a : α} : KeepT (pure a : Sem α) := trivial
theorem keep_unsup {α : Type} {w : String} : KeepT (unsupported w : Sem α) := trivial
/-- the third field of the record at e holds None -/
def Ctx0 (e : Addr) (h : Heap) : Prop := ∃ o vs, h.get? e = some o ∧ o.data = .fields vs ∧ vs[2]? = some .none
theorem Ctx0.push {e : Addr} {h : Heap} (x : Ctx0 e h) (o : Obj) : Ctx0 e (h.push o) := by
  obtain ⟨o1, vs, a, b, c⟩ := x
  exact ⟨o1, vs, Heap.get?_push_of_some _ a, b, c⟩
theorem Ctx0.update {e a : Addr} {h : Heap} {f : Obj → Obj} (x : Ctx0 e h) (k : FieldKept f) : Ctx0 e (h.update a f) := by
  obtain ⟨o1, vs, a1, b, c⟩ := x
  by_cases q : a = e
  · subst q
    obtain ⟨vs', d1, d2⟩ := k o1 vs b c
    exact ⟨_, vs', Heap.get?_update_self _ a1 (Obj.isFreed_of_fields d1), d1, d2⟩
  · exact ⟨o1, vs, by rw [Heap.get?_update_other _ _ q]; exact a1, b, c⟩
theorem wp_keep {M : Model} {Γ : PySem.Ctx} {e : Addr} {α : Type} (t : Sem α) {Q : α → Pos → Shared → Prop} {E : Value → Pos → Shared → Prop} {p : Pos} {s : Shared} (h : KeepT t) (c : Ctx0 e s.heap) (w : Sem.wp M Γ t Q E p s) :
    Sem.wp M Γ t (fun a p s => Q a p s ∧ Ctx0 e s.heap) (fun a p s => E a p s ∧ Ctx0 e s.heap) p s := by
  induction t generalizing p s with
  | pure a => rw [Sem.wp] at w ⊢; exact ⟨w, c⟩
  | raise a => rw [Sem.wp] at w ⊢; exact ⟨w, c⟩
  | unsupported a => rw [Sem.wp] at w; exact w.elim
  | finish a => rw [Sem.wp] at w; exact w.elim
  | rule _ k ih => rw [Sem.wp] at w ⊢; exact ih _ h c w
  | «at» _ k ih => rw [Sem.wp] at w ⊢; exact ih _ h c w
  | load _ _ k ih => rw [Sem.wp] at w ⊢; obtain ⟨o, ho, w⟩ := w; exact ⟨o, ho, ih _ (h o) c w⟩
  | update _ _ f k ih => rw [Sem.wp] at w ⊢; exact ⟨w.1, ih _ h.2 (c.update h.1) w.2⟩
  | alloc o k ih => rw [Sem.wp] at w ⊢; exact ih _ (h _) (c.push o) w
  | loadIfAlive _ k ih => rw [Sem.wp] at w ⊢; exact ih _ (h _) c w
  | point _ k ih => rw [Sem.wp] at w ⊢; exact ih _ h c w
  | register _ k ih => rw [Sem.wp] at w; exact w.elim
  | fresh k ih => rw [Sem.wp] at w ⊢; exact ih _ (h _) c w
  | ask k ih => rw [Sem.wp] at w ⊢; exact ih _ (h _) c w
  | choose _ _ k ih => rw [Sem.wp] at w ⊢; exact ⟨w.1, ih _ (h _) c w.2⟩
  | os _ _ k ih => rw [Sem.wp] at w ⊢; exact ih _ (h _) c w
  | call _ _ _ _ k ih => exact h.elim
  | handled _ k ih => rw [Sem.wp] at w ⊢; exact ih _ (h _) c w
  | newGen _ k ih => rw [Sem.wp] at w ⊢; exact ih _ (h _) c w
  | genState _ k ih => rw [Sem.wp] at w ⊢; obtain ⟨o, ho, w⟩ := w; exact ⟨o, ho, ih _ (h _) c w⟩
  | resume _ _ _ k ih => exact h.elim
  | yield _ _ _ k ih => exact h.elim
  | stack k ih => rw [Sem.wp] at w ⊢; exact ih _ (h _) c w
  | fork _ k ih => exact h.elim
  | thread k ih => rw [Sem.wp] at w ⊢; exact ih _ (h _) c w
  | await _ _ _ _ k ih => exact h.elim
theorem wpAny_keep {M : Model} {A : Around} {E : Value → Shared → Prop} {s : Shared} {e : Addr} {α : Type} {t : Sem α} {Q : α → Shared → Prop} (h : KeepT t) (c : Ctx0 e s.heap) (w : wpAny M A t Q E s) :
    wpAny M A t (fun a s => Q a s ∧ Ctx0 e s.heap) (fun a s => E a s ∧ Ctx0 e s.heap) s := fun Γ p hΓ => wp_keep t h c (w Γ p hΓ)
theorem fk_set {i : Nat} {v : Value} (hi : i ≠ 2) : FieldKept (Obj.mapFields (·.setIfInBounds i v)) := fun o vs hd hv => ⟨_, Obj.data_mapFields hd _, by rw [Array.getElem?_setIfInBounds_ne hi]; exact hv⟩
theorem keep_field {v : Value} {i : Nat} : KeepT (field v i) := by
  unfold field fieldsOf
  refine keep_bind ?_ fun vs => ?_
  · split
    · refine keep_bind (fun o => trivial) fun o => ?_
      split <;> trivial
    · trivial
  · split <;> trivial
theorem keep_setField {v x : Value} {i : Nat} (hi : i ≠ 2) : KeepT (setField v i x) := by
  unfold setField
  split
  · unfold updateField
    refine keep_bind (fun o => trivial) fun o => ?_
    split
    · split
      · exact ⟨fk_set hi, trivial⟩
      · trivial
    · trivial
  · trivial
theorem keep_setFlight {v : Value} {f : Option Addr} : KeepT (setFlight v f) := by
  unfold setFlight
  refine keep_bind keep_field fun tb => ?_
  split
  · exact keep_setField (by decide)
  · trivial
theorem keep_ready : ∀ l : List Env, KeepT (readyFrames l)
  | [] => trivial
  | env :: outer => by
    unfold readyFrames
    split
    · refine keep_bind (fun o => trivial) fun o => ?_
      split
      · trivial
      · refine keep_bind ?_ fun b => keep_bind ?_ fun v => ⟨fun o vs hd hv => ⟨vs, hd, hv⟩, keep_ready outer⟩
        · unfold behindIsImport
          split
          · trivial
          · split
            · trivial
            · exact keep_bind keep_field fun _ => trivial
        · unfold keptBack
          split
          · split
            · trivial
            · exact keep_bind (keep_bind (fun _ => trivial) fun _ => trivial) fun _ => trivial
          · trivial
    · trivial
theorem keep_frameOf {env : Env} : KeepT (frameOf env) := by
  unfold PySem.frameOf
  refine keep_bind (keep_bind (fun _ => trivial) fun _ => trivial) fun l => ?_
  refine keep_bind ?_ fun o => by split <;> trivial
  unfold frameObject
  split
  · trivial
  · exact keep_bind (keep_ready _) fun _ => trivial
theorem keep_newObj {T : String} {d : Data} {q : Option Addr} : KeepT (newObj (.type T) d q) := by
  have step : KeepT (newObjAsIs (.type T) d q) := by
    unfold newObjAsIs
    exact keep_bind (fun _ => trivial) fun _ => trivial
  unfold newObj
  split <;> (try split) <;> (try split) <;> first | exact step | trivial | exact keep_bind trivial fun _ => step
theorem keep_note {v : Value} {env : Env} : KeepT (noteFrame v env) := by
  unfold PySem.noteFrame
  split
  · refine keep_bind keep_field fun head => ?_
    have tail : KeepT (do setField v 1 (← EntryCells.newEntry head (← frameOf env) .none (rawInt ‹Addr›) .none (← entryPlaceOf ‹Addr› (head != .none)))) := by
      refine keep_bind keep_frameOf fun fr => keep_bind ?_ fun pl => keep_bind ?_ fun te => keep_setField (by decide)
      · unfold entryPlaceOf
        refine keep_bind (fun _ => trivial) fun acts => ?_
        split <;> trivial
      · unfold EntryCells.newEntry newFields
        exact keep_newObj
    split
    · refine keep_bind keep_field fun x => ?_
      split
      · trivial
      · exact keep_bind (keep_setField (by decide)) fun _ => tail
    · exact tail
  · trivial
theorem keep_leaving {v : Value} {env : Env} : KeepT (leaving env v) := by
  unfold leaving
  exact keep_bind keep_note fun _ => keep_setFlight
end Mine
end
-- Lay
section
open PySem PySem.W PyProof.Rows PySem.Calls PySem.Spec
set_option Elab.async false
set_option maxRecDepth 100000
namespace Mine

structure Wd where
  prog : Program
  w : World
  p : Program
  loose : List PySem.Str
  mean : ExcName → Option Value
  mg : PySem.Str → Option Value
  mb : PySem.Str → Option Value

def Base (W : Wd) (base : Heap) : Prop := (Mine.hd.heap_1_1 W.w.params).In base ∧ Top W.p W.loose W.mean W.mg W.mb base

abbrev fr (l : List Env) : List Addr := l.filterMap (·.frame)

def Same (fs : List Addr) (h h' : Heap) : Prop :=
  (∀ b o, h.get? b = some o → b ∉ fs → h'.get? b = some o) ∧ ∀ b o, h.get? b = some o → b ∈ fs → ∃ sl, h'.get? b = some { o with slots := sl }
theorem Same.of_keeps {fs : List Addr} {h h' : Heap} (k : ∀ b o, h.get? b = some o → h'.get? b = some o) : Same fs h h' := ⟨fun b o e _ => k b o e, fun b o e _ => ⟨o.slots, k b o e⟩⟩
theorem Same.up {fs : List Addr} {h h' : Heap} (x : Same fs h h') {b : Addr} {o : Obj} (e : h.get? b = some o) : ∃ sl, h'.get? b = some { o with slots := sl } := by
  by_cases m : b ∈ fs
  · exact x.2 b o e m
  · exact ⟨o.slots, x.1 b o e m⟩
theorem Same.trans {fs : List Addr} {h₁ h₂ h₃ : Heap} (x : Same fs h₁ h₂) (y : Same fs h₂ h₃) : Same fs h₁ h₃ :=
  ⟨fun b o e m => y.1 b o (x.1 b o e m) m, fun b o e m => by
    obtain ⟨s1, h1⟩ := x.2 b o e m
    obtain ⟨s2, h2⟩ := y.2 b _ h1 m
    exact ⟨s2, h2⟩⟩
theorem Same.of_turn {fs : List Addr} {g g' h : Heap} (T : KtsTurn fs g g') (k : ∀ b o, g'.get? b = some o → h.get? b = some o) : Same fs g h :=
  ⟨fun b o e m => k b o (T.other b o e m), fun b o e m => by
    obtain ⟨sl, hs⟩ := T.frame b o e m
    exact ⟨sl, k _ _ hs⟩⟩

structure Site (base : Heap) (l : List Env) (h : Heap) : Prop where
  stays : base.StaysIn h
  frames : h.FunFrames base l
  dicts : KtsDicts (fr l) h

abbrev LV (d u : Nat) (l : List Env) : Around := { handled := none, depth := d, frames := some l, guards := none, units := u }

theorem code_le {M : Model} {A A' : Around} {c : Code} {R : Result → Shared → Prop} {s : Shared} (hh : A.handled = A'.handled) (hd : A.depth ≤ A'.depth) (hf : A'.frames = A.frames) (hg : A'.guards = none) (hu : A.units ≤ A'.units)
    (h : codeAny M A' c R s) : codeAny M A c R s := fun Γ p hc b => by
  obtain ⟨b1, b2, b3, b4, b5⟩ := b
  refine h Γ p hc ⟨b1.trans hh, Nat.le_trans b2 hd, fun l hl => b3 l (hf ▸ hl), fun g hg' => ?_, Nat.le_trans b5 hu⟩
  rw [hg] at hg'
  cases hg'

def Flew (l : List Env) (h : Heap) (e : Addr) (C a0 : Value) (h' : Heap) : Prop := Same (fr l) h h' ∧ Heap.FlyingW (hideAll h (fr l)) l e C a0 h'

def Spec0 (W : Wd) (d u : Nat) (f : Addr) (args : Args) (P : Value → Prop) (X : Value → Prop) : Prop :=
  ∀ (base : Heap) (l : List Env) (s : Shared) (R : Result → Shared → Prop), Base W base → Site base l s.heap →
    (∀ v h' tk', P v → (∀ b o, s.heap.get? b = some o → h'.get? b = some o) → R (.ok (.ret v)) { s with heap := h', toks := tk' }) →
    (∀ e C a0 h' tk', X C → Flew l s.heap e C a0 h' → R (.error (.ref e)) { s with heap := h', toks := tk' }) →
    codeAny (model W.prog W.w) (LV d u l) (.call (.ref f) args) R s

/-- as Spec0, but the callers' frames may have turned -/
def SpecC (W : Wd) (d u : Nat) (f : Addr) (args : Args) (P : Value → Prop) (X : Value → Prop) : Prop :=
  ∀ (base : Heap) (l : List Env) (s : Shared) (R : Result → Shared → Prop), Base W base → Site base l s.heap →
    (∀ v h' tk', P v → Same (fr l) s.heap h' → R (.ok (.ret v)) { s with heap := h', toks := tk' }) →
    (∀ e C a0 h' tk', X C → Flew l s.heap e C a0 h' → R (.error (.ref e)) { s with heap := h', toks := tk' }) →
    codeAny (model W.prog W.w) (LV d u l) (.call (.ref f) args) R s

theorem fly_anti {B B' h : Heap} {l : List Env} {e : Addr} {C a0 : Value} (k : B.StaysIn B') (x : Heap.FlyingW B' l e C a0 h) : Heap.FlyingW B l e C a0 h := by
  have nn : ∀ b, B'.get? b = none → B.get? b = none := fun b hb => by
    cases q : B.get? b with
    | none => rfl
    | some o => have := k b o q; rw [hb] at this; cases this
  obtain ⟨x1, x2, x3, oe, vs, T, oT, ts, he, hc, hd, h1, hT, r⟩ := x
  refine ⟨fun b o e => x1 b o (k b o e), nn _ x2, ?_, oe, vs, T, oT, ts, he, hc, hd, h1, nn _ hT, r⟩
  clear hc h1
  induction l with
  | nil => trivial
  | cons env rest ih =>
    obtain ⟨a, ⟨L, o, hf, hn, ho, hd⟩, b⟩ := x3
    exact ⟨a, ⟨L, o, hf, nn _ hn, ho, hd⟩, ih b⟩

section
variable {W : Wd} {d u : Nat} {l : List Env} {base : Heap} {s : Shared} {R : Result → Shared → Prop}
theorem enter0 {name qual : PySem.Str} {params : Arguments} {body : List Stmt} {scope : Scope} {dV kV doc pm cdv ct oc : Value} {an od : Option Addr} {osl : Array (Option Value)} {f : Addr} {args : Args} {binds : List (PySem.Str × Value)}
    (HB : Base W base) (S : Site base l s.heap)
    (ho : (Mine.hd.heap_1_1 W.w.params).lookup f = some ⟨oc, od, .func (fnOf name qual params body scope dV kV doc pm an cdv ct), osl⟩) (hcd : codeIn (Mine.hd.heap_1_1 W.w.params) cdv qual = true)
    (hd : d < recursionLimit) (hbind : BindsTo s (fnOf name qual params body scope dV kV doc pm an cdv ct) args binds) (hloc : ∀ y ∈ binds, scope.names.lookup y.1 = some .local)
    (h : ∀ g L h₁ tk, g = s.heap → Fr g L h₁ (fun y => binds.reverse.lookup y) → News g L h₁ [] → Below (LV d u l) base l g → (Mine.hd.heap_1_1 W.w.params).In g → Top W.p W.loose W.mean W.mg W.mb g → KtsDicts (fr l) g →
      wpAny (model W.prog W.w) ((LV d u l).deeper (envOf qual scope L f cdv)) (execs body (envOf qual scope L f cdv))
        (fun fl s' => R (.ok (.ret (match fl with | .ret v => v | _ => .none))) s')
        (fun e s' => wpAny (model W.prog W.w) ((LV d u l).deeper (envOf qual scope L f cdv)) (leaving (envOf qual scope L f cdv) e) (fun _ s'' => R (.error e) s'') (fun e' s'' => R (.error e') s'') s')
        { s with heap := h₁, toks := tk })
    (hco : scope.isCoroutine = false) (hgen : scope.isGenerator = false) (hk : scope.kind = .function)
    (hcell : ∀ x ∈ scope.names, x.2 ≠ .cell) : codeAny (model W.prog W.w) (LV d u l) (.call (.ref f) args) R s := by
  have X := HB.1.keeps S.stays
  have T := HB.2.keeps S.stays
  refine codeAny_call_def (fd := fnOf name qual params body scope dV kV doc pm an cdv ct) (body := body) (binds := binds) hd (X _ _ ho) rfl T.nolimit (codeRec_of X hcd) rfl hbind hcell hloc (fun h₁ hns hk₁ => ?_) hco hgen hk
  exact h _ _ h₁ _ rfl ⟨hns, hk₁, Nat.le_refl _⟩ News.nil ⟨rfl, S.stays, S.frames⟩ X T S.dicts
end

section
variable {W : Wd} {d u : Nat} {l : List Env} {base g g₀ : Heap} {A A₀ : Around} {E : Value → Shared → Prop} {s : Shared} {L : Addr} {m : PySem.Str → Option Value} {news : List (Addr × Obj)} {env : Env} {f : Addr} {vs : List Value} {kw : List (PySem.Str × Value)} {P X : Value → Prop} {Q : Value → Shared → Prop}

theorem site_of (B : Below A₀ base l g) (D : KtsDicts (fr l) g) (F : Fr g L s.heap m) (hf : env.frame = some L) (hk : env.scope.kind = .function) : Site base (env :: l) s.heap := by
  have hnew : base.get? L = none := by
    cases hq : base.get? L with
    | none => rfl
    | some o => exact absurd (Nat.lt_of_lt_of_le (Heap.lt_size (B.stays L o hq)) F.above) (Nat.lt_irrefl _)
  refine ⟨fun b o e => F.keep b o (B.stays b o e), .cons (by rw [hk]; decide) hf F.ns hnew (B.frames.of_keeps fun b o e _ => ⟨o, F.keep b o e, rfl⟩), fun b hb => ?_⟩
  rw [fr, List.filterMap_cons, hf] at hb
  rcases List.mem_cons.mp hb with e | hb
  · subst e
    obtain ⟨o, es, ep, ho, hd, _⟩ := F.ns
    exact ⟨o, es, ep, ho, hd⟩
  · obtain ⟨o, es, n, ho, hd⟩ := D b hb
    exact ⟨o, es, n, F.keep _ _ ho, hd⟩

theorem use0 (C : Spec0 W d u f ⟨vs, kw⟩ P X) (HB : Base W base) (B : Below A₀ base l g) (D : KtsDicts (fr l) g) (F : Fr g L s.heap m) (N : News g L s.heap news) (hA : A.frames = some (env :: l)) (hf : env.frame = some L) (hk : env.scope.kind = .function)
    (hh : A.handled = none) (hdp : A.depth ≤ d) (hun : A.units ≤ u)
    (hret : ∀ v h' tk', P v → Fr g L h' m → News g L h' news → Q v { s with heap := h', toks := tk' })
    (hraise : ∀ e C a0 h' tk', X C → Flew (env :: l) s.heap e C a0 h' → E (.ref e) { s with heap := h', toks := tk' }) :
    wpAny (model W.prog W.w) A (call (.ref f) vs kw) Q E s := by
  refine wpAny_call (code_le hh hdp hA.symm rfl hun (C base (env :: l) s _ HB (site_of B D F hf hk) (fun v h' tk' hp k => ?_) fun e C a0 h' tk' hx fl => hraise e C a0 h' tk' hx fl))
  exact hret v h' tk' hp (F.keeps k) fun q hq => ⟨k _ _ (N q hq).1, (N q hq).2⟩

theorem use0n (C : Spec0 W d u f ⟨vs, kw⟩ P (fun _ => False)) (HB : Base W base) (B : Below A₀ base l g) (D : KtsDicts (fr l) g) (F : Fr g L s.heap m) (N : News g L s.heap news) (hA : A.frames = some (env :: l)) (hf : env.frame = some L) (hk : env.scope.kind = .function)
    (hh : A.handled = none) (hdp : A.depth ≤ d) (hun : A.units ≤ u)
    (hret : ∀ v h' tk', P v → Fr g L h' m → News g L h' news → Q v { s with heap := h', toks := tk' }) :
    wpAny (model W.prog W.w) A (call (.ref f) vs kw) Q E s := use0 C HB B D F N hA hf hk hh hdp hun hret fun _ _ _ _ _ x => x.elim

theorem fr_cons (hf : env.frame = some L) : fr (env :: l) = L :: fr l := by
  rw [fr, List.filterMap_cons, hf]

/-- the ground behind a turn of the callers' frames -/
theorem turned (B : Below A₀ base l g) (D : KtsDicts (fr l) g) {h h' : Heap} (F : Fr g L h m) (N : News g L h news) (T : KtsTurn (fr l) g₀ g) (hf : env.frame = some L) (S : Same (fr (env :: l)) h h') :
    ∃ g', KtsTurn (fr l) g₀ g' ∧ Fr g' L h' m ∧ News g' L h' news ∧ Below A₀ base l g' ∧ KtsDicts (fr l) g' ∧ g.UpToSlots g' := by
  rw [fr_cons hf] at S
  have nL : g.get? L = none := kts_self F
  have nfr : ∀ b, b ∈ fr l → g.get? b ≠ none := fun b hb q => by
    obtain ⟨o, es, n, ho, _⟩ := D b hb
    rw [ho] at q; cases q
  obtain ⟨T1, K1⟩ := kts_turn_at (h := h') (fs := fr l) (g := g)
    (fun b hb => by obtain ⟨o, es, n, ho, _⟩ := D b hb; exact ⟨o, ho⟩)
    (fun b o e nm => S.1 b o (F.keep b o e) (fun hm => by
      rcases List.mem_cons.mp hm with z | z
      · rw [z, nL] at e; cases e
      · exact nm z))
    (fun b o e hm => S.2 b o (F.keep b o e) (List.mem_cons_of_mem _ hm))
  refine ⟨_, T.trans T1, ⟨?_, K1, by rw [T1.size]; exact F.above⟩, fun q hq => ?_, ⟨B.stack, fun b o e => T1.other b o (B.stays b o e) (fun hm => by rw [(B.frames.mem hm).1] at e; cases e), B.frames.of_keeps fun b o e _ => ?_⟩, D.turn T1, fun b o e _ => T1.up e⟩
  · obtain ⟨oL, es, ep, hL, hLd, r⟩ := F.ns
    obtain ⟨sl, hs⟩ := S.2 L oL hL (List.mem_cons_self ..)
    exact ⟨_, es, ep, hs, hLd, r⟩
  · obtain ⟨n1, n2, n3⟩ := N q hq
    refine ⟨S.1 _ _ n1 fun hm => ?_, n2, T1.none_ _ n3⟩
    rcases List.mem_cons.mp hm with z | z
    · exact n2 z
    · exact nfr _ z n3
  · obtain ⟨sl, hs⟩ := T1.up e
    exact ⟨_, hs, rfl⟩

theorem useC (C : SpecC W d u f ⟨vs, kw⟩ P X) (HB : Base W base) (B : Below A₀ base l g) (D : KtsDicts (fr l) g) (F : Fr g L s.heap m) (N : News g L s.heap news) (T : KtsTurn (fr l) g₀ g) (hA : A.frames = some (env :: l)) (hf : env.frame = some L) (hk : env.scope.kind = .function)
    (hh : A.handled = none) (hdp : A.depth ≤ d) (hun : A.units ≤ u)
    (hret : ∀ v h' tk' g', P v → KtsTurn (fr l) g₀ g' → Fr g' L h' m → News g' L h' news → Below A₀ base l g' → (Mine.hd.heap_1_1 W.w.params).In g' → Top W.p W.loose W.mean W.mg W.mb g' → KtsDicts (fr l) g' → Q v { s with heap := h', toks := tk' })
    (hraise : ∀ e C a0 h' tk', X C → Flew (env :: l) s.heap e C a0 h' → E (.ref e) { s with heap := h', toks := tk' }) :
    wpAny (model W.prog W.w) A (call (.ref f) vs kw) Q E s := by
  refine wpAny_call (code_le hh hdp hA.symm rfl hun (C base (env :: l) s _ HB (site_of B D F hf hk) (fun v h' tk' hp k => ?_) fun e C a0 h' tk' hx fl => hraise e C a0 h' tk' hx fl))
  obtain ⟨g', T', F', N', B', D', _⟩ := turned B D F N T hf k
  exact hret v h' tk' g' hp T' F' N' B' (HB.1.keeps B'.stays) (HB.2.keeps B'.stays) D'

/-- an exception of a callee's leaves this frame -/
theorem leave_on {h : Heap} {e : Addr} {C a0 : Value} {Q : Unit → Shared → Prop} (D : KtsDicts (fr l) g) (F : Fr g L h m) (T : KtsTurn (fr l) g₀ g) (fl : Flew (env :: l) h e C a0 s.heap) (hA : A.frames = some (env :: l)) (hf : env.frame = some L)
    (hQ : ∀ h', Flew l g₀ e C a0 h' → Q () { s with heap := h' }) : wpAny (model W.prog W.w) A (leaving env (.ref e)) Q E s := by
  obtain ⟨S, fly⟩ := fl
  rw [fr_cons hf] at S fly
  have nL : g.get? L = none := kts_self F
  refine wpAny_leaves_onW hA hf fly fun h' fly' up => hQ h' ?_
  have st : (hideAll g₀ (fr l)).StaysIn (hideAll h (L :: fr l)) := fun b o q => by
    have nm : b ∉ fr l := fun hm => by rw [hideAll_none _ hm] at q; cases q
    have e1 := T.other b o (of_hideAll _ q) nm
    exact hideAll_get _ (F.keep b o e1) fun hm => by
      rcases List.mem_cons.mp hm with z | z
      · rw [z, nL] at e1; cases e1
      · exact nm z
  have fly2 := fly_anti st fly'
  refine ⟨⟨fun b o q nm => fly2.1 b o (hideAll_get _ q nm), fun b o q hm => ?_⟩, fly2⟩
  obtain ⟨s1, h1⟩ := T.frame b o q hm
  obtain ⟨s2, h2⟩ := S.2 b _ (F.keep _ _ h1) (List.mem_cons_of_mem _ hm)
  obtain ⟨od, es, n, hd1, hd2⟩ := D b hm
  rw [h1] at hd1
  cases hd1
  obtain ⟨s3, h3⟩ := up b _ h2 (fun vs z => by rw [show ({ o with slots := s1 } : Obj).data = o.data from rfl] at hd2; rw [show ({ ({ o with slots := s1 } : Obj) with slots := s2 } : Obj).data = o.data from rfl, hd2] at z; cases z)
  exact ⟨s3, h3⟩

/-- an exception made in this frame leaves it -/
theorem leave_made {h : Heap} {e : Addr} {C : Value} {as : List Value} {Q : Unit → Shared → Prop} (B : Below A₀ base l g) (D : KtsDicts (fr l) g) (F : Fr g L h m) (T : KtsTurn (fr l) g₀ g) (hx : Heap.MadeExcOf h s.heap e C as) (hA : A.frames = some (env :: l)) (hf : env.frame = some L) (hk : env.scope.kind = .function)
    (hQ : ∀ h' t, Flew l g₀ e C (.ref t) h' → Q () { s with heap := h' }) : wpAny (model W.prog W.w) A (leaving env (.ref e)) Q E s := by
  have nL : g.get? L = none := kts_self F
  have hid : ∀ b, (hideAll h (L :: fr l)).get? b ≠ none → b ∉ L :: fr l := fun b q hm => q (hideAll_none _ hm)
  have ff : h.FunFrames (hideAll h (L :: fr l)) (env :: l) := by
    have all : ∀ (k : List Env), (∀ x ∈ fr k, x ∈ L :: fr l) → h.FunFrames base k → h.FunFrames (hideAll h (L :: fr l)) k := by
      intro k
      induction k with
      | nil => intro _ _; trivial
      | cons e1 r ih =>
        intro hm ⟨a, ⟨L1, o, hf1, _, ho, hd⟩, b⟩
        refine ⟨a, ⟨L1, o, hf1, hideAll_none _ (hm L1 (by rw [fr, List.filterMap_cons, hf1]; exact List.mem_cons_self ..)), ho, hd⟩, ih (fun x hx => hm x ?_) b⟩
        rw [fr, List.filterMap_cons, hf1]
        exact List.mem_cons_of_mem _ hx
    have S := site_of (s := { s with heap := h }) B D F hf hk
    exact all _ (fun x hx => by rw [fr_cons hf] at hx; exact hx) S.frames
  refine wpAny_leaves_madeW (base := hideAll h (L :: fr l)) hA hf (fun b o q => of_hideAll _ q) ff hx fun h' t fly' _ _ up => hQ h' t ?_
  have st : (hideAll g₀ (fr l)).StaysIn (hideAll h (L :: fr l)) := fun b o q => by
    have nm : b ∉ fr l := fun hm => by rw [hideAll_none _ hm] at q; cases q
    have e1 := T.other b o (of_hideAll _ q) nm
    exact hideAll_get _ (F.keep b o e1) fun hm => by
      rcases List.mem_cons.mp hm with z | z
      · rw [z, nL] at e1; cases e1
      · exact nm z
  have fly2 := fly_anti st fly'
  refine ⟨⟨fun b o q nm => fly2.1 b o (hideAll_get _ q nm), fun b o q hm => ?_⟩, fly2⟩
  obtain ⟨s1, h1⟩ := T.frame b o q hm
  have h2 := hx.keeps _ _ (F.keep _ _ h1)
  obtain ⟨od, es, n, hd1, hd2⟩ := D b hm
  rw [h1] at hd1
  cases hd1
  obtain ⟨s3, h3⟩ := up b _ h2 (fun vs z => by rw [show ({ o with slots := s1 } : Obj).data = o.data from rfl] at hd2 z; rw [hd2] at z; cases z)
  exact ⟨s3, h3⟩
end
end Mine
end
-- Lay2
section
open PySem PySem.W PyProof.Rows PySem.Calls PySem.Spec
set_option Elab.async false
set_option maxRecDepth 100000
namespace Mine

structure IoT where
  t1 : Tok
  t2 : Tok
  t3 : Tok

  c : Nat
abbrev ioDict (w : World) (B : Addr) (p : Int) (k : IoT) : Obj :=
  dictOf [⟨PyData.keyHash w.params (PySem.Str.ofString "_BytesIO__buf"), .str (PySem.Str.ofString "_BytesIO__buf") k.t1, .ref B⟩, ⟨PyData.keyHash w.params (PySem.Str.ofString "_BytesIO__pos"), .str (PySem.Str.ofString "_BytesIO__pos") k.t2, .int p k.t3⟩] 2
abbrev ioBuf (b : List UInt8) (k : IoT) : Obj := { cls := .type "bytearray", data := .bytearray b.toArray k.c }
abbrev ioN (w : World) (io D B : Addr) (b : List UInt8) (p : Int) (k : IoT) : List (Addr × Obj) := [(io, instObj 367 D), (D, ioDict w B p k), (B, ioBuf b k)]

def SpecIO (W : Wd) (d u : Nat) (f : Addr) (args : Args) (io D B : Addr) (b : List UInt8) (p : Int) (k : IoT) (P : Value → Int → Prop) (X : Value → Prop) : Prop :=
  ∀ (base : Heap) (l : List Env) (s : Shared) (R : Result → Shared → Prop), Base W base → Site base l s.heap →
    (∀ q ∈ ioN W.w io D B b p k, s.heap.get? q.1 = some q.2 ∧ base.get? q.1 = none ∧ q.1 ∉ fr l) → @LT.lt Nat _ D io → @LT.lt Nat _ io B →
    (∀ v h' tk' p' k', P v p' → (∀ x o, x ≠ D → s.heap.get? x = some o → h'.get? x = some o) → h'.get? D = some (ioDict W.w B p' k') → k'.c = k.c → R (.ok (.ret v)) { s with heap := h', toks := tk' }) →
    (∀ e C a0 h' tk', X C → Flew l (hideAll s.heap [io, D, B]) e C a0 h' → R (.error (.ref e)) { s with heap := h', toks := tk' }) →
    codeAny (model W.prog W.w) (LV d u l) (.call (.ref f) args) R s

theorem funFrames_hide {base h : Heap} {hs : List Addr} {l : List Env} (x : h.FunFrames base l) (no : ∀ a ∈ hs, a ∉ fr l) : (hideAll h hs).FunFrames base l := by
  induction l with
  | nil => trivial
  | cons e r ih =>
    obtain ⟨a, ⟨L1, o, hf, hn, ho, hd⟩, b⟩ := x
    refine ⟨a, ⟨L1, o, hf, hn, hideAll_get _ ho fun hm => no _ hm ?_, hd⟩, ih b fun c hc hm => no c hc ?_⟩
    · rw [fr, List.filterMap_cons, hf]; exact List.mem_cons_self ..
    · rw [fr, List.filterMap_cons, hf]; exact List.mem_cons_of_mem _ hm
section
variable {W : Wd} {d u : Nat} {l : List Env} {base : Heap} {s : Shared} {R : Result → Shared → Prop} {io D B : Addr} {b : List UInt8} {p : Int} {k : IoT}
theorem enterIO {name qual : PySem.Str} {params : Arguments} {body : List Stmt} {scope : Scope} {dV kV doc pm cdv ct oc : Value} {an od : Option Addr} {osl : Array (Option Value)} {f : Addr} {args : Args} {binds : List (PySem.Str × Value)}
    (HB : Base W base) (S : Site base l s.heap) (hio : ∀ q ∈ ioN W.w io D B b p k, s.heap.get? q.1 = some q.2 ∧ base.get? q.1 = none ∧ q.1 ∉ fr l)
    (ho : (Mine.hd.heap_1_1 W.w.params).lookup f = some ⟨oc, od, .func (fnOf name qual params body scope dV kV doc pm an cdv ct), osl⟩) (hcd : codeIn (Mine.hd.heap_1_1 W.w.params) cdv qual = true)
    (hd : d < recursionLimit) (hbind : BindsTo s (fnOf name qual params body scope dV kV doc pm an cdv ct) args binds) (hloc : ∀ y ∈ binds, scope.names.lookup y.1 = some .local)
    (h : ∀ g L h₁ tk, g = hideAll s.heap [io, D, B] → Fr g L h₁ (fun y => binds.reverse.lookup y) → News g L h₁ (ioN W.w io D B b p k) → Below (LV d u l) base l g → (Mine.hd.heap_1_1 W.w.params).In g → Top W.p W.loose W.mean W.mg W.mb g → KtsDicts (fr l) g →
      wpAny (model W.prog W.w) ((LV d u l).deeper (envOf qual scope L f cdv)) (execs body (envOf qual scope L f cdv))
        (fun fl s' => R (.ok (.ret (match fl with | .ret v => v | _ => .none))) s')
        (fun e s' => wpAny (model W.prog W.w) ((LV d u l).deeper (envOf qual scope L f cdv)) (leaving (envOf qual scope L f cdv) e) (fun _ s'' => R (.error e) s'') (fun e' s'' => R (.error e') s'') s')
        { s with heap := h₁, toks := tk })
    (hco : scope.isCoroutine = false) (hgen : scope.isGenerator = false) (hk : scope.kind = .function)
    (hcell : ∀ x ∈ scope.names, x.2 ≠ .cell) : codeAny (model W.prog W.w) (LV d u l) (.call (.ref f) args) R s := by
  have X := HB.1.keeps S.stays
  have T := HB.2.keeps S.stays
  have nb : ∀ a ∈ [io, D, B], base.get? a = none ∧ a ∉ fr l ∧ a < s.heap.objs.size := fun a ha => by
    have q1 := hio (io, instObj 367 D) (by simp)
    have q2 := hio (D, ioDict W.w B p k) (by simp)
    have q3 := hio (B, ioBuf b k) (by simp)
    simp only [List.mem_cons, List.not_mem_nil, or_false] at ha
    rcases ha with rfl | rfl | rfl
    · exact ⟨q1.2.1, q1.2.2, Heap.lt_size q1.1⟩
    · exact ⟨q2.2.1, q2.2.2, Heap.lt_size q2.1⟩
    · exact ⟨q3.2.1, q3.2.2, Heap.lt_size q3.1⟩
  have st : base.StaysIn (hideAll s.heap [io, D, B]) := fun a o e => hideAll_get _ (S.stays a o e) fun hm => by
    rw [(nb a hm).1] at e; cases e
  refine codeAny_call_def (fd := fnOf name qual params body scope dV kV doc pm an cdv ct) (body := body) (binds := binds) hd (X _ _ ho) rfl T.nolimit (codeRec_of X hcd) rfl hbind hcell hloc (fun h₁ hns hk₁ => ?_) hco hgen hk
  refine h _ _ h₁ _ rfl ⟨hns, fun c o e => hk₁ c o (of_hideAll _ e), by rw [hideAll_size]; exact Nat.le_refl _⟩ (fun q hq => ?_) ⟨rfl, st, funFrames_hide S.frames fun a ha => (nb a ha).2.1⟩ (HB.1.keeps st) (HB.2.keeps st) (fun a ha => ?_)
  · have hm : q.1 ∈ [io, D, B] := by
      simp only [ioN, List.mem_cons, List.not_mem_nil, or_false] at hq ⊢
      rcases hq with rfl | rfl | rfl
      · exact .inl rfl
      · exact .inr (.inl rfl)
      · exact .inr (.inr rfl)
    exact ⟨hk₁ _ _ (hio q hq).1, Nat.ne_of_lt (nb _ hm).2.2, hideAll_none _ hm⟩
  · obtain ⟨o, es, n, e, hd⟩ := S.dicts a ha
    exact ⟨o, es, n, hideAll_get _ e fun hm => (nb a hm).2.1 ha, hd⟩
theorem back_io {w : World} {g h' : Heap} {L : Addr} {m : PySem.Str → Option Value} (hio : ∀ q ∈ ioN w io D B b p k, s.heap.get? q.1 = some q.2 ∧ base.get? q.1 = none ∧ q.1 ∉ fr l) (hg : g = hideAll s.heap [io, D, B]) (F : Fr g L h' m)
    (hi : h'.get? io = some (instObj 367 D)) (hB : h'.get? B = some (ioBuf b k)) : ∀ x o, x ≠ D → s.heap.get? x = some o → h'.get? x = some o := fun x o hx e => by
  by_cases e1 : x = io
  · subst e1
    rw [(hio (x, instObj 367 D) (by simp)).1] at e; cases e; exact hi
  by_cases e2 : x = B
  · subst e2
    rw [(hio (x, ioBuf b k) (by simp)).1] at e; cases e; exact hB
  exact F.keep x o (hg ▸ hideAll_get _ e (by simp [e1, hx, e2]))
end
section
variable {W : Wd} {d u : Nat} {l : List Env} {base g : Heap} {A A₀ : Around} {E : Value → Shared → Prop} {s : Shared} {L : Addr} {m : PySem.Str → Option Value} {env : Env} {f : Addr} {vs : List Value} {kw : List (PySem.Str × Value)} {P : Value → Int → Prop} {X : Value → Prop} {Q : Value → Shared → Prop} {io D B : Addr} {b : List UInt8} {p : Int} {k : IoT}
theorem useIO (C : SpecIO W d u f ⟨vs, kw⟩ io D B b p k P X) (HB : Base W base) (Bl : Below A₀ base l g) (KD : KtsDicts (fr l) g) (F : Fr g L s.heap m) (N : News g L s.heap (ioN W.w io D B b p k)) (h1 : @LT.lt Nat _ D io) (h2 : @LT.lt Nat _ io B) (hA : A.frames = some (env :: l)) (hf : env.frame = some L) (hk : env.scope.kind = .function)
    (hh : A.handled = none) (hdp : A.depth ≤ d) (hun : A.units ≤ u)
    (hret : ∀ v h' tk' p' k', P v p' → k'.c = k.c → Fr g L h' m → News g L h' (ioN W.w io D B b p' k') → Q v { s with heap := h', toks := tk' })
    (hraise : ∀ hh e C a0 h' tk', X C → Fr g L hh m → Flew (env :: l) hh e C a0 h' → E (.ref e) { s with heap := h', toks := tk' }) :
    wpAny (model W.prog W.w) A (call (.ref f) vs kw) Q E s := by
  have n1 := N (io, instObj 367 D) (by simp)
  have n2 := N (D, ioDict W.w B p k) (by simp)
  have n3 := N (B, ioBuf b k) (by simp)
  have hg : ∀ a ∈ [io, D, B], g.get? a = none ∧ a ≠ L := fun a ha => by
    simp only [List.mem_cons, List.not_mem_nil, or_false] at ha
    rcases ha with rfl | rfl | rfl
    · exact ⟨n1.2.2, n1.2.1⟩
    · exact ⟨n2.2.2, n2.2.1⟩
    · exact ⟨n3.2.2, n3.2.1⟩
  have nobase : ∀ a, g.get? a = none → base.get? a = none := fun a ha => by
    cases q : base.get? a with
    | none => rfl
    | some o => rw [Bl.stays a o q] at ha; cases ha
  refine wpAny_call (code_le hh hdp hA.symm rfl hun (C base (env :: l) s _ HB (site_of Bl KD F hf hk) (fun q hq => ?_) h1 h2 (fun v h' tk' p' k' hp keep hD hc => ?_) fun e C a0 h' tk' hx fl => ?_))
  · have hm : q.1 ∈ [io, D, B] := by
      simp only [ioN, List.mem_cons, List.not_mem_nil, or_false] at hq ⊢
      rcases hq with rfl | rfl | rfl
      · exact .inl rfl
      · exact .inr (.inl rfl)
      · exact .inr (.inr rfl)
    refine ⟨(N q hq).1, nobase _ (hg _ hm).1, ?_⟩
    rw [fr_cons hf]
    intro hin
    rcases List.mem_cons.mp hin with e | e
    · exact (hg _ hm).2 e
    · obtain ⟨o, es, n, ho, _⟩ := KD _ e
      rw [(hg _ hm).1] at ho; cases ho
  · have kg : ∀ x o, g.get? x = some o → h'.get? x = some o := fun x o e => keep x o (fun q => by subst q; rw [n2.2.2] at e; cases e) (F.keep x o e)
    refine hret v h' tk' p' k' hp hc ⟨?_, kg, F.above⟩ (fun q hq => ?_)
    · obtain ⟨oL, r, ep, hL, rest⟩ := F.ns
      exact ⟨oL, r, ep, keep L oL (fun q => n2.2.1 q.symm) hL, rest⟩
    · simp only [ioN, List.mem_cons, List.not_mem_nil, or_false] at hq
      rcases hq with rfl | rfl | rfl
      · exact ⟨keep _ _ (Nat.ne_of_gt h1) n1.1, n1.2⟩
      · exact ⟨hD, n2.2⟩
      · refine ⟨?_, n3.2⟩
        have := keep _ _ (Nat.ne_of_gt (Nat.lt_trans h1 h2)) n3.1
        rw [this]
        show some (ioBuf b k) = some (ioBuf b k')
        rw [ioBuf, ioBuf, hc]
  · have F2 : Fr g L (hideAll s.heap [io, D, B]) m := by
      obtain ⟨oL, r, ep, hL, rest⟩ := F.ns
      exact ⟨⟨oL, r, ep, hideAll_get _ hL fun hm => (hg _ hm).2 rfl, rest⟩, fun x o e => hideAll_get _ (F.keep x o e) (fun hm => by rw [(hg _ hm).1] at e; cases e), F.above⟩
    exact hraise _ e C a0 h' tk' hx F2 fl
end
end Mine
end
-- BZ
section
open PySem PySem.W PyProof.Rows PySem.Calls
set_option Elab.async false
set_option maxRecDepth 100000
set_option maxHeartbeats 4000000
namespace Mine
theorem News_at {g h : Heap} {L a : Addr} {o : Obj} {news : List (Addr × Obj)} (N : News g L h news) (hm : (a, o) ∈ news) : h.get? a = some o := (N _ hm).1
theorem io_news {w : World} {g h : Heap} {L io D B : Addr} {b : List UInt8} {p : Int} {k : IoT} {news : List (Addr × Obj)} (N : News g L h news) (h1 : (io, instObj 367 D) ∈ news) (h2 : (D, ioDict w B p k) ∈ news) (h3 : (B, ioBuf b k) ∈ news) : News g L h (ioN w io D B b p k) := fun q hq => by
  simp only [ioN, List.mem_cons, List.not_mem_nil, or_false] at hq
  rcases hq with rfl | rfl | rfl
  · exact N _ h1
  · exact N _ h2
  · exact N _ h3
theorem tk_len {v : Value} {b : List UInt8} {p n : Nat} {t : Tok} (_h : v = .bytes ((b.drop p).take n).toArray t) : ((b.drop p).take n).length = min n (b.length - p) := by
  rw [List.length_take, List.length_drop]
namespace BZ
variable {prog : Program} {w : World} {A : Around} {E : Value → Shared → Prop} {s : Shared} {h₀ : Heap} {L : Addr} {m : PySem.Str → Option Value} {news : List (Addr × Obj)} {a : Addr} {b : List UInt8} {c : Nat}
abbrev baObj (b : List UInt8) (c : Nat) : Obj := { cls := .type "bytearray", data := .bytearray b.toArray c }
theorem len {Q : Value → Shared → Prop} (ho : s.heap.get? a = some (baObj b c)) (hz : b.length ≤ 1099511627776) (h : ∀ t k, Q (.int (b.length : Nat) t) { s with toks := k }) : wpAny (model prog w) A (call (.builtin "len") [.ref a]) Q E s :=
  ba_len ho rfl rfl (by simp; omega) (by simpa using h)
theorem toBytes {Q : Value → Shared → Prop} (ho : s.heap.get? a = some (baObj b c)) (hz : b.length ≤ 16777216) (hh : A.handled = none) (h : ∀ t k, Q (.bytes b.toArray t) { s with toks := k }) : wpAny (model prog w) A (call (.type "bytes") [.ref a]) Q E s :=
  ba_bytes hh ho rfl rfl (by rw [sizeLine_eq]; simpa using hz) h
theorem slice {l u : Value} {lo hi : Option Int} {value slice : PySem.Expr} {Q : Value → Shared → Prop} (F : Fr h₀ L s.heap m) (N : News h₀ L s.heap news) (hm : (a, baObj b c) ∈ news) (hl : IsPart l lo) (hu : IsPart u hi) (hz : b.length ≤ 16777216)
    (h : ∀ x h', Fr h₀ L h' m → News h₀ L h' ((x, baObj ((b.drop (lo.elim 0 (clipAt b.length))).take (hi.elim b.length (clipAt b.length) - lo.elim 0 (clipAt b.length))) 0) :: news) → Q (.ref x) { s with heap := h' })
    (hs : subscripted slice false (.ref a) (.ref s.heap.objs.size) = operate [.ref s.heap.objs.size, .ref a] (getItem (.ref a) (.ref s.heap.objs.size)))
    (ht : ∀ r, letTemporaryGo value (.ref a) r = pure ()) :
    wpAny (model prog w) A (subscriptTail value slice (.ref a) (.ref s.heap.objs.size)) Q E { s with heap := s.heap.push { cls := .type "slice", data := .fields #[l, u, .none] } } := by
  have N2 : News h₀ L (s.heap.push { cls := .type "slice", data := .fields #[l, u, .none] }) news := News.pushKeep N _
  have ha := (N2 _ hm).1
  refine tail_of_ItemOn ⟨"bytearray", _, BI.ba_slot_get.lookup, ⟨_, ha, rfl⟩, ba_getitem (b := b.toArray) hl hu ha rfl rfl (Heap.IsSliceOf.new _ _ _ _) (by rw [sizeLine_eq]; simpa using hz) ?_⟩ hs ht
  rw [KBc.picked_eq]
  exact h _ _ ((F.push _).push _) (News.push (F.push _) N2 _)
end BZ
end Mine
end
section
open PySem PySem.W PyProof.Rows PySem.Calls PySem.Spec
set_option Elab.async false
set_option hygiene false
set_option rowWalk.seconds 0
set_option maxRecDepth 100000
set_option maxHeartbeats 4000000
namespace Mine
local macro_rules | `(tactic| walk_at "M enter") => `(tactic| (
  (case k6 => k_is); (case k7 => k_is); (case k8 => decide); (case k9 => first | exact BindsTo.of_eq rfl | exact binds_K (Frag.In.keeps (And.left (by assumption)) (Site.stays (by assumption))) rfl (by k_is) rfl rfl rfl); (case kB => exact locs rfl); (case c2 => exact rfl); (case c3 => exact rfl); (case c4 => exact rfl); (case c5 => decide);
  intro g' L' h' tk' hg' F' N' B' X' T' D'; subst hg'; (try k_fold)))
local macro_rules | `(tactic| walk_at "M use") => `(tactic| (
  (case F => k_asm); (case HB => assumption); (case B => k_asm); (case D => k_asm); (case N => k_asm); (case hA => exact rfl); (case hf => exact rfl); (case hk => exact rfl); (case hh => exact rfl); (case hdp => exact Nat.le_of_ble_eq_true rfl); (case hun => exact Nat.le_of_ble_eq_true rfl)))
local macro_rules | `(tactic| walk_at "M back0") => `(tactic| (intro v' h' tk' hv' F' N'; (first | subst hv' | (obtain ⟨_, hv'⟩ := hv'; subst hv') | (obtain ⟨hv', hp'⟩ := hv'; subst hv') | (obtain ⟨⟨_, hv'⟩, hp'⟩ := hv'; subst hv') | skip); (try dsimp only); (try k_sweep)))
local macro_rules | `(tactic| walk_at "M fly") => `(tactic| (intro e' C' a' h' tk' hx' fl'; (first | subst hx' | (obtain ⟨hx', hp'⟩ := hx'; subst hx') | skip); (try dsimp only)))
local macro_rules | `(tactic| walk_at "M use0") => `(tactic| (walk_at "M use"; walk_at "M back0"))
local macro_rules | `(tactic| walk_at "M use0r") => `(tactic| (walk_at "M use"; walk_at "M back0"; rotate_left 1; walk_at "M fly"; rotate_right 1))
local macro_rules | `(tactic| walk_at "M ret") => `(tactic| first
  | exact hret _ _ _ rfl (Fr.keep (by k_asm))
  | exact hret _ _ _ ⟨_, rfl⟩ (Fr.keep (by k_asm)))
local macro_rules | `(tactic| walk_at "leaving ref") => `(tactic| (k_here; k_dflt (first
  | (refine' leave_on ?D ?F ?T ?fl rfl rfl ?_; (case fl => k_asm); (case F => k_asm); (case D => k_asm); (case T => first | assumption | exact KtsTurn.refl); intro h'' fl''; (try dsimp only))
  | (refine' leave_made ?B ?D ?F ?T ?hx rfl rfl rfl ?_; (case hx => first | assumption | exact Heap.MadeExc.of (by assumption)); (case F => k_asm); (case B => k_asm); (case D => k_asm); (case T => first | assumption | exact KtsTurn.refl); intro h'' t'' fl''; (try dsimp only)))))
local macro_rules | `(tactic| walk_at "execs cons") => `(tactic| (k_here; refine wpAny_execs_cons ?_; k_fold))
local macro_rules | `(tactic| walk_at "exec Raise some none") => `(tactic| (k_here; (with_reducible show wpAny _ _ (exec (Stmt.Raise (some (Expr.Call (Expr.Name (PySem.Str.ofString "BTClibValueError") _) (_ :: _) [] _)) none _) _) _ _ _); k_dflt (refine' Raise_mix ?F ?g ?O PySem.F.excBase_Exception PySem.F.excBase_ValueError ?hB ?h ?_ ?a ?b ?c ?d ?e; (case F => k_asm); (case g => exact TopRead.g (by k_asm)); (case O => exact own_of_in (by k_asm) (by k_asm) (by k_is) (by k_exc)); (case hB => decide); (case h => rfl); (case a => rfl); (case b => rfl); (case c => rfl); (case d => rfl); (case e => decide); k_whole)))
local macro_rules | `(tactic| walk_at "M raise") => `(tactic| first
  | exact hraise _ _ _ _ _ rfl (by assumption)
  | exact hraise _ _ _ _ _ ⟨rfl, by omega⟩ (by assumption))
-- Exc
section
theorem fillK_one : PySem.Challenge.rw_fc0028_01.name = PySem.Challenge.rw_fc0028_01.name → Mine.hd.heap_1_1 = Mine.hd.heap_1_1 := by
  k_fill
  intro _; rfl
/-! an own exception class whose maker is one built-in's and whose __init__ another's -/
section
variable {M : Model} {prog : Program} {w : World} {A : Around} {E : Value → Shared → Prop} {h : Heap} {g : Array GenState} {d : Drawn} {t : Nat} {os : OsState}
variable {nm q : PySem.Str} {C N : Addr} {bs bm bmE bmV : List Value} {hdct : Bool} {sn : List PySem.Str} {sub : List Value} {ab : Bool} {col : Option Bool} {dd : Option Addr} {k0 k1 k2 k3 k5 : Option Value} {B V newId initId newId' initId' : String}

structure MixFacts (B V newId initId newId' initId' : String) (bmE bmV bm : List Value) : Prop where
  fe : ExcBaseFacts B newId initId bmE
  fv : ExcBaseFacts V newId' initId' bmV
  hasB : bm.contains (.type B) = true
  hasV : bm.contains (.type V) = true
  hasBase : bm.contains (.type "BaseException") = true
  noAttr : bm.contains (.type "AttributeError") = false
  noName : bm.contains (.type "NameError") = false

theorem mix_new (F : MixFacts B V newId initId newId' initId' bmE bmV bm) {R : Result → Shared → Prop} {rest : List Value} (hC : h.get? C = some (excClassObj nm q C N bs bm hdct sn sub ab col dd k0 k1 k2 k3 k5 newId))
    (hq : R (.ok (.ret (.ref (h.objs.size + 1)))) ⟨(h.push { cls := .type "tuple", data := .seq rest.toArray }).push
      { cls := .ref C, data := .fields #[.ref h.objs.size, .none, .none, .none, .bool false, .none] }, g, d, t, os⟩) (hrest : rest.length ≤ sizeLine) :
    codeAny (model prog w) A (.builtin newId ⟨.ref C :: rest, []⟩) R ⟨h, g, d, t, os⟩ := by
  have hends := F.fe.ends
  have hcB : (Value.ref C :: bm).contains (.type B) = true := by rw [List.contains_cons, F.hasB, Bool.or_true]
  have hcA : (Value.ref C :: bm).contains (.type "AttributeError") = false := by rw [List.contains_cons, F.noAttr]; rfl
  have hcN : (Value.ref C :: bm).contains (.type "NameError") = false := by rw [List.contains_cons, F.noName]; rfl
  refine codeAny_builtinAt F.fe.entry ?_
  unfold Builtin.«BaseException.__new__»
  refine PySem.wpAt_bind ?_
  show PySem.wpAt _ _ _ (stack >>= _) _ _ _
  refine PySem.wpAt_bind (PySem.wpAt_stack fun p below => PySem.wpAt_of_wpAny ?_)
  wp_walk
  refine PySem.wpAt_of_wpAny ?_
  rw [F.fe.owner]
  repeat (first | with_reducible refine wpAny_madeHere_exc F.fe.canon hC ?_ | with_reducible refine wpAny_loadPart_at hC ?_ | (with_reducible refine wpAny_isSubtype_exc hC ?_; first | rw [hcB] | rw [hcA] | rw [hcN]) | wp_step)
  show R _ _
  rw [Heap.size_push]
  exact hq

theorem mix_check_new (F : MixFacts B V newId initId newId' initId' bmE bmV bm) {rest : List Value} {Q : Unit → Shared → Prop} (hC : h.get? C = some (excClassObj nm q C N bs bm hdct sn sub ab col dd k0 k1 k2 k3 k5 newId))
    (hq : Q () ⟨h, g, d, t, os⟩) : wpAny M A (checkBuiltinCall newId ⟨.ref C :: rest, []⟩) Q E ⟨h, g, d, t, os⟩ := by
  have hcont : (Value.ref C :: bm).contains (.type B) = true := by rw [List.contains_cons, F.hasB, Bool.or_true]
  have hstar := F.fe.noStar
  simp only [checkBuiltinCall, F.fe.newKind, F.fe.newSplit, F.fe.newRow]
  repeat (first | refine wpAny_loadPart_at hC ?_ | (refine wpAny_isSubtype_exc hC ?_; rw [hcont]) | refine wpAny_staticBase_exc hC ?_ | refine wpAny_madeBy_exc hC ?_ | simp only [bne_self_eq_false, Bool.false_eq_true, if_false] | wp_step)
  exact hq

theorem mix_check_init (F : MixFacts B V newId initId newId' initId' bmE bmV bm) {e : Addr} {oe : Obj} {rest : List Value} {Q : Unit → Shared → Prop}
    (hC : h.get? C = some (excClassObj nm q C N bs bm hdct sn sub ab col dd k0 k1 k2 k3 k5 newId)) (he : h.get? e = some oe) (hcls : oe.cls = .ref C) (hq : Q () ⟨h, g, d, t, os⟩) :
    wpAny M A (checkBuiltinCall initId' ⟨.ref e :: rest, []⟩) Q E ⟨h, g, d, t, os⟩ := by
  have hcB : (Value.ref C :: bm).contains (.type V) = true := by rw [List.contains_cons, F.hasV, Bool.or_true]
  have hshort := F.fv.noStar
  simp only [checkBuiltinCall, F.fv.initKind, F.fv.initSplit, F.fv.initRow]
  repeat (first | (with_reducible refine wpAny_loadPart_at he ?_; rw [hcls]) | with_reducible refine wpAny_loadPart_at hC ?_ | (with_reducible refine wpAny_isSubtype_exc hC ?_; rw [hcB]) | wp_step)
  refine wpAny_onRaise ?_
  rw [show ∀ (a b : String) (n : Nat), Bind.check ⟨.positional, "*", V, .self, [⟨"args", .varPos, false⟩]⟩ a b n (List.map (fun x => x.fst) ({ pos := Value.ref e :: rest } : Args).kw) = pure () from
    fun a b n => check_star_args _ _ _ _ _ _]
  exact wpAny_pure hq

theorem mix_type_call (F : MixFacts B V newId initId newId' initId' bmE bmV bm) (T : OwnTail h bmV bm) {mN : PySem.Str → Option Value} {rest : List Value} {Q : Fin → Shared → Prop}
    (hC : h.get? C = some (excClassObj nm q C N bs bm hdct sn sub ab col dd k0 k1 k2 k3 k5 newId)) (hn : h.Ns N mN) (hni : mN "__init__" = none)
    (hq : ∀ h' e, Heap.MadeExcOf h h' e (.ref C) rest → Q (.done (.ret (.ref e))) ⟨h', g, d, t, os⟩) (hrest : rest.length ≤ sizeLine) :
    wpAny (model prog w) A (Builtin.«type.__call__» ⟨.ref C :: rest, []⟩) Q E ⟨h, g, d, t, os⟩ := by
  repeat (first | with_reducible refine wpAny_loadPart_at hC ?_ | with_reducible refine wpAny_madeBy_exc hC ?_ | wp_step)
  refine codeAny_call_builtin_code (Code.quiet_builtin _ F.fe.quiet) (mix_check_new F hC ?_)
  refine mix_new F hC ?_ hrest
  show wpAny _ _ _ _ _ _
  have keep2 : ∀ b o, h.get? b = some o → ((h.push { cls := .type "tuple", data := .seq rest.toArray }).push { cls := .ref C, data := .fields #[.ref h.objs.size, .none, .none, .none, .bool false, .none] }).get? b = some o :=
    fun b o e => Heap.get?_push_of_some _ (Heap.get?_push_of_some _ e)
  have hC₁ := keep2 _ _ hC
  have hn₁ := hn.keeps keep2
  have T₁ := T.keeps keep2
  have hget : ((h.push { cls := .type "tuple", data := .seq rest.toArray }).push
      { cls := .ref C, data := .fields #[.ref h.objs.size, .none, .none, .none, .bool false, .none] }).get? (h.objs.size + 1) = some
      { cls := .ref C, data := .fields #[.ref h.objs.size, .none, .none, .none, .bool false, .none] } := by heap_get
  have hcC : (Value.ref C :: bm).contains (.ref C) = true := by simp
  unfold isInstance
  repeat (first | with_reducible refine wpAny_loadPart_at hget ?_ | (with_reducible refine wpAny_isSubtype_exc hC₁ ?_; rw [hcC]) | wp_step)
  show wpAny _ _ (typeLookup (.ref C) _) _ _ _
  refine wpAny_typeLookup_tail hC₁ hn₁ T₁ F.fv.mroIs F.fv.init.lookup ?_
  rw [hni]
  refine wpAny_holding (wpAny_bind (wpAny_of_eq (F.fv.init.bind _) ?_))
  refine wpAny_bind (wpAny_call (codeAny_call_builtin F.fv.init.plain F.fv.initEntry (mix_check_init F hC₁ hget rfl ?_)))
  wp_walk
  refine hq _ _ ⟨fun b o hb => ?_, Heap.get?_none_of_le (Nat.le_succ _), h.objs.size + 2, ?_, Heap.get?_none_of_le (by omega), ?_⟩
  · rw [Heap.get?_update_other _ _ (Nat.ne_of_gt (Nat.lt_succ_of_lt (Heap.lt_size hb)))]
    exact Heap.get?_push_of_some _ (keep2 b o hb)
  · rw [Heap.get?_update_self _ (Heap.get?_push_of_some _ hget) rfl]
    simp only [Heap.size_push]
    rfl
  · rw [Heap.get?_update_other _ _ (show h.objs.size + 1 ≠ h.objs.size + 2 by omega)]
    exact Heap.get?_push_at (by simp only [Heap.size_push]) rfl

theorem mix_call (F : MixFacts B V newId initId newId' initId' bmE bmV bm) (T : OwnTail h bmV bm) {mN : PySem.Str → Option Value} {rest : List Value} {Q : Value → Shared → Prop}
    (hC : h.get? C = some (excClassObj nm q C N bs bm hdct sn sub ab col dd k0 k1 k2 k3 k5 newId)) (hn : h.Ns N mN) (hni : mN "__init__" = none)
    (hq : ∀ h' e, Heap.MadeExcOf h h' e (.ref C) rest → Q (.ref e) ⟨h', g, d, t, os⟩) (hrest : rest.length ≤ sizeLine) :
    wpAny (model prog w) A (call (.ref C) rest) Q E ⟨h, g, d, t, os⟩ := by
  have f1 := tc_lookup
  have f2 := tc_bind (.ref C)
  have hT : (⟨h, g, d, t, os⟩ : Shared).TypeIs (.ref C) "type" := ⟨_, hC, rfl⟩
  refine wpAny_call (codeAny_of_tree ?_)
  show wpAny _ _ (callAny (.ref C) _) _ _ _
  repeat (any_goals (first | assumption | with_reducible refine wpAny_loadPart_at hC ?_ | wp_step))
  refine ⟨rfl, ?_⟩
  refine codeAny_call_builtin_at (Code.quiet_builtin _ (by decide +kernel)) entry_typeCall (wpAny_check_type_call_sub hC (mix_type_call F T hC hn hni (fun h' e hm => ?_) hrest))
  exact hq h' e hm
end
section
variable {M : Model} {prog : Program} {w : World} {A : Around} {E : Value → Shared → Prop} {s : Shared} {name : PySem.Str} {scope : Scope} {L a : Addr} {cd : Value} {h₀ : Heap} {m mg : PySem.Str → Option Value}
  {x : PySem.Str} {C : Addr} {B V newId initId newId' initId' : String} {bmE bmV : List Value} {np cpos pos : Pos} {Q : Flow → Shared → Prop}
theorem mix_of {h : Heap} {bm : List Value} (FE : ExcBaseFacts B newId initId bmE) (FV : ExcBaseFacts V newId' initId' bmV) (hB : bmV.contains (.type B) = true) (T : OwnTail h bmV bm) : MixFacts B V newId initId newId' initId' bmE bmV bm :=
  ⟨FE, FV, T.hasType hB, T.hasType FV.hasB, T.hasType FV.hasBase, T.hasType FV.noAttr, T.hasType FV.noName⟩
theorem Raise_mix {e₀ : PySem.Expr} {rest : List PySem.Expr} (F : Fr h₀ L s.heap m) (hg : h₀.Ns mainGlobals mg) (O : OwnCls x C bmV newId mg h₀) (FE : ExcBaseFacts B newId initId bmE) (FV : ExcBaseFacts V newId' initId' bmV) (hB : bmV.contains (.type B) = true) (hh : A.handled = none)
    (h : wpAny (model prog w) A (spliced (backTo cpos (starEach (e₀ :: rest) (envOf name scope L a cd)))) (fun vs s₂ => vs.length ≤ sizeLine ∧ (∀ b o, h₀.get? b = some o → s₂.heap.get? b = some o) ∧
      ∀ h' e, Heap.MadeExcOf s₂.heap h' e (.ref C) vs → E (.ref e) { s₂ with heap := h' }) E s)
    (he : starEach (e₀ :: rest) (envOf name scope L a cd) = (false, eval e₀ (envOf name scope L a cd)) :: starEach rest (envOf name scope L a cd) := by rfl)
    (hplain : (backTo cpos (starEach rest (envOf name scope L a cd))).any (·.1) = false := by rfl)
    (hk : scope.kind = .function := by rfl) (hx : (envOf name scope L a cd).kindOf x = some .globalImplicit := by rfl) (hd : (x == ("__debug__" : PySem.Str)) = false := by decide) :
    wpAny (model prog w) A (exec (.Raise (some (.Call (.Name x np) (e₀ :: rest) [] cpos)) none pos) (envOf name scope L a cd)) Q E s := by
  obtain ⟨bm, N, nm, q, bs, hdct, sn, sub, ab, col, dd, k0, k1, k2, k3, k5, mN, hC, hN, hni, T⟩ := O.obj
  have MF := mix_of FE FV hB T
  have hpl : (backTo cpos (starEach (e₀ :: rest) (envOf name scope L a cd))).any (·.1) = false := by
    rw [he]; show (false || (backTo cpos (starEach rest (envOf name scope L a cd))).any (·.1)) = false; rw [hplain]; rfl
  rw [arm_exec_Raise]
  refine wpAny_bind (wpAny_standAt ?_)
  refine wpAny_raiseStmt_made_sub (C := C) (nm := nm) (q := q) (N := N) (bs := bs) (bm := bm) (hdct := hdct) (sn := sn) (sub := sub) (ab := ab) (col := col) (dd := dd) (k0 := k0) (k1 := k1) (k2 := k2) (k3 := k3) (k5 := k5) (newId := newId) MF.hasBase hh ?_
  refine wpAny_bind (wpAny_mono (wpAny_Call_ofName (wpAny_mono (ld_own (Q := fun f s₁ => f = .ref C ∧ s₁ = s) F hg O ⟨rfl, rfl⟩ hk hx hd) (fun f s₁ h₁ => ?_) fun _ _ x => x)) (fun v s₃ h₃ => wpAny_bind (wpAny_standAt (wpAny_pure h₃))) fun _ _ x => x)
  obtain ⟨rfl, rfl⟩ := h₁
  unfold callWith
  refine wpAny_bind (wpAny_holding (wpAny_mono (Q := fun a s₂ => ∃ vs, a = ⟨vs, []⟩ ∧ vs.length ≤ sizeLine ∧ (∀ b o, h₀.get? b = some o → s₂.heap.get? b = some o) ∧
      ∀ h' e, Heap.MadeExcOf s₂.heap h' e (.ref C) vs → E (.ref e) { s₂ with heap := h' }) ?_ (fun a s₂ h₂ => wpAny_bind (wpAny_standAt ?_)) fun _ _ x => x))
  · rw [he] at h ⊢
    exact Calls.evalArgs_plain (wpAny_mono h (fun vs s₂ h₂ => ⟨vs, rfl, h₂⟩) fun _ _ y => y)
  obtain ⟨vs, rfl, hlen, hkeep, h₂⟩ := h₂
  obtain ⟨hp, g, d, tk, os⟩ := s₂
  simp only [hpl]
  refine wpAny_bind (wpAny_keeperOf_exc (hkeep _ _ hC) ?_)
  refine wpAny_bind (mix_call MF (T.keeps hkeep) (hkeep _ _ hC) (hN.keeps hkeep) hni (fun h' e hm => wpAny_bind (wpAny_holding (wpAny_point (wpAny_pure ?_)))) hlen)
  obtain ⟨t, ht, _, _⟩ := hm.there
  exact ⟨e, t, rfl, hm.keeps _ _ (hkeep _ _ hC), ht, h₂ h' e hm⟩
end
end
-- Cat
section
def ExcAt (h : Heap) (C : Addr) (bm : List Value) : Prop := ∃ nm q N bs hdct sn sub ab col dd k0 k1 k2 k3 k5 newId, h.get? C = some (excClassObj nm q C N bs bm hdct sn sub ab col dd k0 k1 k2 k3 k5 newId)
theorem exc31 {W : Wd} {h : Heap} (X : (Mine.hd.heap_1_1 W.w.params).In h) : ExcAt h 31 [.type "Exception", .type "BaseException", .type "object"] := ⟨_, _, _, _, _, _, _, _, _, _, _, _, _, _, _, _, X 31 _ (by k_is)⟩
theorem exc44 {W : Wd} {h : Heap} (X : (Mine.hd.heap_1_1 W.w.params).In h) : ExcAt h 44 [.ref 31, .type "ValueError", .type "Exception", .type "BaseException", .type "object"] := ⟨_, _, _, _, _, _, _, _, _, _, _, _, _, _, _, _, X 44 _ (by k_is)⟩
theorem exc662 {W : Wd} {h : Heap} (X : (Mine.hd.heap_1_1 W.w.params).In h) : ExcAt h 662 [.type "ValueError", .type "Exception", .type "BaseException", .type "object"] := ⟨_, _, _, _, _, _, _, _, _, _, _, _, _, _, _, _, X 662 _ (by k_is)⟩

theorem matches_own {M : Model} {A : Around} {E : Value → Shared → Prop} {s : Shared} {e C D : Addr} {oe : Obj} {bmC bmD : List Value} {b : Bool} {Q : Bool → Shared → Prop} (hC : ExcAt s.heap C bmC) (hD : ExcAt s.heap D bmD) (he : s.heap.get? e = some oe) (hcls : oe.cls = .ref C)
    (hbase : bmD.contains (.type "BaseException") = true) (hb : (Value.ref C :: bmC).contains (.ref D) = b) (hq : Q b s) : wpAny M A (excMatches (.ref e) (.ref D)) Q E s := by
  obtain ⟨h, g, d, t, os⟩ := s
  obtain ⟨_, _, _, _, _, _, _, _, _, _, _, _, _, _, _, _, hC⟩ := hC
  obtain ⟨_, _, _, _, _, _, _, _, _, _, _, _, _, _, _, _, hD⟩ := hD
  have hDB : (Value.ref D :: bmD).contains (.type "BaseException") = true := by rw [List.contains_cons, hbase, Bool.or_true]
  have f := tc_notTuple
  unfold excMatches
  repeat (first | (with_reducible refine wpAny_loadPart_at he ?_; rw [hcls]) | with_reducible refine wpAny_loadPart_at hD ?_ | (with_reducible refine wpAny_isSubtype_exc hD ?_; rw [hDB]) | (with_reducible refine wpAny_isSubtype_exc hC ?_; rw [hb]) | wp_step)
  cases b <;> (wp_walk; exact hq)
theorem same_up {fs : List Addr} {h h' h'' : Heap} (S : Same fs h h') (k : (hideAll h fs).StaysIn h'') (up : h'.UpToSlots h'') (D : KtsDicts fs h) : Same fs h h'' := by
  refine ⟨fun b o q nm => k b o (hideAll_get _ q nm), fun b o q hm => ?_⟩
  obtain ⟨s2, h2⟩ := S.2 b o q hm
  obtain ⟨od, es, n, hd1, hd2⟩ := D b hm
  rw [q] at hd1
  cases hd1
  obtain ⟨s3, h3⟩ := up b _ h2 (fun vs z => by rw [show ({ o with slots := s2 } : Obj).data = o.data from rfl, hd2] at z; cases z)
  exact ⟨s3, h3⟩
section
variable {W : Wd} {l : List Env} {base g g₀ h : Heap} {A₀ : Around} {E : Value → Shared → Prop} {s : Shared} {L a e C Dc : Addr} {a0 cd : Value} {m : PySem.Str → Option Value} {news : List (Addr × Obj)} {name x n : PySem.Str} {scope : Scope} {bmC bmD : List Value} {b₀ : Stmt} {suite : List Stmt} {pos np : Pos} {rest : List ExceptHandler} {Q : Flow → Shared → Prop}
theorem catch0 (HB : Base W base) (B : Below A₀ base l g) (D : KtsDicts (fr l) g) (F : Fr g L h m) (N : News g L h news) (T : KtsTurn (fr l) g₀ g) (fl : Flew (envOf name scope L a cd :: l) h e (.ref C) a0 s.heap)
    (ex : nsIn (Mine.hd.heap_1_1 W.w.params) mainGlobals x = some (some (.ref Dc))) (hC : ∀ h, (Mine.hd.heap_1_1 W.w.params).In h → ExcAt h C bmC) (hD : ∀ h, (Mine.hd.heap_1_1 W.w.params).In h → ExcAt h Dc bmD)
    (hbase : bmD.contains (.type "BaseException") = true) (hb : (Value.ref C :: bmC).contains (.ref Dc) = true)
    (k : ∀ h' g', KtsTurn (fr l) g₀ g' → Fr g' L h' m → News g' L h' news → Below A₀ base l g' → (Mine.hd.heap_1_1 W.w.params).In g' → Top W.p W.loose W.mean W.mg W.mb g' → KtsDicts (fr l) g' →
      wpAny (model W.prog W.w) ((A₀.deeper (envOf name scope L a cd)).mark (some (.ref e))) (execs (b₀ :: suite) (envOf name scope L a cd)) Q E { s with heap := h' })
    (hk : scope.kind = .function := by rfl) (hx : (envOf name scope L a cd).kindOf x = some .globalImplicit := by rfl) (hd : (x == ("__debug__" : PySem.Str)) = false := by decide)
    (hE : PassesOwnAt (model W.prog W.w) ((A₀.deeper (envOf name scope L a cd)).mark (some (.ref e))) (A₀.deeper (envOf name scope L a cd)) (envOf name scope L a cd) E := by passes_own) :
    wpAny (model W.prog W.w) (A₀.deeper (envOf name scope L a cd)) (noteFrame (.ref e) (envOf name scope L a cd))
      (fun _ s₂ => wpAny (model W.prog W.w) (A₀.deeper (envOf name scope L a cd)) (setFlight (.ref e) none) (fun _ s₃ =>
        wpAny (model W.prog W.w) (A₀.deeper (envOf name scope L a cd)) (handleBy (.ref e) (envOf name scope L a cd) (.ExceptHandler (some (.Name x np)) none (b₀ :: suite) pos :: rest)) Q E s₃) E s₂) E s := by
  have SD := (site_of (s := { s with heap := h }) (env := envOf name scope L a cd) B D F rfl hk).dicts
  obtain ⟨S, fly⟩ := fl
  refine wpAny_looks_onW (Around.frames_deeper B.stack) rfl fly fun h₄ held₄ up₄ => ?_
  refine wpAny_landsW held₄ fun h₅ fly₅ up₅ => ?_
  have S₅ := same_up S fly₅.1 (up₄.trans up₅) SD
  obtain ⟨g₅, T₅, F₅, N₅, B₅, D₅, _⟩ := turned B D F N T rfl S₅
  have X₅ := HB.1.keeps B₅.stays
  obtain ⟨ob, hob, hobc⟩ := fly₅.there
  refine wpAny_handleBy_cons (codeAny_handlers_test (name_K F₅ X₅ (topRead_of (HB.2.keeps B₅.stays)) ex ?_ hk hx hd)) (by intro q; cases q)
  refine matches_own (hC _ (X₅.keeps F₅.keep)) (hD _ (X₅.keeps F₅.keep)) hob hobc hbase hb (codeAny_handlers_suite ?_)
  refine lands_againW fly₅ fun h₆ fly₆ up₆ => ?_
  have S₆ := same_up S fly₆.1 ((up₄.trans up₅).trans up₆) SD
  obtain ⟨g₆, T₆, F₆, N₆, B₆, D₆, _⟩ := turned B D F N T rfl S₆
  exact wpAny_passesOwnAt hE (k h₆ g₆ T₆ F₆ N₆ B₆ (HB.1.keeps B₆.stays) (HB.2.keeps B₆.stays) D₆)
end
end
-- CA
section
theorem s_is_integer (W : Wd) (n : Int) (t : Tok) : Spec0 W 400 2000 644 ⟨[.int n t], []⟩ (fun v => v = .bool true) (fun _ => False) := by
  intro base l s R HB S hret hraise
  refine' enter0 (binds := [(PySem.Str.ofString "value", .int n t)]) HB S ?k6 ?k7 ?k8 ?k9 ?kB ?_ ?c2 ?c3 ?c4 ?c5
  walk_at "M enter"
  k_steps
  walk_at "M ret"
local macro_rules | `(tactic| walk_at "call ref") => `(tactic| (k_here; (with_reducible show wpAny _ _ (call (Value.ref 644) [Value.int _ _] _) _ _ _); k_dflt (refine' use0n (s_is_integer _ _ _) ?HB ?B ?D ?F ?N ?hA ?hf ?hk ?hh ?hdp ?hun ?_); k_dflt (walk_at "M use0")))
theorem int_len {n : Int} (h : n.natAbs.log2 < 1920) : (PySem.Str.ofString (toString n)).length ≤ 2000 := by
  have e := int_text_length_le (k := 1920) (by decide) h
  rw [PySem.ofString_length]; omega
theorem s_message_text (W : Wd) (n : Int) (t : Tok) (h : n.natAbs.log2 < 1920) : Spec0 W 400 2000 637 ⟨[.int n t], []⟩ (fun v => ∃ t x, v = .str x t ∧ x.length ≤ 2000) (fun _ => False) := by
  intro base l s R HB S hret hraise
  refine' enter0 (binds := [(PySem.Str.ofString "value", .int n t)]) HB S ?k6 ?k7 ?k8 ?k9 ?kB ?_ ?c2 ?c3 ?c4 ?c5
  walk_at "M enter"
  k_steps
  refine P.str_of_int h ?_
  k_steps
  exact hret _ _ _ ⟨_, _, rfl, int_len h⟩ (Fr.keep (by k_asm))
local macro_rules | `(tactic| walk_at "call ref") => `(tactic| (k_here; (with_reducible show wpAny _ _ (call (Value.ref 637) [Value.int _ _] _) _ _ _); k_dflt (refine' use0n (s_message_text _ _ _ (shown (N := 2 ^ 256) (by omega) (by omega) (by decide))) ?HB ?B ?D ?F ?N ?hA ?hf ?hk ?hh ?hdp ?hun ?_); k_dflt (walk_at "M use"; intro v' h' tk' hv' F' N'; obtain ⟨_, xm, hv', hxm⟩ := hv'; subst hv'; (try dsimp only); (try k_sweep))))
theorem s_assert_bits (W : Wd) (n : Int) (t : Tok) (hn : -(2 ^ 256) < n) (hn' : n < 2 ^ 256): Spec0 W 390 1900 693 ⟨[.int n t], []⟩ (fun v => v = .none ∧ 1 ≤ n ∧ n ≤ 64) (fun C => C = .ref 44 ∧ ¬ (1 ≤ n ∧ n ≤ 64)) := by
  intro base l s R HB S hret hraise
  refine' enter0 (binds := [(PySem.Str.ofString "bits", .int n t)]) HB S ?k6 ?k7 ?k8 ?k9 ?kB ?_ ?c2 ?c3 ?c4 ?c5
  walk_at "M enter"
  k_steps
  all_goals first | walk_at "M raise" | exact hret _ _ _ ⟨rfl, by omega, by omega⟩ (Fr.keep (by k_asm))
local macro_rules | `(tactic| walk_at "call ref") => `(tactic| (k_here; (with_reducible show wpAny _ _ (call (Value.ref 693) [Value.int _ _] _) _ _ _); k_dflt (refine' use0 (s_assert_bits _ _ _ (by omega) (by omega)) ?HB ?B ?D ?F ?N ?hA ?hf ?hk ?hh ?hdp ?hun ?_ ?_); k_dflt (walk_at "M use0r")))
theorem s_assert_unsigned (W : Wd) (n b : Int) (x : PySem.Str) (t u y : Tok) (hn : -(2 ^ 256) < n) (hn' : n < 2 ^ 256) (hb : 0 ≤ b) (hb' : b ≤ 64) (hx : x.length ≤ 1000) : Spec0 W 390 1900 686 ⟨[.int n t, .int b u, .str x y], []⟩ (fun v => v = .none ∧ 0 ≤ n ∧ n < 2 ^ b.toNat) (fun C => C = .ref 44 ∧ ¬ (0 ≤ n ∧ n < 2 ^ b.toNat)) := by
  intro base l s R HB S hret hraise
  refine' enter0 (binds := [(PySem.Str.ofString "value", .int n t), (PySem.Str.ofString "bits", .int b u), (PySem.Str.ofString "what", .str x y)]) HB S ?k6 ?k7 ?k8 ?k9 ?kB ?_ ?c2 ?c3 ?c4 ?c5
  walk_at "M enter"
  k_steps
  all_goals first | walk_at "M raise" | exact hret _ _ _ ⟨rfl, by omega, by omega⟩ (Fr.keep (by k_asm))
end
-- G
section
/-! a judgement over clean stacks: no code on the stack may hold a bytearray -/
def badIds : List String := ["bytearray.__contains__", "bytearray.__mod__", "bytearray.__rmod__", "_struct.pack_into.held", "bytearray.find.held"] ++ Builtin.Bytes.decodersThatHold
def Decent : Code → Bool
  | .builtin id _ => !badIds.contains id
  | _ => true
def Clean (Γ : PySem.Ctx) : Prop := Decent Γ.code = true ∧ ∀ x ∈ Γ.below, Decent x.1 = true
theorem Clean.enter {Γ : PySem.Ctx} (x : Clean Γ) {c : Code} (hc : Decent c = true) (h : Option Value) (p : Pos) : Clean (Γ.enter c h p) :=
  ⟨hc, fun y hy => by
    rcases List.mem_cons.mp hy with rfl | hy
    · exact x.1
    · exact x.2 y hy⟩
theorem Clean.goto {Γ : PySem.Ctx} (x : Clean Γ) {c : Code} (hc : Decent c = true) : Clean (Γ.goto c) := ⟨hc, x.2⟩

def wpG {α : Type} (M : Model) (A : Around) (t : Sem α) (Q : α → Shared → Prop) (E : Value → Shared → Prop) (s : Shared) : Prop :=
  ∀ Γ p, Γ.In A → Clean Γ → Sem.wp M Γ t (fun a _ s' => Q a s') (fun e _ s' => E e s') p s
def codeG (M : Model) (A : Around) (c : Code) (R : Result → Shared → Prop) (s : Shared) : Prop :=
  ∀ Γ p, Γ.code = c → Γ.Below A → Clean Γ → wpCode M Γ R p s

section
variable {α β : Type} {M : Model} {A A' : Around} {E : Value → Shared → Prop} {s : Shared}
theorem wpG_of {t : Sem α} {Q : α → Shared → Prop} (h : wpAny M A t Q E s) : wpG M A t Q E s := fun Γ p hΓ _ => h Γ p hΓ
theorem codeG_of {c : Code} {R : Result → Shared → Prop} (h : codeAny M A c R s) : codeG M A c R s := fun Γ p hc hΓ _ => h Γ p hc hΓ
theorem wpG_mono {t : Sem α} {Q Q' : α → Shared → Prop} {E' : Value → Shared → Prop} (h : wpG M A t Q E s)
    (hQ : ∀ a s, Q a s → Q' a s) (hE : ∀ e s, E e s → E' e s) : wpG M A t Q' E' s :=
  fun Γ p hΓ hc => Sem.wp_mono M Γ t (fun a _ s => hQ a s) (fun e _ s => hE e s) p s (h Γ p hΓ hc)
theorem wpG_bind {m : Sem α} {f : α → Sem β} {Q : β → Shared → Prop} (h : wpG M A m (fun a s' => wpG M A (f a) Q E s') E s) : wpG M A (m >>= f) Q E s := fun Γ p hΓ hc => by
  rw [Sem.wp_bind']
  exact Sem.wp_mono M Γ m (fun a p' s' h' => h' Γ p' hΓ hc) (fun _ _ _ h' => h') p s (h Γ p hΓ hc)
theorem wpG_pure {a : α} {Q : α → Shared → Prop} (h : Q a s) : wpG M A (pure a) Q E s := fun _ _ _ _ => h
theorem wpG_tryCatch {m : Sem α} {k : Value → Sem α} {Q : α → Shared → Prop} (h : wpG M A m Q (fun e s' => wpG M A (k e) Q E s') s) : wpG M A (tryCatch m k) Q E s := fun Γ p hΓ hc => by
  rw [Sem.wp_tryCatch']
  exact Sem.wp_mono M Γ m (fun _ _ _ h' => h') (fun e p' s' h' => h' Γ p' hΓ hc) p s (h Γ p hΓ hc)
theorem wpG_onRaise {m : Sem α} {k : Value → Sem Unit} {Q : α → Shared → Prop}
    (h : wpG M A m Q (fun e s' => wpG M A (k e) (fun _ s'' => E e s'') E s') s) : wpG M A (m.onRaise k) Q E s := fun Γ p hΓ hc => by
  rw [Sem.wp_onRaise]
  exact Sem.wp_mono M Γ m (fun _ _ _ h' => h') (fun e p' s' h' => h' Γ p' hΓ hc) p s (h Γ p hΓ hc)
theorem wpG_attempt {m : Sem α} {Q : Except Value α → Shared → Prop} (h : wpG M A m (fun a => Q (.ok a)) (fun e => Q (.error e)) s) : wpG M A m.attempt Q E s := fun Γ p hΓ hc => by
  rw [Sem.wp_attempt]; exact h Γ p hΓ hc
theorem wpG_holding {vs : List Value} {m : Sem α} {Q : α → Shared → Prop} (h : wpG M A m Q E s) : wpG M A (holding vs m) Q E s :=
  fun Γ p hΓ hc => by rw [Sem.wp_holding]; exact h Γ p hΓ hc
theorem wpG_standAt {pos : Pos} {Q : Unit → Shared → Prop} (h : Q () s) : wpG M A (standAt pos) Q E s := fun _ _ _ _ => h
theorem wpG_run {c : Code} {h : Option Value} {Q : Flow → Shared → Prop} (hd : Decent c = true)
    (hc : codeG M (A.mark h) c (fun r s' => match r with | .ok f => Q f s' | .error e => E e s') s) (hnb : h ≠ some byPass := by intro x; cases x) : wpG M A (run c h) Q E s :=
  fun Γ p hΓ cl => by rw [Sem.wp_run]; exact hc _ p rfl (hΓ.enter c h p hnb) (cl.enter hd h p)
theorem wpG_call {f : Value} {pos : List Value} {kw : List (PySem.Str × Value)} {Q : Value → Shared → Prop}
    (hc : codeG M A (.call f ⟨pos, kw⟩) (fun r s' => match r with | .ok (.ret v) => Q v s' | .ok _ => False | .error e => E e s') s) : wpG M A (call f pos kw) Q E s :=
  fun Γ p hΓ cl => by
    show Sem.wp M Γ (runValue (.call f ⟨pos, kw⟩)) _ _ p s
    rw [Sem.wp_runValue]; exact hc _ p rfl (hΓ.enter _ none p (by intro x; cases x)) (cl.enter rfl none p)
theorem codeG_mono {c : Code} {R R' : Result → Shared → Prop} (h : codeG M A c R s) (hR : ∀ r s, R r s → R' r s) : codeG M A c R' s :=
  fun Γ p hc hΓ cl => wpCode_mono hR (h Γ p hc hΓ cl)
theorem codeG_le {c : Code} {R : Result → Shared → Prop} (hh : A.handled = A'.handled) (hd : A.depth ≤ A'.depth) (hf : A'.frames = A.frames) (hg : A'.guards = none) (hu : A.units ≤ A'.units)
    (h : codeG M A' c R s) : codeG M A c R s := fun Γ p hc b cl => by
  obtain ⟨b1, b2, b3, b4, b5⟩ := b
  refine h Γ p hc ⟨b1.trans hh, Nat.le_trans b2 hd, fun l hl => b3 l (hf ▸ hl), fun g hg' => ?_, Nat.le_trans b5 hu⟩ cl
  rw [hg] at hg'
  cases hg'
theorem codeG_of_tree {c : Code} {R : Result → Shared → Prop}
    (h : wpG M (A.under c) (M.den c) (fun fin s' => match fin with | .done f => R (.ok f) s' | .again c' => c'.quiet = true ∧ Decent c' = true ∧ codeG M A c' R s')
      (fun e s' => R (.error e) s') s) : codeG M A c R s := fun Γ p hc hΓ cl => by
  rw [wpCode_iff_wp, hc]
  refine Sem.wp_mono M Γ _ (fun fin p' s' h' => ?_) (fun _ _ _ h' => h') p s (h Γ p (hc ▸ hΓ.in) cl)
  cases fin with
  | done f => exact h'
  | again c' => exact ⟨h'.1, h'.2.2 (Γ.goto c') p' rfl (hΓ.goto c') (cl.goto h'.2.1)⟩
theorem exported_no {self : Value} {Q : Bool → Shared → Prop} (h : Q false s) : wpG M A (Builtin.Bytes.exported self) Q E s := fun Γ p _ cl => by
  have key : ∀ f : Code × Pos → Bool, (∀ c q, Decent c = true → f (c, q) = false) → Q (((Γ.code, p) :: Γ.below).any f) s := fun f hf => by
    have : ((Γ.code, p) :: Γ.below).any f = false := by
      rw [List.any_eq_false]
      intro x hx
      have : f x = false := by
        rcases List.mem_cons.mp hx with rfl | hx
        · exact hf _ _ cl.1
        · exact hf x.1 x.2 (cl.2 x hx)
      rw [this]
      exact Bool.false_ne_true
    rw [this]
    exact h
  refine key _ fun c q hd => ?_
  have bad : ∀ id as, c = .builtin id as → badIds.contains id = false := fun id as e => by
    subst e
    simpa [Decent] using hd
  split
  all_goals first
    | rfl
    | (rename_i e; cases e; exact absurd (bad _ _ rfl) (by decide))
    | (rename_i e; cases e
       have h3 := bad _ _ rfl
       rw [badIds, List.contains_append, Bool.or_eq_false_iff] at h3
       rw [h3.2, Bool.and_false])
end
end
-- HeadG
section
theorem g0_clean : Clean ⟨.builtin "claim.caller" {}, none, none, [], none⟩ := ⟨by decide +kernel, fun _ h => nomatch h⟩
theorem wp_of_wpG_done {M : Model} {t : Sem Fin} {R : Result → Shared → Prop} {s : Shared}
    (h : wpG M callerA t (fun fin s' => ∃ f, fin = .done f ∧ R (.ok f) s') (fun e s' => R (.error e) s') s) (p : Pos) :
    Sem.wp M ⟨.builtin "claim.caller" {}, none, none, [], none⟩ t (Sem.finPost M ⟨.builtin "claim.caller" {}, none, none, [], none⟩ R) (fun e _ s' => R (.error e) s') p s := by
  refine Sem.wp_mono M _ t (fun fin p' s' h' => ?_) (fun _ _ _ h' => h') p s (h _ p caller_in g0_clean)
  obtain ⟨f, rfl, hf⟩ := h'
  exact hf
theorem thread_ends_clean {prog : Program} {w : World} {t : Sem Fin} {s : Shared} {R : Result → Shared → Prop} (hreg : s.asleep)
    (h : wpG (model prog w) callerA t (fun fin s' => ∃ f, fin = .done f ∧ (R (.ok f) s' ∧ leftWithCleanup s'.gens = false)) (fun e s' => R (.error e) s' ∧ leftWithCleanup s'.gens = false) s) :
    ∃ n r s' s'', runN (denote table) prog w n s ⟨t, .builtin "claim.caller" {}, default, []⟩ = .halted (outcomeOf r) s' ∧
      schedN (denote table) prog w n (.single s ⟨t, .builtin "claim.caller" {}, default, []⟩) = .halted (outcomeOf r) s' ∧ s'.forget = s''.forget ∧ R r s'' := by
  obtain ⟨n, r, s₁, s₂, hs, hn, hfo, hR⟩ := wp_halts_full (M := model prog w) (R := R) hreg (wp_of_wpG_done (R := fun r s' => R r s' ∧ leftWithCleanup s'.gens = false) h default)
  exact ⟨n, r, s₂, s₁, hn, hs, hfo, hR⟩
theorem callFrom_clean {c : ClaimW} {tree : List Value → Sem Fin} {w : World} {s : Shared} {free : Addr → Prop} {gens : Prop} {kept : Heap → Prop} (hz : s.asleep) (hgens : s.gens = #[])
    (hspec : ∀ args, c.pre args = true → WData.layableAll args = true →
      ∀ ord : List DictEntry → List DictEntry, (∀ l, (ord l).Perm l) →
      ∃ vs s₁, layAllW c.records (classAt s.heap) w.params ord args s = some (vs, s₁) ∧
        wpG (model c.prog w) callerA (tree vs) (fun fin s' => ∃ f, fin = .done f ∧ (c.Ends s args vs s₁ (.ok f) s' ∧ s'.os = s.os ∧ AllBare s'.gens ∧ kept s'.heap))
          (fun e s' => c.Ends s args vs s₁ (.error e) s' ∧ s'.os = s.os ∧ AllBare s'.gens ∧ kept s'.heap) s₁) :
    c.CallFrom (fun vs => ⟨tree vs, .builtin "claim.caller" {}, default, []⟩) w free gens kept s := by
  intro args hpre hlay ord hord
  obtain ⟨vs, s₁, hlaid, hcode⟩ := hspec args hpre hlay ord hord
  have hal := layAllW_rest _ _ _ hlaid
  obtain ⟨k, r, s', s'', hrun, hsched, hfo, hcase, hos, hkp⟩ := thread_ends_clean (prog := c.prog) (w := w) (t := tree vs) (s := s₁)
    (R := fun r s' => c.Ends s args vs s₁ r s' ∧ s'.os = s.os ∧ kept s'.heap)
    (Shared.asleep_of_life hal.2.2.2 hz)
    (wpG_mono hcode (by
      rintro fin s' ⟨f, e, h1, h2, h3, h4⟩
      exact ⟨f, e, ⟨h1, h2, h4⟩, leftWithCleanup_false_of_bare h3⟩) (by
      rintro e s' ⟨h1, h2, h3, h4⟩
      exact ⟨⟨h1, h2, h4⟩, leftWithCleanup_false_of_bare h3⟩))
  obtain ⟨eh, _, _, eo, _⟩ := Shared.forget_eq hfo
  have hcase := hcase.congr eh
  have hkp : kept s'.heap := by first | exact eh ▸ hkp | (rw [eh] at hkp; exact hkp) | (rw [← eh] at hkp; exact hkp)
  rw [← eo] at hos
  have hlife : s'.heap.life = s.heap.life := (runN_life _ _ _ hrun).trans hal.2.2.2
  refine ⟨vs, s₁, hlaid, k, _, s', hsched, ?_, (fun _ i x hx => by rw [hgens] at hx; simp at hx), hkp, by rw [hlife], Shared.rest_eq hos⟩
  rcases hcase with ⟨v, rfl, d1, d2, d3, d4, d5⟩ | ⟨e, ob, cls, rfl, d1, d2, d3, d4, d5⟩
  · exact .inl ⟨v, rfl, d1, d2, d3, fun b o y _ => d4 b o y, d5⟩
  · exact .inr ⟨e, ob, cls, rfl, d1, d2, d3, d4, fun b o y _ => d5 b o y⟩
theorem wpG_nsGet {M : Model} {A : Around} {s : Shared} {E : Value → Shared → Prop} {α : Type} {a : Addr} {m : PySem.Str → Option Value} {x : PySem.Str} {k : Option Value → Sem α} {Q : α → Shared → Prop} (hm : s.heap.Ns a m) (h : wpG M A (k (m x)) Q E s) : wpG M A (nsGet a x >>= k) Q E s :=
  wpG_bind (wpG_of (wpAny_nsGet hm h))
abbrev WalkClean (q : Program) (loose : List PySem.Str) (XP : (PySem.Str → Option Value) → Heap → Prop) (YP : World → Heap → Prop) (r : RowW) (d : DefRec) (kwd : List (PySem.Str × Expr)) : Prop :=
  ∀ (w : World) (s₀ s₁ : Shared) (mg mb : PySem.Str → Option Value), Ground q loose r.records XP w s₀ mg mb s₁.heap → YP w s₁.heap → ∀ (a : Addr) (o : Obj) (pm cd doc dV kV : Value), s₁.heap.get? a = some o →
    o.data = .func { docDef d.name d.params d.body d.scope pm cd doc with defaults := dV, kwdefaults := kV } → s₁.heap.CodeRec cd d.name → Dflts mg s₁.heap d.params kwd dV kV → mg d.name = some (.ref a) → s₁.gens = #[] →
    ∀ (args : List WData) (vals : List Value) (as : List Addr), r.claim.pre args = true → WData.layableAll args = true → ReadsAllW r.records (classAt s₀.heap) s₁.heap vals args as → WellAll w.params s₁.heap vals args → (∀ a ∈ as, (a == sysModules) = false) →
      wpG (model r.prog w) callerA (PySem.call (.ref a) vals) (fun v s' => GoodWG r.claim (classAt s₀.heap) (ExcName.means s₀.heap) args s₁ (.ok (.ret v)) s')
        (fun e s' => GoodWG r.claim (classAt s₀.heap) (ExcName.means s₀.heap) args s₁ (.error e) s') s₁
theorem holds_clean {r : OpenRow} {q : Program} {loose : List PySem.Str} {Xt : Shared → Bool} {XP : (PySem.Str → Option Value) → Heap → Prop} {α : Type} {Yf : Shared → α} {Ya : World → α} {YP : World → Heap → Prop} {d : DefRec} {kwd : List (PySem.Str × Expr)} {N : Nat}
    (left : LeftO r.prog q loose Xt Yf Ya N) (hY : ∀ w s, Yf s = Ya w → YP w s.heap) (hYk : ∀ w h h', YP w h → (∀ b o, h.get? b = some o → h'.get? b = some o) → YP w h')
    (hX : ∀ s, Xt s = true → XP (s.heap.nsMap mainGlobals) s.heap) (hXk : ∀ mg h h', XP mg h → (∀ b o, h.get? b = some o → h'.get? b = some o) → XP mg h')
    (hdef : defOf q r.name = some (d, kwd)) (hp : r.prog.theDef r.name = some (d.params, d.body, d.scope)) (hk : kwWritten? d.params.kwonlyargs d.params.kw_defaults = some kwd) (hRf : ∀ s, Xt s = true → RecFacts r.records s.heap) (hwr : (!r.writes || r.records.isEmpty) = true)
    (k1 : r.wellSaid = true) (ok : (chainsOk q && opensWell r.prog && (frees r.toRowW && r.within.isEmpty)) = true) (hb : r.prog.bare) (hw : r.toRowW.promised)
    (call : WalkClean q loose XP YP r.toRowW d kwd) : r.Holds := by
  refine ⟨k1, hw, ?_⟩
  obtain ⟨ok, k5⟩ := Bool.and_eq_true_iff.mp ok
  obtain ⟨hch, o1⟩ := Bool.and_eq_true_iff.mp ok
  obtain ⟨k5, k6⟩ := Bool.and_eq_true_iff.mp k5
  obtain ⟨hsame, hu, ha, hap, hm⟩ := frees_parts k5
  refine ⟨⟨hb, o1, by show r.toRowW.makers.map _ = []; rw [hm]; rfl⟩, hw.witness, fun w => ⟨(left.behind hX hch w).1, fun s' hs' => ?_⟩⟩
  obtain ⟨s₀, hf, hg0, s, hT, hz, hgens, hg, G00, y⟩ := (left.behind (XP := fun mg h => XP mg h ∧ RecFacts r.records h) (fun s hs => ⟨hX s hs, hRf s hs⟩) hch w).2 s' hs'
  have G0 : Ground q loose [] XP w s (s.heap.nsMap mainGlobals) (s.heap.nsMap builtinsNs) s.heap := ⟨G00.T, G00.B, G00.D, G00.TE, G00.TD, G00.W, G00.X.1, G00.cls, G00.has, G00.apart, G00.once, G00.K⟩
  have RF := G00.X.2
  have hT' := hT
  refine ⟨s₀, hf, hg0, s, hT, fun n hn => ?_, RF.1, RF.2.1, ?_⟩
  · obtain rfl : n = r.name := by split at hn <;> simp_all
    exact pinned_of_view hg G0 hdef hp hk
  have hgens : s.gens = #[] := Array.eq_empty_of_size_eq_zero (beq_iff_eq.mp hgens)
  have G : Ground q loose r.records XP w s _ _ s.heap := RF.ground G0
  refine callFrom_clean (c := r.toRowW.claim) hz hgens fun args hpre hlay ord hord => ?_
  obtain ⟨⟨vs, s₁⟩, hlaid⟩ := Option.isSome_iff_exists.mp (layAllW_isSome (P := w.params) (ord := ord) G.has args r.args s (pre_splitW hpre).1)
  have keeps := layAllW_keeps _ _ _ hlaid
  have hal := layAllW_rest _ _ _ hlaid
  obtain ⟨as, hrd, hin, hold⟩ := reads_layAllW hord _ _ _ hlaid hlay s₁.heap (fun _ _ e => e)
  have L : Laid r.records w s s₁ args vs as := ⟨⟨ord, hord, hlaid⟩, hrd, hin, hold, keeps, hal.1.trans hgens, hal.2.2.1⟩
  have G₁ := G.keeps hXk keeps
  have low := G.low
  obtain ⟨a, o, pm, cd, doc, dV, kV, h1, h2, h3, h4, h5⟩ := G₁.fn hdef
  have h := call w s s₁ _ _ G₁ (hYk _ _ _ (hY w s y) keeps) a o pm cd doc dV kV h2 h3 h4 h5 (defOf_name hdef ▸ h1) L.gens args vs as hpre hlay L.reads L.well (L.low low)
  have hi := ident_freeW hu ha hap
  have hwi : r.toRowW.claim.within = [] := List.isEmpty_iff.mp k6
  refine ⟨vs, s₁, hlaid, wpG_nsGet G₁.T.g ?_⟩
  rw [h1]
  refine wpG_bind (wpG_mono h (fun v s' g => wpG_pure ⟨_, rfl, ?_⟩) fun e s' g => ?_)
  all_goals (have z := g.laid (c := r.toRowW.claim) hsame hwi hi L; exact ⟨z.1, z.2.1, z.2.2, fun q => ⟨namesKept_of hT' hg _ keeps g.2.1.old, noTable hwr q⟩⟩)
end
-- HeadL
section
def loose0 : List PySem.Str := [PySem.Str.ofString "BTClibValueError", PySem.Str.ofString "BTClibTypeError", PySem.Str.ofString "bytes_from_octets",
  PySem.Str.ofString "UnsupportedOperation", PySem.Str.ofString "IOBase", PySem.Str.ofString "BufferedIOBase", PySem.Str.ofString "TextIOBase",
  PySem.Str.ofString "BytesIO", PySem.Str.ofString "StringIO", PySem.Str.ofString "valid_sats_amount", PySem.Str.ofString "serialize_varint",
  PySem.Str.ofString "parse_varint", PySem.Str.ofString "_law_points"]
def YP0 (w : World) (h : Heap) : Prop := (Mine.hd.heap_1_1 w.params).In h
theorem holdsG (call : ∀ d, defOf Mine.hd.view_1_2 (PySem.Str.ofString "law") = some (d, []) → WalkClean Mine.hd.view_1_2 loose0 (XL Mine.hd.view_1_2 []) YP0 PySem.Challenge.rw_fc0028_01.row.toRowW d []) : PySem.Challenge.rw_fc0028_01.Holds := by
  o_law
  refine holds_clean (N := 12334) (loose := loose0) (YP := YP0) (LeftO.of_pieces (boot_open Mine.hd._proof_1_6 (by decide) Mine.hd._proof_1_7) Mine.hd._proof_1_1379 Mine.hd._proof_1_1377 (by decide) (fun w => funext (Mine.hd._proof_1_1410 w))) (fun w s e => Hook.of _ w s e) (fun w h h' e k => InK.keeps w h h' e k) (fun s e => xl_of s (Bool.and_eq_true_iff.mp e).1) XL.keeps (by rfl) (by rfl) (by rfl) (fun s e => recFacts_of (Bool.and_eq_true_iff.mp e).2) (by rfl) (by first | assumption | decide +kernel) (by decide +kernel) ⟨rfl, rfl, rfl, rfl, rfl, by decide +kernel⟩ ?_ ?_
  · exact ⟨[.list []], by decide +kernel, by decide +kernel⟩
  · exact call _ rfl
end
-- GX
section
section
variable {prog : Program} {w : World} {A : Around} {E : Value → Shared → Prop} {s : Shared} {env : Env}
theorem wpG_keep {M : Model} {α : Type} {vs : List Value} {m : Sem α} {Q : α → Shared → Prop} (h : wpG M A m Q E s) : wpG M A (m.keep vs) Q E s :=
  fun Γ p hΓ hc => by rw [Sem.wp_keep]; exact h Γ p hΓ hc
theorem wpG_execs_nil {M : Model} {Q : Flow → Shared → Prop} (h : Q .next s) : wpG M A (execs [] env) Q E s := fun _ _ _ _ => h
theorem wpG_execs_cons {M : Model} {st : Stmt} {rest : List Stmt} {Q : Flow → Shared → Prop}
    (h : wpG M A (exec st env) (fun f s' => match f with | .next => wpG M A (execs rest env) Q E s' | f => Q f s') E s) :
    wpG M A (execs (st :: rest) env) Q E s := fun Γ p hΓ hc => by
  rw [execs_cons, Sem.wp_bind']
  refine Sem.wp_mono M Γ _ (fun f p' s' h' => ?_) (fun _ _ _ h' => h') _ _ (h Γ p hΓ hc)
  cases f <;> first | exact h' Γ p' hΓ hc | exact h'
theorem wpG_Return {M : Model} {e : Expr} {pos : Pos} {Q : Flow → Shared → Prop} (h : wpG M A (eval e env) (fun v s' => Q (.ret v) s') E s) : wpG M A (exec (.Return (some e) pos) env) Q E s := by
  rw [arm_exec_Return]
  refine wpG_bind (wpG_standAt ?_)
  show wpG M A (eval e env >>= fun v => pure (Flow.ret v)) _ _ _
  exact wpG_bind (wpG_mono h (fun v s' q => wpG_pure q) fun _ _ x => x)
theorem wpG_Assign_Name {M : Model} {x : PySem.Str} {pos' : Pos} {value : Expr} {pos : Pos} {Q : Flow → Shared → Prop}
    (h : wpG M A (eval value env) (fun v s₁ => wpG M A (storeName env x v) (fun _ => Q .next) E s₁) E s)
    (hs : swapsWith value (some (.Name x pos')) pos.line env = pure false) :
    wpG M A (exec (.Assign [.Name x pos'] value pos) env) Q E s := fun Γ p hΓ hc => by
  simp only [exec_Assign_Name env x pos' value pos hs, Sem.wp_bind', Sem.wp_cmd_standAt, Sem.wp_bindName, Sem.wp_pure']
  exact Sem.wp_mono M Γ _ (fun v _ s₁ h₁ => h₁ Γ _ hΓ hc) (fun _ _ _ h' => h') _ _ (h Γ _ hΓ hc)
theorem wpG_If {M : Model} {test : Expr} {body orelse : List Stmt} {pos : Pos} {Q : Flow → Shared → Prop}
    (h : wpG M A (isTrue test env (eval test env)) (fun b s' => wpG M A (if b = true then execs body env else execs orelse env) Q E s') E s) : wpG M A (exec (.If test body orelse pos) env) Q E s := by
  rw [arm_exec_If]
  exact wpG_bind (wpG_standAt (wpG_bind h))
/-- the left side of a test is what calls -/
theorem wpG_isTrue_Compare1 {M : Model} {l r : Expr} {op : CmpOp} {pos : Pos} {whole : Sem Value} {Q : Bool → Shared → Prop}
    (h : wpG M A (eval l env) (fun a s₁ => wpG M A (eval r env) (fun b s₂ => wpG M A (compareOp op a b) (fun c s₃ => wpG M A (truthy c) Q E s₃) E s₂) E s₁) E s)
    (hm : ∀ x, markedBehindIn op r x = x) : wpG M A (isTrue (.Compare l [op] [r] pos) env whole) Q E s := fun Γ p hΓ hc => by
  simp only [isTrue_Compare1, hm, Sem.wp_bind', Sem.wp_holding, Sem.wp_cmd_standAt, Sem.wp_operate]
  exact Sem.wp_mono M Γ _ (fun a _ s₁ h₁ => Sem.wp_mono M Γ _ (fun b _ s₂ h₂ => Sem.wp_mono M Γ _ (fun c _ s₃ h₃ => h₃ Γ _ hΓ hc) (fun _ _ _ h' => h') _ _ (h₂ Γ _ hΓ hc)) (fun _ _ _ h' => h') _ _ (h₁ Γ _ hΓ hc)) (fun _ _ _ h' => h') _ _ (h Γ _ hΓ hc)
theorem wpG_isTrue_Or {M : Model} {x : Expr} {rest : List Expr} {pos : Pos} {whole : Sem Value} {Q : Bool → Shared → Prop}
    (h : wpG M A (isTrue x env (eval x env)) (fun b s' => if b = true then Q true s' else wpG M A (allTrue .Or rest env) Q E s') E s) : wpG M A (isTrue (.BoolOp .Or (x :: rest) pos) env whole) Q E s := by
  show wpG M A (allTrue .Or (x :: rest) env) Q E s
  rw [arm_allTrue_cons]
  refine wpG_bind (wpG_mono h (fun b s' hb => ?_) fun _ _ x => x)
  cases b with
  | true => exact wpG_pure hb
  | false => exact hb
theorem wpG_allTrue_Or {M : Model} {x : Expr} {rest : List Expr} {Q : Bool → Shared → Prop}
    (h : wpG M A (isTrue x env (eval x env)) (fun b s' => if b = true then Q true s' else wpG M A (allTrue .Or rest env) Q E s') E s) : wpG M A (allTrue .Or (x :: rest) env) Q E s := by
  rw [arm_allTrue_cons]
  refine wpG_bind (wpG_mono h (fun b s' hb => ?_) fun _ _ x => x)
  cases b with
  | true => exact wpG_pure hb
  | false => exact hb
theorem wpG_allTrue_nil {M : Model} {Q : Bool → Shared → Prop} (h : Q false s) : wpG M A (allTrue .Or [] env) Q E s := fun _ _ _ _ => h
theorem wpG_Try {M : Model} {body orelse : List Stmt} {h₀ : ExceptHandler} {hs : List ExceptHandler} {pos : Pos} {Q : Flow → Shared → Prop}
    (h : wpG M A (execs body env) (fun f s₁ => match f with | .next => wpG M A (execs orelse env) Q E s₁ | f => Q f s₁)
      (fun e s₁ => wpAny M A (noteFrame e env) (fun _ s₂ => wpAny M A (setFlight e none) (fun _ s₃ => wpAny M A (handleBy e env (h₀ :: hs)) Q E s₃) E s₂) E s₁) s) :
    wpG M A (exec (.Try body (h₀ :: hs) orelse [] pos) env) Q E s := by
  rw [arm_exec_Try]
  refine wpG_bind (wpG_standAt ?_)
  unfold tryStmt
  simp only [List.isEmpty_nil, if_true, List.isEmpty_cons, Bool.false_and, Bool.false_eq_true, if_false]
  refine wpG_bind (wpG_attempt (wpG_mono h (fun f s₁ h₁ => ?_) fun e s₁ h₁ => ?_))
  · cases f <;> first | exact h₁ | exact wpG_pure h₁
  · exact wpG_of (wpAny_bind (wpAny_mono h₁ (fun _ _ h₂ => wpAny_bind h₂) fun _ _ x => x))
theorem callWith_ofG {M : Model} {pos : Pos} {f : Value} {first : List Value} {Q : Value → Shared → Prop} {P : Heap → Prop} {args : List (Bool × Sem Value)} {keywords : List (Option PySem.Str × Sem Value)} (hplain : (args.any (·.1) || keywords.any (·.1.isNone)) = false)
    (hk : ∀ h, P h → ∃ k, (k = Keeper.frame ∨ k = Keeper.machine ∨ k = Keeper.boundFrame) ∧ Looks M h (keeperOf f) k)
    (h : wpG M A (evalArgs f true args keywords) (fun a s₁ => P s₁.heap ∧ wpG M A (call f (first ++ a.pos) a.kw) Q E s₁) E s) : wpG M A (callWith pos f first args keywords) Q E s := by
  unfold callWith
  refine wpG_bind (wpG_holding (wpG_mono h (fun a s₁ h₁ => wpG_bind (wpG_standAt ?_)) fun _ _ x => x))
  obtain ⟨k, hk', L⟩ := hk _ h₁.1
  simp only [hplain]
  refine wpG_bind (wpG_of (L.here ?_))
  have tail : ∀ {t : Sem Value}, wpG M A t Q E s₁ → wpG M A (t >>= fun r => holding [r] point >>= fun _ => pure r) Q E s₁ :=
    fun ht => wpG_bind (wpG_mono ht (fun r s₂ hr => wpG_of (wpAny_bind (wpAny_holding (wpAny_point (wpAny_pure hr))))) fun _ _ x => x)
  have marked (mk : Value) : wpG M A (callMarked mk f (first ++ a.pos) a.kw) Q E s₁ := by unfold callMarked; exact wpG_keep h₁.2
  rcases hk' with rfl | rfl | rfl <;> dsimp only <;> first | exact tail h₁.2 | (split <;> first | exact tail h₁.2 | exact tail (marked _))
end
section
variable {prog : Program} {w : World} {A : Around} {s : Shared} {R : Result → Shared → Prop}
theorem codeG_func {body : List Stmt} {env : Env}
    (h : wpG (model prog w) (A.deeper env) (execs body env) (fun f s' => R (.ok (.ret (match f with | .ret v => v | _ => .none))) s')
      (fun e s' => wpAny (model prog w) (A.deeper env) (leaving env e) (fun _ s'' => R (.error e) s'') (fun e' s'' => R (.error e') s'') s') s) :
    codeG (model prog w) A (.func body env) R s := by
  refine codeG_of_tree ?_
  show wpG _ (A.deeper env) (do point; match ← (execs body env).onRaise (leaving env) with | .ret v => ret v | _ => ret .none) _ _ s
  refine wpG_bind (wpG_of (wpAny_point (wpG_bind (wpG_onRaise (wpG_mono h (fun f s' h' => ?_) fun _ _ h' => wpG_of h')))))
  cases f <;> exact wpG_pure h'
theorem codeG_call_function {a : Addr} {args : Args} {o : Obj} {fd : FuncData} {body : List Stmt} (hroom : A.depth < recursionLimit)
    (ho : s.heap.get? a = some o)
    (hd' : o.data = .func fd) (hco : fd.scope.isCoroutine = false) (hgen : fd.scope.isGenerator = false) (hbody : fd.body = .stmts body) (hcd : s.heap.CodeRec fd.code fd.qualname)
    (h : wpAny (model prog w) A.in1 (bindArgs fd args) (fun binds s₁ =>
      wpAny (model prog w) A.in1 (newFunctionEnv fd.scope fd.globals fd.closure binds (fd.qualname ++ ".<locals>.") (some a) fd.code none fd.builtins)
        (fun env s₂ => s₂.heap.NoLimit ∧ codeG (model prog w) A (.func body env) R s₂) (fun e s' => R (.error e) s') s₁) (fun e s' => R (.error e) s') s) :
    codeG (model prog w) A (.call (.ref a) args) R s := by
  refine codeG_of_tree (wpG_of ?_)
  show wpAny _ A.in1 (callAny (.ref a) args) _ _ s
  simp only [callAny]
  refine wpAny_bind (wpAny_load ho ?_)
  obtain ⟨c, oc, vs, tq, hc, hoc, hdc, hq⟩ := hcd
  simp only [hd', callFunction, hco, hgen, hbody, hc]
  rw [hc] at h
  refine wpAny_bind (m := field (.ref c) 1) (wpAny_field hoc hdc hq (wpAny_bind (wpAny_pure ?_)))
  exact wpAny_bind (wpAny_mono h (fun binds s₁ h₁ => wpAny_bind (wpAny_mono h₁ (fun env s₂ h₂ => wpAny_bind (wpAny_enterFrame h₂.1 hroom
    (wpAny_pure ⟨rfl, rfl, h₂.2⟩))) fun _ _ h' => h')) fun _ _ h' => h')
end
/-- a contract over clean stacks -/
def SpecG (W : Wd) (d u : Nat) (f : Addr) (args : Args) (P : Value → Prop) (X : Value → Prop) : Prop :=
  ∀ (base : Heap) (l : List Env) (s : Shared) (R : Result → Shared → Prop), Base W base → Site base l s.heap →
    (∀ v h' tk', P v → Same (fr l) s.heap h' → R (.ok (.ret v)) { s with heap := h', toks := tk' }) →
    (∀ e C a0 h' tk', X C → Flew l s.heap e C a0 h' → R (.error (.ref e)) { s with heap := h', toks := tk' }) →
    codeG (model W.prog W.w) (LV d u l) (.call (.ref f) args) R s
section
variable {W : Wd} {d u : Nat} {l : List Env} {base : Heap} {s : Shared} {R : Result → Shared → Prop}
theorem enterG {name qual : PySem.Str} {params : Arguments} {body : List Stmt} {scope : Scope} {dV kV doc pm cdv ct oc : Value} {an od : Option Addr} {osl : Array (Option Value)} {f : Addr} {args : Args} {binds : List (PySem.Str × Value)}
    (HB : Base W base) (S : Site base l s.heap)
    (ho : (Mine.hd.heap_1_1 W.w.params).lookup f = some ⟨oc, od, .func (fnOf name qual params body scope dV kV doc pm an cdv ct), osl⟩) (hcd : codeIn (Mine.hd.heap_1_1 W.w.params) cdv qual = true)
    (hd : d < recursionLimit) (hbind : BindsTo s (fnOf name qual params body scope dV kV doc pm an cdv ct) args binds) (hloc : ∀ y ∈ binds, scope.names.lookup y.1 = some .local)
    (h : ∀ g L h₁ tk, g = s.heap → Fr g L h₁ (fun y => binds.reverse.lookup y) → News g L h₁ [] → Below (LV d u l) base l g → (Mine.hd.heap_1_1 W.w.params).In g → Top W.p W.loose W.mean W.mg W.mb g → KtsDicts (fr l) g →
      wpG (model W.prog W.w) ((LV d u l).deeper (envOf qual scope L f cdv)) (execs body (envOf qual scope L f cdv))
        (fun fl s' => R (.ok (.ret (match fl with | .ret v => v | _ => .none))) s')
        (fun e s' => wpAny (model W.prog W.w) ((LV d u l).deeper (envOf qual scope L f cdv)) (leaving (envOf qual scope L f cdv) e) (fun _ s'' => R (.error e) s'') (fun e' s'' => R (.error e') s'') s')
        { s with heap := h₁, toks := tk })
    (hco : scope.isCoroutine = false) (hgen : scope.isGenerator = false) (hk : scope.kind = .function)
    (hcell : ∀ x ∈ scope.names, x.2 ≠ .cell) : codeG (model W.prog W.w) (LV d u l) (.call (.ref f) args) R s := by
  have X := HB.1.keeps S.stays
  have T := HB.2.keeps S.stays
  refine codeG_call_function (fd := fnOf name qual params body scope dV kV doc pm an cdv ct) (body := body) hd (X _ _ ho) rfl hco hgen rfl (codeRec_of X hcd) (hbind _ _ _ _ ?_)
  refine wpAny_newFunctionEnv hcell hloc (fun h₀ hns₀ hsb₀ => ⟨T.nolimit.fresh _ hsb₀, codeG_func (h _ _ h₀ _ rfl ⟨hns₀, fun b o e => ?_, Nat.le_refl _⟩ News.nil ⟨rfl, S.stays, S.frames⟩ X T S.dicts)⟩) hk
  exact hsb₀.extBut b o (Nat.ne_of_lt (Heap.lt_size e)) (Heap.get?_push_of_some _ e)
end
section
variable {W : Wd} {d u : Nat} {l : List Env} {base g g₀ : Heap} {A A₀ : Around} {E : Value → Shared → Prop} {s : Shared} {L : Addr} {m : PySem.Str → Option Value} {news : List (Addr × Obj)} {env : Env} {f : Addr} {vs : List Value} {kw : List (PySem.Str × Value)} {P X : Value → Prop} {Q : Value → Shared → Prop}
theorem useG (C : SpecG W d u f ⟨vs, kw⟩ P X) (HB : Base W base) (B : Below A₀ base l g) (D : KtsDicts (fr l) g) (F : Fr g L s.heap m) (N : News g L s.heap news) (T : KtsTurn (fr l) g₀ g) (hA : A.frames = some (env :: l)) (hf : env.frame = some L) (hk : env.scope.kind = .function)
    (hh : A.handled = none) (hdp : A.depth ≤ d) (hun : A.units ≤ u)
    (hret : ∀ v h' tk' g', P v → KtsTurn (fr l) g₀ g' → Fr g' L h' m → News g' L h' news → Below A₀ base l g' → (Mine.hd.heap_1_1 W.w.params).In g' → Top W.p W.loose W.mean W.mg W.mb g' → KtsDicts (fr l) g' → Q v { s with heap := h', toks := tk' })
    (hraise : ∀ e C a0 h' tk', X C → Flew (env :: l) s.heap e C a0 h' → E (.ref e) { s with heap := h', toks := tk' }) :
    wpG (model W.prog W.w) A (call (.ref f) vs kw) Q E s := by
  refine wpG_call (codeG_le hh hdp hA.symm rfl hun (C base (env :: l) s _ HB (site_of B D F hf hk) (fun v h' tk' hp k => ?_) fun e C a0 h' tk' hx fl => hraise e C a0 h' tk' hx fl))
  obtain ⟨g', T', F', N', B', D', _⟩ := turned B D F N T hf k
  exact hret v h' tk' g' hp T' F' N' B' (HB.1.keeps B'.stays) (HB.2.keeps B'.stays) D'
/-- a call of a def by its name -/
theorem callNameG {mg mb : PySem.Str → Option Value} {K : Frag} {M : Model} {cn : PySem.Str} {cs : Scope} {ccd : Value} {a : Addr} {p : Program} {loose : List PySem.Str} {x : PySem.Str} {np pos : Pos} {e : Expr} {rest : List Expr} (F : Fr g L s.heap m) (X₀ : K.In g) (T : TopRead p loose mg mb g)
    (ex : nsIn K mainGlobals x = some (some (.ref f))) (hk : keepIn K (.ref f) = true)
    (h : wpAny M A (spliced (backTo pos (starEach (e :: rest) (envOf cn cs L a ccd)))) (fun vs s₁ => K.In s₁.heap ∧ wpG M A (call (.ref f) vs) Q E s₁) E s)
    (hks : cs.kind = .function) (hx : (envOf cn cs L a ccd).kindOf x = some .globalImplicit) (hd : (x == ("__debug__" : PySem.Str)) = false)
    (he : starEach (e :: rest) (envOf cn cs L a ccd) = (false, eval e (envOf cn cs L a ccd)) :: starEach rest (envOf cn cs L a ccd)) (hplain : (backTo pos (starEach rest (envOf cn cs L a ccd))).any (·.1) = false) :
    wpG M A (eval (.Call (.Name x np) (e :: rest) [] pos) (envOf cn cs L a ccd)) Q E s := by
  rw [arm_eval_Call_Name']
  refine wpG_bind (wpG_of (name_K F X₀ T ex ?_ hks hx hd))
  show wpG M A (callWith pos (.ref f) [] (backTo pos (starEach (e :: rest) (envOf cn cs L a ccd))) []) Q E s
  rw [he] at h ⊢
  refine callWith_ofG (by show ((false || (backTo pos (starEach rest (envOf cn cs L a ccd))).any (·.1)) || false) = false; rw [hplain]; rfl) (keeps_K hk) (wpG_of (evalArgs_plain h))
end
end
-- GB
section
namespace BI
theorem bt_mro : mroOf (.type "bytearray") = pure [.type "bytearray", .type "object"] := by rw [mroOf_type]; kernel_rfl
theorem bt_made : Bind.madeBy (.type "bytearray") = pure (some "bytearray.__new__") := madeBy_type bt_mro (by rw [typeLookup_type, builtinLookup_eq_fast]; kernel_rfl) (by decide +kernel)
theorem bt_typeCall (a : Value) : checkTypeCall "bytearray" ⟨[a], []⟩ = pure () := by kernel_rfl
theorem bt_newCall (a : Value) : checkBuiltinCall "bytearray.__new__" ⟨[.type "bytearray", a], []⟩ = pure () := by kernel_rfl
theorem bt_initCall (x a : Value) : argsOk "bytearray.__init__" ⟨[x, a], []⟩ := by unfold argsOk; kernel_rfl
theorem bt_plain : plainId "bytearray.__new__" = true := by decide +kernel
theorem bt_slot_init : Slot "bytearray" "__init__" "bytearray.__init__" :=
  .of (owner := "bytearray") (n := "__init__") (by rw [typeLookup_type, builtinLookup_eq_fast]; kernel_rfl) (by decide +kernel) (by decide +kernel) (by decide +kernel)
    (by first | exact .inl (by decide +kernel) | exact .inr (by decide +kernel)) (by rw [isSubtype_type]; kernel_rfl)
theorem bt_entry_new : entryFor table "bytearray.__new__" = some Builtin.«list.__new__» :=
  entryFor_alias (id' := "list.__new__") (by kernel_rfl) (by first | rfl | decide +kernel | (unfold String.splitOn; simp +decide [String.splitOnAux])) (by decide +kernel) (by kernel_rfl)
theorem bt_entry_init : entryFor table "bytearray.__init__" = some Builtin.«bytearray.__init__» := by first | exact entryFor_of_fast (by kernel_rfl) | exact entryFor_of_tree (by kernel_rfl)
theorem bt_bind (v : Value) : Builtin.Bytes.bindOptional "bytearray.__init__" "bytearray" ["source", "encoding", "errors"] [v] [] = pure [some v, none, none] := by kernel_rfl
theorem bt_can : ((Manifest.find? "bytearray").bind (·.mro.findSome? fun t => (Manifest.find? t).bind fun b => if b.noNew then some true else if b.attrs.any (·.1 == "__new__") then some false else none)).getD false = false := by decide +kernel
theorem by_no_index : typeLookup (.type "bytes") "__index__" = pure none := by rw [typeLookup_type, builtinLookup_eq_fast]; kernel_rfl
end BI
set_option maxRecDepth 1000000 in
set_option maxHeartbeats 4000000 in
theorem owner_ba_new : ("bytearray.__new__".splitOn ".__new__").headD "" = "bytearray" := by simp +decide [String.splitOn, String.splitOnAux]
section
variable {prog : Program} {w : World} {A : Around} {E : Value → Shared → Prop} {s : Shared}
theorem code_ba_new (a : Value) {Q₁ : Value → Shared → Prop}
    (h : Q₁ (.ref s.heap.objs.size) { s with heap := s.heap.push { cls := .type "bytearray", data := .bytearray #[] } }) :
    codeAny (model prog w) A (.call (.builtin "bytearray.__new__") ⟨[.type "bytearray", a], []⟩) (wants Q₁ E) s := by
  refine codeAny_of_tree ?_
  show wpAny _ A.in1 (do checkBuiltinCall "bytearray.__new__" ⟨[.type "bytearray", a], []⟩; again (.builtin "bytearray.__new__" ⟨[.type "bytearray", a], []⟩)) _ _ s
  refine wpAny_bind (wpAny_of_eq (BI.bt_newCall a) (wpAny_pure ⟨plainId_quiet BI.bt_plain _, codeAny_builtin_stack BI.bt_entry_new rfl fun p st => ?_⟩))
  rw [Around.under_plainId BI.bt_plain _]
  have hsub := BI.ba_sub
  have hown := owner_ba_new
  obtain ⟨hp, g, d, tk, os⟩ := s
  simp only [hown]
  wp_walk
  exact h
theorem wpG_if_false {M : Model} {α : Type} {c : Bool} {a b : Sem α} {Q : α → Shared → Prop} (hc : c = false) (h : wpG M A b Q E s) : wpG M A (if c = true then a else b) Q E s := by
  subst hc
  exact h
theorem ba_init {a : Addr} {c : Array UInt8} {b : Array UInt8} {t : Tok} {R : Fin → Shared → Prop} {ER : Value → Shared → Prop} (ho : s.heap.get? a = some { cls := .type "bytearray", data := .bytearray c }) (hz : b.size ≤ sizeLine)
    (h : ∀ h', (∀ x o, x ≠ a → s.heap.get? x = some o → h'.get? x = some o) → h'.get? a = some { cls := .type "bytearray", data := .bytearray b } → R (.done (.ret .none)) { s with heap := h' }) :
    wpG (model prog w) A (Builtin.«bytearray.__init__» ⟨[.ref a, .bytes b t], []⟩) R ER s := by
  have hT : s.TypeIs (.ref a) "bytearray" := ⟨_, ho, rfl⟩
  unfold Builtin.«bytearray.__init__»
  refine wpG_bind (wpG_of ?_)
  unfold Builtin.Bytes.ownRelease
  refine wpAny_bind (ba_own ho rfl BI.ba_release (by decide +kernel) (by decide +kernel) (wpAny_pure ?_))
  refine wpG_if_false rfl ?_
  refine wpG_bind (wpG_of (wpAny_of_eq (BI.bt_bind _) ?_))
  refine wpG_bind (wpG_of (wpAny_of_eq (a := ()) rfl ?_))
  refine wpG_bind (wpG_of (wpAny_of_eq (a := ()) rfl ?_))
  refine wpG_bind ?_
  show wpG _ _ (Builtin.Bytes.exported (.ref a) >>= fun b => _) _ _ _
  refine wpG_bind (exported_no (wpG_of ?_))
  show wpAny _ _ (Builtin.Bytes.exportsOf (.ref a) >>= fun x => pure (decide (x > 0))) _ _ _
  refine wpAny_bind ?_
  show wpAny _ _ (load a >>= _) _ _ _
  refine wpAny_bind (wpAny_load ho (wpAny_pure (wpAny_pure (wpG_of ?_))))
  refine bm_if_false rfl ?_
  refine wpAny_bind ?_
  show wpAny _ _ (updateBytearray a (fun _ => #[])) _ _ _
  unfold updateBytearray
  refine wpAny_bind (wpAny_load ho ?_)
  show wpAny _ _ (update a (Obj.mapBytearray (fun _ => #[])) >>= fun _ => lookBehind a) _ _ _
  refine wpAny_bind (wpAny_update ho ?_)
  have h1 : (s.heap.update a (Obj.mapBytearray (fun _ => #[]))).get? a = some { cls := .type "bytearray", data := .bytearray #[] } := Heap.get?_update_self (Obj.mapBytearray (fun _ => #[])) ho rfl
  refine wpAny_lookBehind h1 rfl ?_
  dsimp only
  refine wpAny_bind (wpAny_of_eq (a := none) rfl ?_)
  refine bm_if_false rfl ?_
  refine wpAny_bind (wpAny_of_eq (a := ()) rfl ?_)
  refine wpAny_bind (wpAny_specialOf (typeIs_bytes _ b t) BI.by_no_index ?_)
  refine bm_if_false rfl ?_
  refine wpAny_bind (wpAny_of_eq KBy.buffer_eq ?_)
  dsimp only
  refine wpAny_bind (wpAny_rule ?_)
  refine wpAny_bind ?_
  show wpAny _ _ (updateBytearray a (fun _ => b)) _ _ _
  unfold updateBytearray
  refine wpAny_bind (wpAny_load h1 ?_)
  show wpAny _ _ (update a (Obj.mapBytearray (fun _ => b)) >>= fun _ => lookBehind a) _ _ _
  refine wpAny_bind (wpAny_update h1 ?_)
  have h2 : ((s.heap.update a (Obj.mapBytearray (fun _ => #[]))).update a (Obj.mapBytearray (fun _ => b))).get? a = some { cls := .type "bytearray", data := .bytearray b } := Heap.get?_update_self (Obj.mapBytearray (fun _ => b)) h1 rfl
  refine wpAny_lookBehind h2 ?_ ?_
  · show (if b.size > sizeLine then some "bytearray:memory" else none) = none
    rw [if_neg (Nat.not_lt.mpr hz)]
  · exact wpAny_pure (h _ (fun x o hx e => (Heap.get?_update_other _ _ (Ne.symm hx)).trans ((Heap.get?_update_other _ _ (Ne.symm hx)).trans e)) h2)
end
end
-- GC
section
section
variable {prog : Program} {w : World} {A : Around} {E : Value → Shared → Prop} {s : Shared}
theorem codeG_builtin {id : String} {args : Args} {b : Builtin} {R : Result → Shared → Prop} (hb : entryFor table id = some b)
    (h : wpG (model prog w) (A.under (.builtin id args)) (b args)
      (fun fin s' => match fin with | .done f => R (.ok f) s' | .again c' => c'.quiet = true ∧ Decent c' = true ∧ codeG (model prog w) A c' R s') (fun e s' => R (.error e) s') s) :
    codeG (model prog w) A (.builtin id args) R s := by
  refine codeG_of_tree ?_
  show wpG _ _ (match entryFor table id with | some b => b args | none => unsupported ((withoutEnding? id "#data").getD id)) _ _ s
  rw [hb]; exact h
theorem codeG_of_any {c : Code} {R : Result → Shared → Prop} (h : codeAny (model prog w) A c R s) : codeG (model prog w) A c R s := codeG_of h
theorem wpG_if_true {M : Model} {α : Type} {c : Bool} {a b : Sem α} {Q : α → Shared → Prop} (hc : c = true) (h : wpG M A a Q E s) : wpG M A (if c = true then a else b) Q E s := by
  subst hc
  exact h
theorem decent_of {id : String} {as : Args} (h : badIds.contains id = false) : Decent (.builtin id as) = true := by
  show (!badIds.contains id) = true
  rw [h]; rfl
theorem ba_call {b : Array UInt8} {t : Tok} {Q : Value → Shared → Prop} (hz : b.size ≤ sizeLine)
    (h : ∀ a h', s.heap.get? a = none → s.heap.objs.size ≤ a → (∀ x o, s.heap.get? x = some o → h'.get? x = some o) → h'.get? a = some { cls := .type "bytearray", data := .bytearray b } → Q (.ref a) { s with heap := h' }) :
    wpG (model prog w) A (call (.type "bytearray") [.bytes b t]) Q E s := by
  refine wpG_call (codeG_of_tree (wpG_of ?_))
  show wpAny _ _ (callAny (.type "bytearray") _) _ _ _
  refine wpAny_pure ⟨Code.quiet_builtin _ (by decide +kernel), decent_of (by decide +kernel), codeG_builtin F.entry_type_call ?_⟩
  rw [Around.under_plain (weight_type_call_type "bytearray" _ []) rfl]
  unfold Builtin.«type.__call__»
  dsimp only
  refine wpG_if_false (by decide) ?_
  have h2 := BI.bt_can
  refine wpG_if_false h2 ?_
  refine wpG_bind (wpG_of (wpAny_of_eq (BI.bt_typeCall _) ?_))
  refine wpG_bind (wpG_of (wpAny_of_eq BI.bt_mro ?_))
  refine wpG_if_false rfl ?_
  refine wpG_bind (wpG_of (wpAny_of_eq BI.bt_made ?_))
  dsimp only
  refine wpG_bind (wpG_pure ?_)
  refine wpG_bind (wpG_of (wpAny_holding (wpAny_call (code_ba_new (Q₁ := fun obj s₁ => _) _ ?_))))
  have hg : (s.heap.push { cls := .type "bytearray", data := .bytearray #[] }).get? s.heap.objs.size = some { cls := .type "bytearray", data := .bytearray #[] } := Heap.get?_push_size _ rfl
  have hT : ({ s with heap := s.heap.push { cls := .type "bytearray", data := .bytearray #[] } } : Shared).TypeIs (.ref s.heap.objs.size) "bytearray" := ⟨_, hg, rfl⟩
  refine wpG_bind (wpG_of (wpAny_isInstance hT BI.ba_sub ?_))
  refine wpG_if_false rfl ?_
  refine wpG_bind (wpG_holding ?_)
  unfold callSpecial?
  refine wpG_bind (wpG_of (wpAny_specialOf hT BI.bt_slot_init.lookup ?_))
  dsimp only
  refine wpG_holding ?_
  refine wpG_bind (wpG_of (wpAny_of_eq (BI.bt_slot_init.bind _) ?_))
  dsimp only
  refine wpG_bind (wpG_call (codeG_of_tree (wpG_of ?_)))
  show wpAny _ _ (do checkBuiltinCall "bytearray.__init__" ⟨[.ref s.heap.objs.size, .bytes b t], []⟩; again (.builtin "bytearray.__init__" ⟨[.ref s.heap.objs.size, .bytes b t], []⟩)) _ _ _
  refine wpAny_bind (BI.bt_slot_init.check _ _ _ _ _ _ _ _ hT (BI.bt_initCall _ _) ?_)
  refine wpAny_pure ⟨plainId_quiet BI.bt_slot_init.plain _, decent_of (by decide +kernel), codeG_builtin BI.bt_entry_init ?_⟩
  rw [Around.under_plainId BI.bt_slot_init.plain _]
  refine ba_init hg hz fun h' keep hn => ?_
  dsimp only
  refine wpG_pure ?_
  dsimp only
  refine wpG_if_false rfl ?_
  refine wpG_pure ?_
  refine h _ h' (Heap.get?_none_of_le (Nat.le_refl _)) (Nat.le_refl _) (fun x o e => keep x o (Nat.ne_of_lt (Heap.lt_size e)) (Heap.get?_push_of_some _ e)) hn
end
end
-- WF
section
section
variable {prog : Program} {w : World} {A : Around} {E : Value → Shared → Prop} {s : Shared} {env : Env}
theorem codeG_block {body : List Stmt} {R : Result → Shared → Prop} (h : codeAny (model prog w) A (.block body env) R s) : codeG (model prog w) A (.block body env) R s := codeG_of h
/-- a for loop over clean stacks whose turns raise nothing -/
theorem forLoopG {target : Expr} {it : Value} {body : List Stmt} {Q : Flow → Shared → Prop} {X : Value → Shared → Prop} (J : Nat → Shared → Prop) (J' : Nat → Value → Shared → Prop) (Jend : Shared → Prop) (n : Nat)
    (hnext : ∀ i s, J i s → i < n → ∀ (Q : Option Value → Shared → Prop) (E : Value → Shared → Prop), (∀ v s', J' i v s' → Q (some v) s') → wpAny (model prog w) A (pyNext it) Q E s)
    (hend : ∀ s, J n s → ∀ (Q : Option Value → Shared → Prop) (E : Value → Shared → Prop), (∀ s', Jend s' → Q none s') → wpAny (model prog w) A (pyNext it) Q E s)
    (hbody : ∀ i v s, i < n → J' i v s → wpG (model prog w) A (assign target env v) (fun _ s₂ => wpG (model prog w) A (execs body env) (fun f s₃ => match f with | .next => J (i + 1) s₃ | .cont => J (i + 1) s₃ | .brk => Q .next s₃ | .ret v => Q (.ret v) s₃) (fun _ _ => False) s₂) (fun _ _ => False) s)
    (hdone : ∀ s, Jend s → Q .next s) (ht : ∀ v, letOwnedTupleGo target it v = pure ()) :
    ∀ (k i : Nat) (s : Shared), n - i = k → i ≤ n → J i s → codeG (model prog w) A (.forLoop target it body [] env) (fun r s' => match r with | .ok f => Q f s' | .error e => X e s') s := by
  intro k
  induction k with
  | zero =>
    intro i s hk hle hJ
    have : i = n := by omega
    subst this
    refine codeG_of_tree ?_
    show wpG _ _ ((forTurn target it body [] env).onRaise (fun x => do noteFrame x env; theTreesLotGoes x)) _ _ s
    refine wpG_onRaise (wpG_mono (Q := fun fin s' => fin = .again (.block [] env) ∧ Jend s') (E := fun _ _ => False) ?_ (fun fin s' h => ?_) (fun _ _ h => h.elim))
    · simp only [forTurn]
      refine wpG_bind (wpG_standAt (wpG_bind (wpG_onRaise (wpG_of (hend s hJ _ _ fun s' hs => ?_)))))
      exact wpG_pure ⟨rfl, hs⟩
    · obtain ⟨rfl, hs⟩ := h
      exact ⟨rfl, rfl, codeG_of (codeAny_block (wpAny_execs_nil (hdone s' hs)))⟩
  | succ k ih =>
    intro i s hk hle hJ
    have hlt : i < n := by omega
    refine codeG_of_tree ?_
    show wpG _ _ ((forTurn target it body [] env).onRaise (fun x => do noteFrame x env; theTreesLotGoes x)) _ _ s
    refine wpG_onRaise (wpG_mono (Q := fun fin s' => (fin = .again (.forLoop target it body [] env) ∧ J (i + 1) s') ∨ (∃ f, fin = .done f ∧ Q f s')) (E := fun _ _ => False) ?_ (fun fin s' h => ?_) (fun _ _ h => h.elim))
    · simp only [forTurn]
      refine wpG_bind (wpG_standAt (wpG_bind (wpG_onRaise (wpG_of (hnext i s hJ hlt _ _ fun v s' hs => ?_)))))
      refine wpG_bind (wpG_of (wpAny_of_eq (ht _) ?_))
      refine wpG_bind (wpG_mono (hbody i v s' hlt hs) (fun _ s₂ h₂ => wpG_bind (wpG_mono h₂ (fun f s₃ h₃ => ?_) fun _ _ h => h)) fun _ _ h => h)
      cases f with
      | next => exact wpG_pure (.inl ⟨rfl, h₃⟩)
      | cont => exact wpG_pure (.inl ⟨rfl, h₃⟩)
      | brk => exact wpG_pure (.inr ⟨_, rfl, h₃⟩)
      | ret v => exact wpG_pure (.inr ⟨_, rfl, h₃⟩)
    · rcases h with ⟨rfl, hs⟩ | ⟨f, rfl, hs⟩
      · exact ⟨rfl, rfl, ih (i + 1) s' (by omega) (by omega) hs⟩
      · exact hs
theorem wpG_For {target iter : Expr} {body orelse : List Stmt} {pos : Pos} {Q : Flow → Shared → Prop}
    (h : wpAny (model prog w) A (eval iter env) (fun x s₁ => wpAny (model prog w) A (pyIter x) (fun it s₂ =>
      codeG (model prog w) A (.forLoop target it body orelse env) (fun r s' => match r with | .ok f => Q f s' | .error e => cameBackBy (model prog w) A env E e s') s₂) E s₁) E s)
    (hs : ∀ x, foldedSetIterable iter env x = pure x) :
    wpG (model prog w) A (exec (.For target iter body orelse pos) env) Q E s := by
  rw [exec_For]
  refine wpG_bind (wpG_standAt (wpG_bind (wpG_of (wpAny_mono h (fun x s₁ h₁ => ?_) fun _ _ h => h))))
  refine wpG_bind (wpG_of (wpAny_of_eq (hs x) ?_))
  refine wpG_bind (wpG_standAt (wpG_bind (wpG_of (wpAny_holding (wpAny_mono h₁ (fun it s₂ h₂ => ?_) fun _ _ h => h)))))
  unfold runOwn
  refine wpG_onRaise (wpG_run rfl (codeG_mono h₂ fun r s' hr => ?_))
  cases r with
  | ok f => exact hr
  | error e => exact wpG_of hr
end
end
-- GK
section
section
variable {W : Wd} {d u : Nat} {l : List Env} {base : Heap} {s : Shared} {R : Result → Shared → Prop}
theorem enterCG {name qual : PySem.Str} {params : Arguments} {body : List Stmt} {scope : Scope} {dV kV doc pm cdv ct oc : Value} {an od : Option Addr} {osl : Array (Option Value)} {f : Addr} {args : Args} {binds : List (PySem.Str × Value)}
    (HB : Base W base) (S : Site base l s.heap)
    (ho : (Mine.hd.heap_1_1 W.w.params).lookup f = some ⟨oc, od, .func (fnOf name qual params body scope dV kV doc pm an cdv ct), osl⟩) (hcd : codeIn (Mine.hd.heap_1_1 W.w.params) cdv qual = true)
    (hd : d < recursionLimit) (hbind : BindsTo s (fnOf name qual params body scope dV kV doc pm an cdv ct) args binds)
    (hkind : (binds.all fun y => scope.names.lookup y.1 == some .local || scope.names.lookup y.1 == some .cell) = true) (hnd : ((cellsFrom 0 scope.names []).map (·.1)).Nodup)
    (h : ∀ g L h₁ tk cells, g = s.heap → Fr g L h₁ (bindL (envOfC qual scope L f cdv).kindOf binds fun _ => none) → News g L h₁ cells → CellsAre (bindC (envOfC qual scope L f cdv).kindOf binds fun _ => none) (cellsFrom (L + 1) scope.names []) cells → Below (LV d u l) base l g → (Mine.hd.heap_1_1 W.w.params).In g → Top W.p W.loose W.mean W.mg W.mb g → KtsDicts (fr l) g →
      wpG (model W.prog W.w) ((LV d u l).deeper (envOfC qual scope L f cdv)) (execs body (envOfC qual scope L f cdv))
        (fun fl s' => R (.ok (.ret (match fl with | .ret v => v | _ => .none))) s')
        (fun e s' => wpAny (model W.prog W.w) ((LV d u l).deeper (envOfC qual scope L f cdv)) (leaving (envOfC qual scope L f cdv) e) (fun _ s'' => R (.error e) s'') (fun e' s'' => R (.error e') s'') s')
        { s with heap := h₁, toks := tk })
    (hco : scope.isCoroutine = false) (hgen : scope.isGenerator = false) (hk : scope.kind = .function) : codeG (model W.prog W.w) (LV d u l) (.call (.ref f) args) R s := by
  have X := HB.1.keeps S.stays
  have T := HB.2.keeps S.stays
  refine codeG_call_function (fd := fnOf name qual params body scope dV kV doc pm an cdv ct) (body := body) hd (X _ _ ho) rfl hco hgen rfl (codeRec_of X hcd) (hbind _ _ _ _ ?_)
  refine wpAny_newFunctionEnv_cells hk (kindsX hkind _) fun env' he s' x => ?_
  subst he
  refine ⟨T.nolimit.keeps x.toInCall.keep, codeG_func ?_⟩
  obtain ⟨h₁, tk, rfl, _⟩ := x.done
  have hk₁ := x.toInCall.keep
  obtain ⟨cells, NC, Y⟩ := Cl.news (h₀ := s.heap) (Nat.le_refl _) fun n c hm => ⟨x.cell n c (lookup_of_mem_nodup (cellsFrom_names scope.names 0 (s.heap.objs.size + 1) [] [] rfl ▸ hnd) hm), x.above n c hm⟩
  exact h _ s.heap.objs.size h₁ tk cells rfl ⟨x.toInCall.ns, hk₁, Nat.le_refl _⟩ NC Y ⟨rfl, S.stays, S.frames⟩ X T S.dicts
end
end
-- FN
section
def FlewN (l : List Env) (h : Heap) (e : Addr) (C a0 : Value) (h' : Heap) : Prop := Flew l h e C a0 h' ∧ Ctx0 e h'
/-- as Spec0: what flies bears no other exception -/
def Spec0N (W : Wd) (d u : Nat) (f : Addr) (args : Args) (P : Value → Prop) (X : Value → Prop) : Prop :=
  ∀ (base : Heap) (l : List Env) (s : Shared) (R : Result → Shared → Prop), Base W base → Site base l s.heap →
    (∀ v h' tk', P v → (∀ b o, s.heap.get? b = some o → h'.get? b = some o) → R (.ok (.ret v)) { s with heap := h', toks := tk' }) →
    (∀ e C a0 h' tk', X C → FlewN l s.heap e C a0 h' → R (.error (.ref e)) { s with heap := h', toks := tk' }) →
    codeAny (model W.prog W.w) (LV d u l) (.call (.ref f) args) R s
def SpecTN (W : Wd) (d u : Nat) (f : Addr) (args : Args) (P : Heap → Value → Heap → Prop) (X : Value → Prop) : Prop :=
  ∀ (base : Heap) (l : List Env) (s : Shared) (R : Result → Shared → Prop), Base W base → Site base l s.heap →
    (∀ v h' tk', P s.heap v h' → (∀ b o, s.heap.get? b = some o → h'.get? b = some o) → R (.ok (.ret v)) { s with heap := h', toks := tk' }) →
    (∀ e C a0 h' tk', X C → FlewN l s.heap e C a0 h' → R (.error (.ref e)) { s with heap := h', toks := tk' }) →
    codeAny (model W.prog W.w) (LV d u l) (.call (.ref f) args) R s
section
variable {W : Wd} {d u : Nat} {l : List Env} {base g g₀ : Heap} {A A₀ : Around} {E : Value → Shared → Prop} {s : Shared} {L : Addr} {m : PySem.Str → Option Value} {news : List (Addr × Obj)} {env : Env} {f : Addr} {vs : List Value} {kw : List (PySem.Str × Value)} {P X : Value → Prop} {PT : Heap → Value → Heap → Prop} {Q : Value → Shared → Prop}
theorem use0N (C : Spec0N W d u f ⟨vs, kw⟩ P X) (HB : Base W base) (B : Below A₀ base l g) (D : KtsDicts (fr l) g) (F : Fr g L s.heap m) (N : News g L s.heap news) (hA : A.frames = some (env :: l)) (hf : env.frame = some L) (hk : env.scope.kind = .function)
    (hh : A.handled = none) (hdp : A.depth ≤ d) (hun : A.units ≤ u)
    (hret : ∀ v h' tk', P v → Fr g L h' m → News g L h' news → Q v { s with heap := h', toks := tk' })
    (hraise : ∀ e C a0 h' tk', X C → FlewN (env :: l) s.heap e C a0 h' → E (.ref e) { s with heap := h', toks := tk' }) :
    wpAny (model W.prog W.w) A (call (.ref f) vs kw) Q E s := by
  refine wpAny_call (code_le hh hdp hA.symm rfl hun (C base (env :: l) s _ HB (site_of B D F hf hk) (fun v h' tk' hp k => ?_) fun e C a0 h' tk' hx fl => hraise e C a0 h' tk' hx fl))
  exact hret v h' tk' hp (F.keeps k) fun q hq => ⟨k _ _ (N q hq).1, (N q hq).2⟩
theorem useTN (C : SpecTN W d u f ⟨vs, kw⟩ PT X) (HB : Base W base) (B : Below A₀ base l g) (D : KtsDicts (fr l) g) (F : Fr g L s.heap m) (N : News g L s.heap news) (hA : A.frames = some (env :: l)) (hf : env.frame = some L) (hk : env.scope.kind = .function)
    (hh : A.handled = none) (hdp : A.depth ≤ d) (hun : A.units ≤ u)
    (hret : ∀ v h' tk', PT s.heap v h' → Fr g L h' m → News g L h' news → Q v { s with heap := h', toks := tk' })
    (hraise : ∀ e C a0 h' tk', X C → FlewN (env :: l) s.heap e C a0 h' → E (.ref e) { s with heap := h', toks := tk' }) :
    wpAny (model W.prog W.w) A (call (.ref f) vs kw) Q E s := by
  refine wpAny_call (code_le hh hdp hA.symm rfl hun (C base (env :: l) s _ HB (site_of B D F hf hk) (fun v h' tk' hp k => ?_) fun e C a0 h' tk' hx fl => hraise e C a0 h' tk' hx fl))
  exact hret v h' tk' hp (F.keeps k) fun q hq => ⟨k _ _ (N q hq).1, (N q hq).2⟩
theorem leave_onN {h : Heap} {e : Addr} {C a0 : Value} {Q : Unit → Shared → Prop} (D : KtsDicts (fr l) g) (F : Fr g L h m) (T : KtsTurn (fr l) g₀ g) (fl : FlewN (env :: l) h e C a0 s.heap) (hA : A.frames = some (env :: l)) (hf : env.frame = some L)
    (hQ : ∀ h', FlewN l g₀ e C a0 h' → Q () { s with heap := h' }) : wpAny (model W.prog W.w) A (leaving env (.ref e)) Q E s := by
  refine wpAny_mono (wpAny_keep keep_leaving fl.2 (leave_on (W := W) (E := E) (Q := fun _ s' => ∃ h', s' = { s with heap := h' } ∧ Flew l g₀ e C a0 h') D F T fl.1 hA hf fun h' x => ⟨h', rfl, x⟩)) ?_ ?_
  · rintro _ _ ⟨⟨h', rfl, x⟩, c⟩; exact hQ h' ⟨x, c⟩
  · rintro _ _ ⟨x, _⟩; exact x
theorem leave_madeN {h : Heap} {e : Addr} {C : Value} {as : List Value} {Q : Unit → Shared → Prop} (B : Below A₀ base l g) (D : KtsDicts (fr l) g) (F : Fr g L h m) (T : KtsTurn (fr l) g₀ g) (hx : Heap.MadeExcOf h s.heap e C as) (hA : A.frames = some (env :: l)) (hf : env.frame = some L) (hk : env.scope.kind = .function)
    (hQ : ∀ h' t, FlewN l g₀ e C (.ref t) h' → Q () { s with heap := h' }) : wpAny (model W.prog W.w) A (leaving env (.ref e)) Q E s := by
  obtain ⟨t, ht, _, _⟩ := hx.there
  refine wpAny_mono (wpAny_keep keep_leaving ⟨_, _, ht, rfl, rfl⟩ (leave_made (W := W) (E := E) (Q := fun _ s' => ∃ h' t, s' = { s with heap := h' } ∧ Flew l g₀ e C (.ref t) h') B D F T hx hA hf hk fun h' t x => ⟨h', t, rfl, x⟩)) ?_ ?_
  · rintro _ _ ⟨⟨h', t, rfl, x⟩, c⟩; exact hQ h' t ⟨x, c⟩
  · rintro _ _ ⟨x, _⟩; exact x
end
theorem Spec0N.plain {W : Wd} {d u : Nat} {f : Addr} {args : Args} {P X : Value → Prop} (C : Spec0N W d u f args P X) : Spec0 W d u f args P X :=
  fun base l s R HB S hr he => C base l s R HB S hr fun e Cc a0 h' tk' hx fl => he e Cc a0 h' tk' hx fl.1
/-! an exception raised in a handler with a name -/
theorem frames_any {h h6 base bs : Heap} : ∀ {k : List Env}, h.FunFrames base k → (∀ x ∈ fr k, bs.get? x = none) → (∀ b o, b ∈ fr k → h.get? b = some o → ∃ o', h6.get? b = some o' ∧ o'.data = o.data) → h6.FunFrames bs k
  | [], _, _, _ => trivial
  | env :: r, ⟨a, ⟨L1, o, hf, _, ho, hd⟩, b⟩, hm, hk => by
    have m1 : L1 ∈ fr (env :: r) := by rw [fr, List.filterMap_cons, hf]; exact List.mem_cons_self ..
    have m2 : ∀ x, x ∈ fr r → x ∈ fr (env :: r) := fun x hx => by rw [fr, List.filterMap_cons, hf]; exact List.mem_cons_of_mem _ hx
    obtain ⟨o', e1, e2⟩ := hk L1 o m1 ho
    exact ⟨a, ⟨L1, o', hf, hm L1 m1, e1, fun vs q => hd vs (e2 ▸ q)⟩, frames_any b (fun x hx => hm x (m2 x hx)) fun b o hb => hk b o (m2 b hb)⟩
structure HeldS (l : List Env) (L : Addr) (h : Heap) (e : Addr) (C a0 : Value) (h6 : Heap) : Prop where
  same : ∀ b o, h.get? b = some o → b ≠ L → b ∉ fr l → h6.get? b = some o
  frs : ∀ b o, h.get? b = some o → b ∈ fr l → ∃ sl, h6.get? b = some { o with slots := sl }
  tr : h6.TracedAtW (hideAll h (L :: fr l)) e C a0 (rawInt L)
  new : h.get? e = none
section
variable {W : Wd} {d u : Nat} {l : List Env} {base g g₀ : Heap} {A A₀ : Around} {E : Value → Shared → Prop} {s : Shared} {L : Addr} {m : PySem.Str → Option Value} {env : Env}
theorem leave_held {h : Heap} {e : Addr} {C a0 : Value} {Q : Unit → Shared → Prop} (B : Below A₀ base l g) (D : KtsDicts (fr l) g) (F : Fr g L h m) (T : KtsTurn (fr l) g₀ g) (H : HeldS l L h e C a0 s.heap) (hf : env.frame = some L)
    (hQ : ∀ h', Flew l g₀ e C a0 h' → Q () { s with heap := h' }) : wpAny (model W.prog W.w) A (leaving env (.ref e)) Q E s := by
  have nL : g.get? L = none := kts_self F
  have hgL : ∀ b o, g.get? b = some o → b ≠ L := fun b o q z => by subst z; rw [nL] at q; cases q
  have hfd : ∀ b, b ∈ fr l → ∃ o es n, g.get? b = some o ∧ h.get? b = some o ∧ o.data = .dict es n := fun b hb => by
    obtain ⟨o, es, n, ho, hd⟩ := D b hb
    exact ⟨o, es, n, ho, F.keep _ _ ho, hd⟩
  unfold leaving
  refine wpAny_bind (wpAny_noteFrame_againW hf H.tr ?_)
  refine wpAny_setFlight_noneW (base := hideAll h (L :: fr l)) (l := l) (fun b o q => ?_) ?_ H.tr fun h7 k1 k2 k3 k4 => hQ h7 ?_
  · have nm : b ∉ L :: fr l := fun hm => by rw [hideAll_none _ hm] at q; cases q
    exact H.same b o (of_hideAll _ q) (fun z => nm (z ▸ List.mem_cons_self ..)) fun z => nm (List.mem_cons_of_mem _ z)
  · refine frames_any B.frames (fun x hx => hideAll_none _ (List.mem_cons_of_mem _ hx)) fun b o hb ho => ?_
    obtain ⟨sl, hs⟩ := H.frs b o (F.keep _ _ ho) hb
    exact ⟨_, hs, rfl⟩
  have st : (hideAll g₀ (fr l)).StaysIn (hideAll h (L :: fr l)) := fun b o q => by
    have nm : b ∉ fr l := fun hm => by rw [hideAll_none _ hm] at q; cases q
    have e1 := T.other b o (of_hideAll _ q) nm
    exact hideAll_get _ (F.keep b o e1) fun hm => by
      rcases List.mem_cons.mp hm with z | z
      · exact hgL b o e1 z
      · exact nm z
  have new : (hideAll h (L :: fr l)).get? e = none := by
    cases q : (hideAll h (L :: fr l)).get? e with
    | none => rfl
    | some o => have := of_hideAll _ q; rw [H.new] at this; cases this
  have fly2 := fly_anti st (show Heap.FlyingW (hideAll h (L :: fr l)) l e C a0 h7 from ⟨k1, new, k2, k3⟩)
  refine ⟨⟨fun b o q nm => fly2.1 b o (hideAll_get _ q nm), fun b o q hm => ?_⟩, fly2⟩
  obtain ⟨s1, h1⟩ := T.frame b o q hm
  obtain ⟨od, es, n, hd0, hd1, hd2⟩ := hfd b hm
  rw [h1] at hd0
  cases hd0
  obtain ⟨s2, h2⟩ := H.frs b _ hd1 hm
  exact ⟨s2, k4 b _ h2 (fun vs z => by rw [show ({ ({ o with slots := s1 } : Obj) with slots := s2 } : Obj).data = o.data from rfl] at z; rw [show ({ o with slots := s1 } : Obj).data = o.data from rfl] at hd2; rw [hd2] at z; cases z)⟩
end
/-- an exception that a suite has just made -/
structure RaisedS (h : Heap) (s : Shared) (e : Addr) (C a0 : Value) (s' : Shared) : Prop where
  st : ∃ h3 tk3, s' = { s with heap := h3, toks := tk3 }
  keep : ∀ b o, h.get? b = some o → s'.heap.get? b = some o
  new : h.get? e = none
  there : ∃ oe vs, s'.heap.get? e = some oe ∧ oe.cls = C ∧ oe.data = .fields vs ∧ vs[0]? = some a0 ∧ vs[1]? = some .none
section
variable {W : Wd} {l : List Env} {base g g₀ h : Heap} {A₀ : Around} {E : Value → Shared → Prop} {s : Shared} {L a e C Dc : Addr} {a0 cd : Value} {m : PySem.Str → Option Value} {news : List (Addr × Obj)} {name x n : PySem.Str} {scope : Scope} {bmC bmD : List Value} {b₀ : Stmt} {suite : List Stmt} {pos np : Pos} {rest : List ExceptHandler} {Q : Flow → Shared → Prop}
theorem suite_raised {A' : Around} {e2 : Addr} {C2 a2 : Value} {s3 : Shared} {mt : PySem.Str → Option Value} (hA' : A'.frames = some (envOf name scope L a cd :: l)) (B : Below A₀ base l g) (D : KtsDicts (fr l) g) (F : Fr g L h mt) (hR : RaisedS h s e2 C2 a2 s3)
    (hk : scope.kind = .function) (hl : (envOf name scope L a cd).kindOf n = some .local) {N : Value → Shared → Prop} (k : ∀ h6 tk6, HeldS l L h e2 C2 a2 h6 → N (.ref e2) { s with heap := h6, toks := tk6 }) :
    AsSuiteRaised (model W.prog W.w) A' (envOf name scope L a cd) n pos N (.ref e2) s3 := by
  obtain ⟨⟨h3, tk3, rfl⟩, keep, new, oe, vs, he, rfl, hd, v0, v1⟩ := hR
  have keep : ∀ b o, h.get? b = some o → h3.get? b = some o := keep
  have he : h3.get? e2 = some oe := he
  have hfd : ∀ b, b ∈ fr l → ∃ o es n, h.get? b = some o ∧ o.data = .dict es n := fun b hb => by
    obtain ⟨o, es, n, ho, hd⟩ := D b hb
    exact ⟨o, es, n, F.keep _ _ ho, hd⟩
  have S := site_of (s := { s with heap := h }) (env := envOf name scope L a cd) B D F rfl hk
  have newb : (hideAll h (L :: fr l)).get? e2 = none := by
    cases q : (hideAll h (L :: fr l)).get? e2 with
    | none => rfl
    | some o => have := of_hideAll _ q; rw [new] at this; cases this
  have ff : h3.FunFrames (hideAll h (L :: fr l)) (envOf name scope L a cd :: l) :=
    frames_any (base := base) (h := h) S.frames (fun x hx => hideAll_none _ (by rw [fr_cons (L := L) rfl] at hx; exact hx)) fun b o _ ho => ⟨o, keep _ _ ho, rfl⟩
  unfold AsSuiteRaised noteFrame
  dsimp only [show (envOf name scope L a cd).frame = some L from rfl]
  refine wpAny_bind (wpAny_field he hd v1 ?_)
  rw [if_neg (by decide)]
  refine wpAny_entryW hA' ff rfl he (fun b o q => keep _ _ (of_hideAll _ q)) newb hd (Array.getElem?_eq_some_iff.mp v1).1 v0 fun h4 hN => ?_
  obtain ⟨k1, k2, k3, k4⟩ := hN
  have n4 : h4.Ns L mt := Heap.UpToSlots.ns k4 (F.ns.keeps keep)
  refine wpAny_nameGoes hl n4 (by show (scope.kind == .class || (scope.kind == .module && L != mainGlobals)) = false; rw [hk]; rfl) fun h5 m5 n5 sb => ?_
  obtain ⟨oe4, vs4, T, oT, ts, t1, ⟨t2, t3⟩, t4, t5, t6, t7, t8, t9, t10⟩ := k3
  have e2L : e2 ≠ L := fun z => by
    obtain ⟨oL, es, ep, hL, _⟩ := F.ns
    rw [z, hL] at new; cases new
  have TL : T ≠ L := fun z => by
    obtain ⟨oL, es, ep, hL, hLd, _⟩ := n4
    rw [z, hL] at t8; cases t8; rw [hLd] at t9; cases t9
  have t1' : h5.get? e2 = some oe4 := (sb.2 e2 e2L).trans t1
  have t8' : h5.get? T = some oT := (sb.2 T TL).trans t8
  have hsz : 3 < ts.size := (Array.getElem?_eq_some_iff.mp t10).1
  unfold PySem.passOn
  refine wpAny_bind (wpAny_field t1' t4 t5 ?_)
  rw [if_neg (by simp)]
  unfold setFlight
  refine wpAny_bind (wpAny_bind (wpAny_field t1' t4 t5 ?_))
  rw [if_pos (show (Value.ref T != Value.none) = true from by simp)]
  refine wpAny_setField t8' t9 hsz ?_
  refine wpAny_throw (k _ _ ⟨fun b o ho bL bf => ?_, fun b o ho bf => ?_, ?_, new⟩)
  · have b4 := k1 b o (hideAll_get _ ho fun hm => by
      rcases List.mem_cons.mp hm with z | z
      · exact bL z
      · exact bf z)
    have bT : T ≠ b := fun z => by
      have := hideAll_get (L :: fr l) ho fun hm => by
        rcases List.mem_cons.mp hm with z | z
        · exact bL z
        · exact bf z
      rw [← z, t6] at this; cases this
    show (h5.update T _).get? b = _
    rw [Heap.get?_update_other _ _ bT, sb.2 b bL]; exact b4
  · obtain ⟨o2, es, nn, hb1, hb2⟩ := hfd b bf
    rw [ho] at hb1; cases hb1
    obtain ⟨sl, hs⟩ := k4 b o (keep _ _ ho) fun vs z => by rw [hb2] at z; cases z
    have bL : b ≠ L := fun z => by
      obtain ⟨o3, es3, n3, ho3, _⟩ := D b bf
      rw [z, kts_self F] at ho3; cases ho3
    have bT : T ≠ b := fun z => by
      rw [z, hs] at t8; cases t8
      rw [show ({ o with slots := sl } : Obj).data = o.data from rfl, hb2] at t9; cases t9
    refine ⟨sl, ?_⟩
    show (h5.update T _).get? b = _
    rw [Heap.get?_update_other _ _ bT, sb.2 b bL]; exact hs
  · refine ⟨oe4, vs4, T, _, _, ?_, ⟨t2, t3⟩, t4, t5, t6, t7, Heap.get?_update_self _ t8' (Obj.isFreed_of_fields (Obj.data_mapFields t9 _)), Obj.data_mapFields t9 _, ?_⟩
    · show (h5.update T _).get? e2 = _
      rw [Heap.get?_update_other _ _ t7]; exact t1'
    · show (ts.setIfInBounds 3 (rawInt L))[3]? = _
      simp [hsz]
theorem catchAs (HB : Base W base) (B : Below A₀ base l g) (D : KtsDicts (fr l) g) (F : Fr g L h m) (N : News g L h news) (T : KtsTurn (fr l) g₀ g) (fl : FlewN (envOf name scope L a cd :: l) h e (.ref C) a0 s.heap)
    (ex : nsIn (Mine.hd.heap_1_1 W.w.params) mainGlobals x = some (some (.ref Dc))) (hC : ∀ h, (Mine.hd.heap_1_1 W.w.params).In h → ExcAt h C bmC) (hD : ∀ h, (Mine.hd.heap_1_1 W.w.params).In h → ExcAt h Dc bmD)
    (hbase : bmD.contains (.type "BaseException") = true) (hb : (Value.ref C :: bmC).contains (.ref Dc) = true)
    (k : ∀ h' tk' g', KtsTurn (fr l) g₀ g' → Fr g' L h' (fun y => if y = n then some (.ref e) else m y) → News g' L h' news → Below A₀ base l g' → (Mine.hd.heap_1_1 W.w.params).In g' → Top W.p W.loose W.mean W.mg W.mb g' → KtsDicts (fr l) g' → Ctx0 e h' → (∃ ob, h'.get? e = some ob ∧ ob.cls = .ref C) →
      wpAny (model W.prog W.w) ((A₀.deeper (envOf name scope L a cd)).mark (some (.ref e))) (execs (b₀ :: suite) (envOf name scope L a cd)) (fun _ _ => False)
        (fun x s3 => ∃ e2 C2 a2, x = .ref e2 ∧ RaisedS h' { s with heap := h', toks := tk' } e2 C2 a2 s3 ∧ ∀ h6 tk6, HeldS l L h' e2 C2 a2 h6 → E (.ref e2) { s with heap := h6, toks := tk6 }) { s with heap := h', toks := tk' })
    (hk : scope.kind = .function := by rfl) (hx : (envOf name scope L a cd).kindOf x = some .globalImplicit := by rfl) (hd : (x == ("__debug__" : PySem.Str)) = false := by decide) (hl : (envOf name scope L a cd).kindOf n = some .local := by rfl)
    (hE : PassesOwnAt (model W.prog W.w) ((A₀.deeper (envOf name scope L a cd)).mark (some (.ref e))) (A₀.deeper (envOf name scope L a cd)) (envOf name scope L a cd) E := by passes_own) :
    wpAny (model W.prog W.w) (A₀.deeper (envOf name scope L a cd)) (noteFrame (.ref e) (envOf name scope L a cd))
      (fun _ s₂ => wpAny (model W.prog W.w) (A₀.deeper (envOf name scope L a cd)) (setFlight (.ref e) none) (fun _ s₃ =>
        wpAny (model W.prog W.w) (A₀.deeper (envOf name scope L a cd)) (handleBy (.ref e) (envOf name scope L a cd) (.ExceptHandler (some (.Name x np)) (some n) (b₀ :: suite) pos :: rest)) Q E s₃) E s₂) E s := by
  have SD := (site_of (s := { s with heap := h }) (env := envOf name scope L a cd) B D F rfl hk).dicts
  obtain ⟨⟨S, fly⟩, c0⟩ := fl
  refine wpAny_mono (wpAny_keep keep_note c0 (wpAny_looks_onW (E := E) (Q := fun _ s₂ => ∃ h₄, s₂ = { s with heap := h₄ } ∧ Heap.HeldW (hideAll h (fr (envOf name scope L a cd :: l))) (envOf name scope L a cd :: l) e (.ref C) a0 L h₄ ∧ s.heap.UpToSlots h₄) (Around.frames_deeper B.stack) rfl fly fun h₄ held₄ up₄ => ⟨h₄, rfl, held₄, up₄⟩)) ?_ (fun _ _ x => x.1)
  rintro _ _ ⟨⟨h₄, rfl, held₄, up₄⟩, c₄⟩
  refine wpAny_mono (wpAny_keep keep_setFlight c₄ (wpAny_landsW (E := E) (Q := fun _ s₂ => ∃ h₅, s₂ = { s with heap := h₅ } ∧ Heap.FlyingW (hideAll h (fr (envOf name scope L a cd :: l))) (envOf name scope L a cd :: l) e (.ref C) a0 h₅ ∧ h₄.UpToSlots h₅) held₄ fun h₅ fly₅ up₅ => ⟨h₅, rfl, fly₅, up₅⟩)) ?_ (fun _ _ x => x.1)
  rintro _ _ ⟨⟨h₅, rfl, fly₅, up₅⟩, c₅⟩
  have S₅ := same_up S fly₅.1 (up₄.trans up₅) SD
  obtain ⟨g₅, T₅, F₅, N₅, B₅, D₅, _⟩ := turned B D F N T rfl S₅
  have X₅ := HB.1.keeps B₅.stays
  obtain ⟨ob, hob, hobc⟩ := fly₅.there
  refine wpAny_handleBy_cons (codeAny_handlers_test (name_K F₅ X₅ (topRead_of (HB.2.keeps B₅.stays)) ex ?_ hk hx hd)) (by intro q; cases q)
  refine matches_own (hC _ (X₅.keeps F₅.keep)) (hD _ (X₅.keeps F₅.keep)) hob hobc hbase hb (codeAny_handlers_suite_as ?_)
  refine wpAny_mono (wpAny_keep keep_setFlight c₅ (lands_againW (Q := fun _ s₂ => ∃ h₆, s₂ = { s with heap := h₆ } ∧ Heap.FlyingW (hideAll h (fr (envOf name scope L a cd :: l))) (envOf name scope L a cd :: l) e (.ref C) a0 h₆ ∧ h₅.UpToSlots h₆) (E := fun _ _ => False) fly₅ fun h₆ fly₆ up₆ => ⟨h₆, rfl, fly₆, up₆⟩)) ?_ (fun _ _ x => x.1.elim)
  rintro _ _ ⟨⟨h₆, rfl, fly₆, up₆⟩, c₆⟩
  have S₆ := same_up S fly₆.1 ((up₄.trans up₅).trans up₆) SD
  obtain ⟨g₆, T₆, F₆, N₆, B₆, D₆, _⟩ := turned B D F N T rfl S₆
  have e6L : e ≠ L := fun z => by
    obtain ⟨ob6, q1, q2⟩ := fly₆.there
    obtain ⟨oL, es, ep, hL, hLd, _⟩ := F₆.ns
    obtain ⟨_, _, _, oe, vs, _, _, _, r1, _, r3, _⟩ := fly₆
    rw [z, hL] at r1; cases r1; rw [hLd] at r3; cases r3
  obtain ⟨ob6, q1, q2⟩ := fly₆.there
  refine wpAny_storeName_local hl F₆.ns (fun h₇ n₇ sb₇ => ?_) (by show (scope.kind == .class || (scope.kind == .module && L != mainGlobals)) = false; rw [hk]; rfl)
  have F₇ := F₆.set n₇ sb₇
  have N₇ := N₆.set sb₇
  obtain ⟨oc, vc, c1, c2, c3⟩ := c₆
  refine wpAny_mono (k h₇ _ g₆ T₆ F₇ N₇ B₆ (HB.1.keeps B₆.stays) (HB.2.keeps B₆.stays) D₆ ⟨oc, vc, (sb₇.2 e e6L).trans c1, c2, c3⟩ ⟨ob6, (sb₇.2 e e6L).trans q1, q2⟩) (fun _ _ x => x.elim) ?_
  rintro _ s3 ⟨e2, C2, a2, rfl, hR, hN⟩
  exact suite_raised (W := W) (base := base) (A' := (A₀.deeper (envOf name scope L a cd)).mark (some (.ref e))) (s := { s with heap := h₇, toks := _ }) (Around.frames_deeper B.stack) B₆ D₆ F₇ hR hk hl fun h9 tk9 H9 => hE _ _ (hN h9 tk9 H9)
end
end
-- RF
section
theorem entry_unchain : PySem.entryFor table "proto.unchain" = some Builtin.«proto.unchain» := PySem.entryFor_of_tree (by kernel_rfl)
section
variable {M : Model} {prog : Program} {w : World} {A : Around} {s : Shared} {name : PySem.Str} {scope : Scope} {L a : Addr} {cd : Value} {h₀ : Heap} {m mg : PySem.Str → Option Value}
  {x : PySem.Str} {C : Addr} {B V newId initId newId' initId' : String} {bmE bmV : List Value} {np cpos pos : Pos}
theorem call_mix {E : Value → Shared → Prop} {Q : Value → Shared → Prop} {e₀ : PySem.Expr} {rest : List PySem.Expr} (F : Fr h₀ L s.heap m) (hg : h₀.Ns mainGlobals mg) (O : OwnCls x C bmV newId mg h₀) (FE : ExcBaseFacts B newId initId bmE) (FV : ExcBaseFacts V newId' initId' bmV) (hB : bmV.contains (.type B) = true)
    (h : wpAny (model prog w) A (spliced (backTo cpos (starEach (e₀ :: rest) (envOf name scope L a cd)))) (fun vs s₂ => vs.length ≤ sizeLine ∧ (∀ b o, h₀.get? b = some o → s₂.heap.get? b = some o) ∧
      ∀ h' e, Heap.MadeExcOf s₂.heap h' e (.ref C) vs → Q (.ref e) { s₂ with heap := h' }) E s)
    (he : starEach (e₀ :: rest) (envOf name scope L a cd) = (false, eval e₀ (envOf name scope L a cd)) :: starEach rest (envOf name scope L a cd) := by rfl)
    (hplain : (backTo cpos (starEach rest (envOf name scope L a cd))).any (·.1) = false := by rfl)
    (hk : scope.kind = .function := by rfl) (hx : (envOf name scope L a cd).kindOf x = some .globalImplicit := by rfl) (hd : (x == ("__debug__" : PySem.Str)) = false := by decide) :
    wpAny (model prog w) A (eval (.Call (.Name x np) (e₀ :: rest) [] cpos) (envOf name scope L a cd)) Q E s := by
  obtain ⟨bm, N, nm, q, bs, hdct, sn, sub, ab, col, dd, k0, k1, k2, k3, k5, mN, hC, hN, hni, T⟩ := O.obj
  have MF := mix_of FE FV hB T
  have hpl : (backTo cpos (starEach (e₀ :: rest) (envOf name scope L a cd))).any (·.1) = false := by
    rw [he]; show (false || (backTo cpos (starEach rest (envOf name scope L a cd))).any (·.1)) = false; rw [hplain]; rfl
  refine wpAny_Call_ofName (wpAny_mono (ld_own (Q := fun f s₁ => f = .ref C ∧ s₁ = s) F hg O ⟨rfl, rfl⟩ hk hx hd) (fun f s₁ h₁ => ?_) fun _ _ x => x)
  obtain ⟨rfl, rfl⟩ := h₁
  unfold callWith
  refine wpAny_bind (wpAny_holding (wpAny_mono (Q := fun a s₂ => ∃ vs, a = ⟨vs, []⟩ ∧ vs.length ≤ sizeLine ∧ (∀ b o, h₀.get? b = some o → s₂.heap.get? b = some o) ∧
      ∀ h' e, Heap.MadeExcOf s₂.heap h' e (.ref C) vs → Q (.ref e) { s₂ with heap := h' }) ?_ (fun a s₂ h₂ => wpAny_bind (wpAny_standAt ?_)) fun _ _ x => x))
  · rw [he] at h ⊢
    exact Calls.evalArgs_plain (wpAny_mono h (fun vs s₂ h₂ => ⟨vs, rfl, h₂⟩) fun _ _ y => y)
  obtain ⟨vs, rfl, hlen, hkeep, h₂⟩ := h₂
  obtain ⟨hp, g, d, tk, os⟩ := s₂
  simp only [hpl]
  refine wpAny_bind (wpAny_keeperOf_exc (hkeep _ _ hC) ?_)
  exact wpAny_bind (mix_call MF (T.keeps hkeep) (hkeep _ _ hC) (hN.keeps hkeep) hni (fun h' e hm => wpAny_bind (wpAny_holding (wpAny_point (wpAny_pure (h₂ h' e hm))))) hlen)
/-- «raise X from e» where e is being handled -/
theorem raise_from {E : Value → Shared → Prop} {env : Env} {e Ce : Addr} {bmC bmCe : List Value} {tx tc : Sem Value} {Q : Flow → Shared → Prop} (hh : A.handled = some (.ref e)) (hCb : bmC.contains (.type "BaseException") = true) (hCeb : bmCe.contains (.type "BaseException") = true)
    (h : wpAny (model prog w) A tx (fun v s₁ => ∃ e2 t oe, v = .ref e2 ∧ ExcAt s₁.heap C bmC ∧ ExcAt s₁.heap Ce bmCe ∧ s₁.heap.get? e2 = some { cls := .ref C, data := .fields #[.ref t, .none, .none, .none, .bool false, .none] } ∧ s₁.heap.get? e = some oe ∧ oe.cls = .ref Ce ∧ Ctx0 e s₁.heap ∧ e ≠ e2 ∧
      wpAny (model prog w) A tc (fun cv s₂ => cv = .ref e ∧ s₂ = s₁) (fun _ _ => False) s₁ ∧ ∀ h3, (∀ b, b ≠ e2 → h3.get? b = s₁.heap.get? b) → h3.get? e2 = some { cls := .ref C, data := .fields #[.ref t, .none, .ref e, .ref e, .bool true, .none] } → E (.ref e2) { s₁ with heap := h3 }) E s) :
    wpAny (model prog w) A (raiseStmt env (some tx) (some tc)) Q E s := by
  unfold raiseStmt
  refine wpAny_bind (wpAny_mono h (fun v s₁ h₁ => ?_) fun _ _ x => x)
  obtain ⟨e2, t, oe, rfl, ⟨_, _, _, _, _, _, _, _, _, _, _, _, _, _, _, _, hC⟩, ⟨_, _, _, _, _, _, _, _, _, _, _, _, _, _, _, _, hCe⟩, he2, he, hec, c0, hne, hc, hE⟩ := h₁
  obtain ⟨hp, g, d, tk, os⟩ := s₁
  obtain ⟨oe', vs, c1, c2, c3⟩ := c0
  rw [show hp.get? e = some oe from he] at c1
  cases c1
  obtain ⟨oec, oed, oedt, oes⟩ := oe
  obtain rfl : oec = .ref Ce := hec
  obtain rfl : oedt = .fields vs := c2
  have he : hp.get? e = some ⟨.ref Ce, oed, .fields vs, oes⟩ := he
  have hcB : (Value.ref C :: bmC).contains (.type "BaseException") = true := by rw [List.contains_cons, hCb, Bool.or_true]
  have hceB : (Value.ref Ce :: bmCe).contains (.type "BaseException") = true := by rw [List.contains_cons, hCeb, Bool.or_true]
  refine wpAny_bind (wpAny_holding (wpAny_mono hc (fun cv s₂ h₂ => ?_) fun _ _ x => x.elim))
  obtain ⟨rfl, rfl⟩ := h₂
  refine wpAny_bind (wpAny_pure ?_)
  dsimp only
  have eV : wpAny (model prog w) A (excFromValue (.ref e2) "exceptions must derive from BaseException") (fun v s₂ => v = .ref e2 ∧ s₂ = ⟨hp, g, d, tk, os⟩) E ⟨hp, g, d, tk, os⟩ := by
    repeat (first | with_reducible refine wpAny_loadPart_at he2 ?_ | with_reducible refine wpAny_loadPart_at hC ?_ | (with_reducible refine wpAny_isSubtype_exc hC ?_; rw [hcB]) | wp_step)
    exact ⟨rfl, rfl⟩
  have eC : wpAny (model prog w) A (excFromValue (.ref e) "exception causes must derive from BaseException") (fun v s₂ => v = .ref e ∧ s₂ = ⟨hp, g, d, tk, os⟩) E ⟨hp, g, d, tk, os⟩ := by
    repeat (first | with_reducible refine wpAny_loadPart_at he ?_ | with_reducible refine wpAny_loadPart_at hCe ?_ | (with_reducible refine wpAny_isSubtype_exc hCe ?_; rw [hceB]) | wp_step)
    exact ⟨rfl, rfl⟩
  refine wpAny_bind (wpAny_holding (wpAny_mono eV (fun v s₂ h₂ => ?_) fun _ _ x => x))
  obtain ⟨rfl, rfl⟩ := h₂
  refine wpAny_bind (wpAny_holding (wpAny_mono eC (fun v s₂ h₂ => ?_) fun _ _ x => x))
  obtain ⟨rfl, rfl⟩ := h₂
  have frd : ∀ (o : Obj) (vs : Array Value), o.data = .fields vs → o.isFreed = false := fun o vs h => Obj.isFreed_of_fields h
  refine wpAny_bind (wpAny_setField he2 rfl (by simp) ?_)
  have he3 := Heap.get?_update_self (Obj.mapFields (·.setIfInBounds 3 (Value.ref e))) he2 rfl
  refine wpAny_bind (wpAny_setField he3 rfl (by simp [Array.setIfInBounds]) ?_)
  have he4 := Heap.get?_update_self (Obj.mapFields (·.setIfInBounds 4 (Value.bool true))) he3 rfl
  have hne' : e2 ≠ e := fun z => hne z.symm
  have C2 : C ≠ e2 := fun z => by subst z; rw [show hp.get? C = _ from hC] at he2; cases he2
  have oth4 : ∀ b, b ≠ e2 → ((hp.update e2 (Obj.mapFields (·.setIfInBounds 3 (Value.ref e)))).update e2 (Obj.mapFields (·.setIfInBounds 4 (Value.bool true)))).get? b = hp.get? b := fun b hb => by
    rw [Heap.get?_update_other _ _ (Ne.symm hb), Heap.get?_update_other _ _ (Ne.symm hb)]
  have he4 : ((hp.update e2 (Obj.mapFields (·.setIfInBounds 3 (Value.ref e)))).update e2 (Obj.mapFields (·.setIfInBounds 4 (Value.bool true)))).get? e2 = some { cls := .ref C, data := .fields #[.ref t, .none, .none, .ref e, .bool true, .none] } := he4
  dsimp only
  clear he3
  generalize (hp.update e2 (Obj.mapFields (·.setIfInBounds 3 (Value.ref e)))).update e2 (Obj.mapFields (·.setIfInBounds 4 (Value.bool true))) = h4 at oth4 he4 ⊢
  have hC4 := (oth4 C C2).trans hC
  have hce4 := (oth4 e hne).trans he
  repeat (first | with_reducible refine wpAny_loadPart_at he4 ?_ | with_reducible refine wpAny_loadPart_at hC4 ?_ | (with_reducible refine wpAny_isSubtype_exc hC4 ?_; rw [hcB]) | wp_step)
  unfold raiseNew
  refine wpAny_bind (wpAny_handled ?_)
  rw [hh]
  dsimp only
  rw [if_pos (show (Value.ref e != Value.ref e2) = true from by simp [hne])]
  refine wpAny_bind (wpAny_holding (wpAny_runValue (codeAny_builtin entry_unchain ?_)))
  unfold Builtin.«proto.unchain»
  dsimp only
  refine wpAny_bind (wpAny_field (x := Value.none) (s := ⟨h4, g, d, tk, os⟩) hce4 rfl c3 ?_)
  rw [if_pos (by decide)]
  refine wpAny_bind (wpAny_pure (wpAny_pure ?_))
  dsimp only
  refine wpAny_bind ?_
  unfold updateField
  refine wpAny_bind (wpAny_load (s := ⟨h4, g, d, tk, os⟩) he4 ?_)
  dsimp only
  rw [if_pos (by simp)]
  refine wpAny_update (s := ⟨h4, g, d, tk, os⟩) he4 ?_
  refine wpAny_throw (hE _ (fun b hb => ?_) ?_)
  · show (h4.update e2 _).get? b = _
    rw [Heap.get?_update_other _ _ (Ne.symm hb)]; exact oth4 b hb
  · exact Heap.get?_update_self (Obj.mapFields (·.setIfInBounds 2 (Value.ref e))) he4 rfl
theorem suite_from {E : Value → Shared → Prop} {e Ce : Addr} {bmC bmCe : List Value} {n : PySem.Str} {np2 : Pos} {e₀ : PySem.Expr} {Q : Flow → Shared → Prop} (hh : A.handled = some (.ref e)) (F : Fr h₀ L s.heap m) (hg : h₀.Ns mainGlobals mg) (O : OwnCls x C bmV newId mg h₀) (FE : ExcBaseFacts B newId initId bmE) (FV : ExcBaseFacts V newId' initId' bmV) (hB : bmV.contains (.type B) = true)
    (hC : ExcAt s.heap C bmC) (hCb : bmC.contains (.type "BaseException") = true) (hCe : ExcAt s.heap Ce bmCe) (hCeb : bmCe.contains (.type "BaseException") = true) (c0 : Ctx0 e s.heap) (hob : ∃ ob, s.heap.get? e = some ob ∧ ob.cls = .ref Ce) (hn : m n = some (.ref e))
    (he0 : wpAny (model prog w) A (eval e₀ (envOf name scope L a cd)) (fun v s₂ => ∃ tk, s₂ = { s with toks := tk }) (fun _ _ => False) s)
    (k : ∀ e2 a2 s3, RaisedS s.heap s e2 (.ref C) a2 s3 → E (.ref e2) s3)
    (he : starEach [e₀] (envOf name scope L a cd) = (false, eval e₀ (envOf name scope L a cd)) :: starEach [] (envOf name scope L a cd) := by rfl)
    (hk : scope.kind = .function := by rfl) (hx : (envOf name scope L a cd).kindOf x = some .globalImplicit := by rfl) (hd : (x == ("__debug__" : PySem.Str)) = false := by decide) (hnl : (envOf name scope L a cd).kindOf n = some .local := by rfl) (hnd : (n == ("__debug__" : PySem.Str)) = false := by decide) :
    wpAny (model prog w) A (execs [.Raise (some (.Call (.Name x np) [e₀] [] cpos)) (some (.Name n np2)) pos] (envOf name scope L a cd)) Q E s := by
  obtain ⟨ob, ho1, ho2⟩ := hob
  refine wpAny_execs_cons ?_
  rw [arm_exec_Raise]
  refine wpAny_bind (wpAny_standAt ?_)
  show wpAny _ _ (raiseStmt _ (some (do let v ← eval (.Call (.Name x np) [e₀] [] cpos) (envOf name scope L a cd); standAt pos; pure v)) (some (do let v ← eval (.Name n np2) (envOf name scope L a cd); standAt pos; pure v))) _ _ _
  refine raise_from (C := C) (Ce := Ce) (bmC := bmC) (bmCe := bmCe) hh hCb hCeb (wpAny_bind (wpAny_mono (call_mix (E := E) (Q := fun v s₁ => ∃ e2 as s0 tk, v = .ref e2 ∧ s0 = { s with toks := tk } ∧ Heap.MadeExcOf s.heap s₁.heap e2 (.ref C) as ∧ ∃ hp, s₁ = { s0 with heap := hp }) F hg O FE FV hB ?_ he rfl hk hx hd) (fun v s₃ h₃ => wpAny_bind (wpAny_standAt (wpAny_pure ?_))) fun _ _ x => x))
  · refine spliced_more (wpAny_mono he0 (fun v s₂ h₂ => ?_) fun _ _ x => x.elim) he
    obtain ⟨tk, rfl⟩ := h₂
    refine spliced_none ⟨by size_fits, fun b o q => F.keep b o q, fun h' e2 hm => ⟨e2, _, _, tk, rfl, rfl, hm, _, rfl⟩⟩
  · obtain ⟨e2, as, s0, tk, rfl, rfl, hm, hp, rfl⟩ := h₃
    obtain ⟨t, ht, _, _⟩ := hm.there
    have hm : Heap.MadeExcOf s.heap hp e2 (.ref C) as := hm
    have ht : hp.get? e2 = _ := ht
    obtain ⟨oc, vc, c1, c2, c3⟩ := c0
    have ne : e ≠ e2 := fun z => by
      have h1 := hm.new
      rw [← z, ho1] at h1; cases h1
    have xa : ∀ {D bm}, ExcAt s.heap D bm → ExcAt hp D bm := fun ⟨a1, a2, a3, a4, a5, a6, a7, a8, a9, b1, b2, b3, b4, b5, b6, b7, hD⟩ => ⟨a1, a2, a3, a4, a5, a6, a7, a8, a9, b1, b2, b3, b4, b5, b6, b7, hm.keeps _ _ hD⟩
    refine ⟨e2, t, ob, rfl, xa hC, xa hCe, ht, hm.keeps _ _ ho1, ho2, ⟨oc, vc, hm.keeps _ _ c1, c2, c3⟩, ne, ?_, fun h3 hs3 h3e => ?_⟩
    · exact wpAny_bind (ld (F.keeps hm.keeps) hn (wpAny_bind (wpAny_standAt (wpAny_pure ⟨rfl, rfl⟩))) hk hnl hnd)
    · refine k e2 (.ref t) _ ⟨⟨h3, tk, rfl⟩, fun b o q => ?_, hm.new, _, _, h3e, rfl, rfl, rfl, rfl⟩
      have hb : b ≠ e2 := fun z => by have h1 := hm.new; rw [← z, q] at h1; cases h1
      show h3.get? b = _
      rw [hs3 b hb]; exact hm.keeps _ _ q
end
end
-- WG
section
/-- the ground's facts -/
structure Grd (W : Wd) (l : List Env) (A₀ : Around) (base g₀ g : Heap) : Prop where
  T : KtsTurn (fr l) g₀ g
  B : Below A₀ base l g
  X : (Mine.hd.heap_1_1 W.w.params).In g
  Top : Top W.p W.loose W.mean W.mg W.mb g
  D : KtsDicts (fr l) g
def LSt {σ : Type} (W : Wd) (l : List Env) (A₀ : Around) (base g₀ : Heap) (L : Addr) (J : σ → Prop) (mf : σ → PySem.Str → Option Value) (nf : σ → List (Addr × Obj)) (s s' : Shared) : Prop :=
  ∃ g m h tk, s' = { s with heap := h, toks := tk } ∧ Grd W l A₀ base g₀ g ∧ J m ∧ Fr g L h (mf m) ∧ News g L h (nf m)
theorem Fr.extB {g h h' : Heap} {L it : Addr} {m : PySem.Str → Option Value} (F : Fr g L h m) (hs : Heap.ExtBut it h h') (hL : it ≠ L) (hn : g.get? it = none) : Fr g L h' m := by
  obtain ⟨oL, a1, a2, hoL, a3⟩ := F.ns
  refine ⟨⟨oL, a1, a2, hs L _ hL.symm hoL, a3⟩, fun b x e => hs b _ ?_ (F.keep b x e), F.above⟩
  rintro rfl
  rw [hn] at e
  cases e
section
variable {W : Wd} {l : List Env} {base g₀ : Heap} {A₀ A : Around} {L it : Addr} {σ : Type} {J : Nat → σ → Prop} {mf : σ → PySem.Str → Option Value} {nf : σ → List (Addr × Obj)} {s : Shared} {env : Env} {target : Expr} {body : List Stmt}
theorem forItG (itOb : Nat → Obj → Prop) (val : Nat → Value → Prop) (n : Nat) {Q : Flow → Shared → Prop} {X : Value → Shared → Prop} (hap : ∀ x, ∀ p ∈ nf x, p.1 ≠ it)
    (hn : ∀ i x h tk o, i < n → itOb i o → h.get? it = some o → (∀ p ∈ nf x, h.get? p.1 = some p.2) → ∀ (Q : Option Value → Shared → Prop) (E : Value → Shared → Prop), (∀ v h' tk' o', val i v → itOb (i + 1) o' → h'.get? it = some o' → Heap.SameBut it h h' → Q (some v) { s with heap := h', toks := tk' }) → wpAny (model W.prog W.w) A (pyNext (.ref it)) Q E { s with heap := h, toks := tk })
    (he : ∀ x h tk o, itOb n o → h.get? it = some o → (∀ p ∈ nf x, h.get? p.1 = some p.2) → ∀ (Q : Option Value → Shared → Prop) (E : Value → Shared → Prop), (∀ h' tk', Heap.ExtBut it h h' → Q none { s with heap := h', toks := tk' }) → wpAny (model W.prog W.w) A (pyNext (.ref it)) Q E { s with heap := h, toks := tk })
    (hbody : ∀ i v o g m h tk, i < n → val i v → itOb (i + 1) o → Grd W l A₀ base g₀ g → J i m → Fr g L h (mf m) → News g L h ((it, o) :: nf m) →
      wpG (model W.prog W.w) A (assign target env v) (fun _ s₂ => wpG (model W.prog W.w) A (execs body env) (fun f s₃ => match f with | .next => LSt W l A₀ base g₀ L (J (i + 1)) mf (fun x => (it, o) :: nf x) s s₃ | .cont => LSt W l A₀ base g₀ L (J (i + 1)) mf (fun x => (it, o) :: nf x) s s₃ | .brk => Q .next s₃ | .ret v => Q (.ret v) s₃) (fun _ _ => False) s₂) (fun _ _ => False) { s with heap := h, toks := tk })
    (hdone : ∀ g m h tk, Grd W l A₀ base g₀ g → J n m → Fr g L h (mf m) → News g L h (nf m) → Q .next { s with heap := h, toks := tk }) (ht : ∀ v, letOwnedTupleGo target (.ref it) v = pure ())
    {g : Heap} {m : σ} {o : Obj} {h : Heap} {tk : Nat} (G : Grd W l A₀ base g₀ g) (HJ : J 0 m) (F : Fr g L h (mf m)) (N : News g L h ((it, o) :: nf m)) (ho : itOb 0 o) :
    codeG (model W.prog W.w) A (.forLoop target (.ref it) body [] env) (fun r s' => match r with | .ok f => Q f s' | .error e => X e s') { s with heap := h, toks := tk } := by
  have one : ∀ {g h : Heap} {o : Obj} {x : σ}, News g L h ((it, o) :: nf x) → h.get? it = some o ∧ it ≠ L ∧ g.get? it = none := fun N => N _ (.head _)
  refine forLoopG (fun i s' => ∃ o, itOb i o ∧ LSt W l A₀ base g₀ L (J i) mf (fun x => (it, o) :: nf x) s s') (fun i v s' => ∃ o, val i v ∧ itOb (i + 1) o ∧ LSt W l A₀ base g₀ L (J i) mf (fun x => (it, o) :: nf x) s s') (fun s' => LSt W l A₀ base g₀ L (J n) mf nf s s') n ?_ ?_ ?_ ?_ ht n 0 _ rfl (Nat.zero_le _) ⟨o, ho, g, m, h, tk, rfl, G, HJ, F, N⟩
  · rintro i s' ⟨o, ho, g, m, h, tk, rfl, G, HJ, F, N⟩ hi Q E hq
    obtain ⟨a1, a2, a3⟩ := one N
    refine hn i m h tk o hi ho a1 (fun p hp => (N p (.tail _ hp)).1) Q E fun v h' tk' o' hv ho' hg hs => hq v _ ⟨o', hv, ho', g, m, h', tk', rfl, G, HJ, Fr.change F hs a2 a3, News.setHead N (hap m) hs hg⟩
  · rintro s' ⟨o, ho, g, m, h, tk, rfl, G, HJ, F, N⟩ Q E hq
    obtain ⟨a1, a2, a3⟩ := one N
    exact he m h tk o ho a1 (fun p hp => (N p (.tail _ hp)).1) Q E fun h' tk' hs => hq _ ⟨g, m, h', tk', rfl, G, HJ, Fr.extB F hs a2 a3, fun q hq => ⟨hs _ _ (hap m q hq) (N q (.tail _ hq)).1, (N q (.tail _ hq)).2⟩⟩
  · rintro i v s' hi ⟨o, hv, ho, g, m, h, tk, rfl, G, HJ, F, N⟩
    refine wpG_mono (hbody i v o g m h tk hi hv ho G HJ F N) (fun _ s₂ h₂ => wpG_mono h₂ (fun f s₃ h₃ => ?_) fun _ _ x => x) fun _ _ x => x
    cases f with
    | next => exact ⟨o, ho, h₃⟩
    | cont => exact ⟨o, ho, h₃⟩
    | brk => exact h₃
    | ret v => exact h₃
  · rintro s' ⟨g, m, h, tk, rfl, G, HJ, F, N⟩
    exact hdone g m h tk G HJ F N
def isLIt (D : Addr) (i : Nat) (o : Obj) : Prop := o.cls = .type "list_iterator" ∧ o.data = .fields #[.ref D, rawInt i]
theorem forListG {D : Addr} {its : Array Value} {n : Nat} {lo : Obj} (hh : A.handled = none) (hlo : lo.cls = .type "list" ∧ lo.data = .seq its n) {Q : Flow → Shared → Prop} {X : Value → Shared → Prop} (hap : ∀ x, ∀ p ∈ (D, lo) :: nf x, p.1 ≠ it)
    (hbody : ∀ i v o g m h tk, i < its.size → its[i]? = some v → isLIt D (i + 1) o → Grd W l A₀ base g₀ g → J i m → Fr g L h (mf m) → News g L h ((it, o) :: (D, lo) :: nf m) →
      wpG (model W.prog W.w) A (assign target env v) (fun _ s₂ => wpG (model W.prog W.w) A (execs body env) (fun f s₃ => match f with | .next => LSt W l A₀ base g₀ L (J (i + 1)) mf (fun x => (it, o) :: (D, lo) :: nf x) s s₃ | .cont => LSt W l A₀ base g₀ L (J (i + 1)) mf (fun x => (it, o) :: (D, lo) :: nf x) s s₃ | .brk => Q .next s₃ | .ret v => Q (.ret v) s₃) (fun _ _ => False) s₂) (fun _ _ => False) { s with heap := h, toks := tk })
    (hdone : ∀ g m h tk, Grd W l A₀ base g₀ g → J its.size m → Fr g L h (mf m) → News g L h ((D, lo) :: nf m) → Q .next { s with heap := h, toks := tk }) (ht : ∀ v, letOwnedTupleGo target (.ref it) v = pure ())
    {g : Heap} {m : σ} {o : Obj} {h : Heap} {tk : Nat} (G : Grd W l A₀ base g₀ g) (HJ : J 0 m) (F : Fr g L h (mf m)) (N : News g L h ((it, o) :: (D, lo) :: nf m)) (ho : isLIt D 0 o) :
    codeG (model W.prog W.w) A (.forLoop target (.ref it) body [] env) (fun r s' => match r with | .ok f => Q f s' | .error e => X e s') { s with heap := h, toks := tk } := by
  refine forItG (nf := fun x => (D, lo) :: nf x) (isLIt D) (fun i v => its[i]? = some v) its.size hap ?_ ?_ hbody hdone ht G HJ F N ho
  · intro i x h tk o hi ho hg hnews Q E hq
    have hl : h.IsList D its := ⟨lo, hnews _ (.head _), hlo.1, n, hlo.2⟩
    have hx : its[i]? = some its[i] := Array.getElem?_eq_getElem hi
    refine wpAny_pyNext_list_item (s := { s with heap := h, toks := tk }) (i := i) (items := its) (x := its[i]) ⟨o, hg, ho.1, ho.2⟩ hl hx fun h' hit hs => ?_
    obtain ⟨o', h1, h2, h3⟩ := hit
    exact hq _ h' tk o' hx ⟨h2, h3⟩ h1 hs
  · intro x h tk o ho hg hnews Q E hq
    have hl : h.IsList D its := ⟨lo, hnews _ (.head _), hlo.1, n, hlo.2⟩
    refine wpAny_pyNext_list_end (s := { s with heap := h, toks := tk }) (i := its.size) (items := its) hh ⟨o, hg, ho.1, ho.2⟩ hl (Array.getElem?_eq_none (Nat.le_refl _)) fun h' hs => ?_
    exact hq h' tk hs
def isRIt (a : Int) (n : Nat) (i : Nat) (o : Obj) : Prop := o = { cls := .type "range_iterator", dict := none, data := .fields #[rawInt (a + i), rawInt ((n : Int) - i), rawInt 1], slots := #[] }
theorem forRangeG {a : Int} {n : Nat} (hh : A.handled = none) {Q : Flow → Shared → Prop} {X : Value → Shared → Prop} (hap : ∀ x, ∀ p ∈ nf x, p.1 ≠ it)
    (hbody : ∀ (i : Nat) t o g m h tk, i < n → isRIt a n (i + 1) o → Grd W l A₀ base g₀ g → J i m → Fr g L h (mf m) → News g L h ((it, o) :: nf m) →
      wpG (model W.prog W.w) A (assign target env (.int (a + i) t)) (fun _ s₂ => wpG (model W.prog W.w) A (execs body env) (fun f s₃ => match f with | .next => LSt W l A₀ base g₀ L (J (i + 1)) mf (fun x => (it, o) :: nf x) s s₃ | .cont => LSt W l A₀ base g₀ L (J (i + 1)) mf (fun x => (it, o) :: nf x) s s₃ | .brk => Q .next s₃ | .ret v => Q (.ret v) s₃) (fun _ _ => False) s₂) (fun _ _ => False) { s with heap := h, toks := tk })
    (hdone : ∀ g m h tk, Grd W l A₀ base g₀ g → J n m → Fr g L h (mf m) → News g L h (nf m) → Q .next { s with heap := h, toks := tk }) (ht : ∀ v, letOwnedTupleGo target (.ref it) v = pure ())
    {g : Heap} {m : σ} {o : Obj} {h : Heap} {tk : Nat} (G : Grd W l A₀ base g₀ g) (HJ : J 0 m) (F : Fr g L h (mf m)) (N : News g L h ((it, o) :: nf m)) (ho : isRIt a n 0 o) :
    codeG (model W.prog W.w) A (.forLoop target (.ref it) body [] env) (fun r s' => match r with | .ok f => Q f s' | .error e => X e s') { s with heap := h, toks := tk } := by
  refine forItG (isRIt a n) (fun i v => ∃ t, v = .int (a + i) t) n hap ?_ ?_ (fun i v o g m h tk hi hv ho G HJ F N => by obtain ⟨t, rfl⟩ := hv; exact hbody i t o g m h tk hi ho G HJ F N) hdone ht G HJ F N ho
  · intro i x h tk o hi ho hg hnews Q E hq
    refine wpAny_pyNext_range_item (s := { s with heap := h, toks := tk }) (x := a + i) (left := (n : Int) - i) (step := 1) (by rw [show o = _ from ho] at hg; exact hg) (by omega) fun h' hit hs => ?_
    refine hq _ h' _ _ ⟨_, rfl⟩ ?_ hit hs
    show _ = _
    rw [show a + ((i + 1 : Nat) : Int) = a + i + 1 from by omega, show (n : Int) - ((i + 1 : Nat) : Int) = (n : Int) - i - 1 from by omega]
  · intro x h tk o ho hg hnews Q E hq
    refine wpAny_pyNext_range_end (s := { s with heap := h, toks := tk }) (x := a + n) (left := (n : Int) - n) (step := 1) hh (by rw [show o = _ from ho] at hg; exact hg) (by omega) fun h' hs => ?_
    exact hq h' tk hs
end
end
end Mine
end
section
open PySem PySem.W PyProof.Rows PySem.Calls PySem.Spec
set_option Elab.async false
set_option hygiene false
set_option rowWalk.seconds 0
set_option maxRecDepth 100000
set_option maxHeartbeats 4000000
namespace Mine
local macro_rules | `(tactic| walk_at "M enter") => `(tactic| (
  (case k6 => k_is); (case k7 => k_is); (case k8 => decide); (case k9 => first | exact BindsTo.of_eq rfl | exact binds_K (Frag.In.keeps (And.left (by assumption)) (Site.stays (by assumption))) rfl (by k_is) rfl rfl rfl); (case kB => exact locs rfl); (case c2 => exact rfl); (case c3 => exact rfl); (case c4 => exact rfl); (case c5 => decide);
  intro g' L' h' tk' hg' F' N' B' X' T' D'; subst hg'; (try k_fold)))
local macro_rules | `(tactic| walk_at "M use") => `(tactic| (
  (case F => k_asm); (case HB => assumption); (case B => k_asm); (case D => k_asm); (case N => k_asm); (case hA => exact rfl); (case hf => exact rfl); (case hk => exact rfl); (case hh => exact rfl); (case hdp => exact Nat.le_of_ble_eq_true rfl); (case hun => exact Nat.le_of_ble_eq_true rfl)))
local macro_rules | `(tactic| walk_at "M back0") => `(tactic| (intro v' h' tk' hv' F' N'; (first | subst hv' | (obtain ⟨_, hv'⟩ := hv'; subst hv') | (obtain ⟨hv', hp'⟩ := hv'; subst hv') | (obtain ⟨⟨_, hv'⟩, hp'⟩ := hv'; subst hv') | skip); (try dsimp only); (try k_sweep)))
local macro_rules | `(tactic| walk_at "M fly") => `(tactic| (intro e' C' a' h' tk' hx' fl'; (first | subst hx' | (obtain ⟨hx', hp'⟩ := hx'; subst hx') | skip); (try dsimp only)))
local macro_rules | `(tactic| walk_at "M use0") => `(tactic| (walk_at "M use"; walk_at "M back0"))
local macro_rules | `(tactic| walk_at "M use0r") => `(tactic| (walk_at "M use"; walk_at "M back0"; rotate_left 1; walk_at "M fly"; rotate_right 1))
local macro_rules | `(tactic| walk_at "M ret") => `(tactic| first
  | exact hret _ _ _ rfl (Fr.keep (by k_asm))
  | exact hret _ _ _ ⟨_, rfl⟩ (Fr.keep (by k_asm)))
local macro_rules | `(tactic| walk_at "leaving ref") => `(tactic| (k_here; k_dflt (first
  | (refine' leave_on ?D ?F ?T ?fl rfl rfl ?_; (case fl => k_asm); (case F => k_asm); (case D => k_asm); (case T => first | assumption | exact KtsTurn.refl); intro h'' fl''; (try dsimp only))
  | (refine' leave_made ?B ?D ?F ?T ?hx rfl rfl rfl ?_; (case hx => first | assumption | exact Heap.MadeExc.of (by assumption)); (case F => k_asm); (case B => k_asm); (case D => k_asm); (case T => first | assumption | exact KtsTurn.refl); intro h'' t'' fl''; (try dsimp only)))))
local macro_rules | `(tactic| walk_at "execs cons") => `(tactic| (k_here; refine wpAny_execs_cons ?_; k_fold))
local macro_rules | `(tactic| walk_at "exec Raise some none") => `(tactic| (k_here; (with_reducible show wpAny _ _ (exec (Stmt.Raise (some (Expr.Call (Expr.Name (PySem.Str.ofString "BTClibValueError") _) (_ :: _) [] _)) none _) _) _ _ _); k_dflt (refine' Raise_mix ?F ?g ?O PySem.F.excBase_Exception PySem.F.excBase_ValueError ?hB ?h ?_ ?a ?b ?c ?d ?e; (case F => k_asm); (case g => exact TopRead.g (by k_asm)); (case O => exact own_of_in (by k_asm) (by k_asm) (by k_is) (by k_exc)); (case hB => decide); (case h => rfl); (case a => rfl); (case b => rfl); (case c => rfl); (case d => rfl); (case e => decide); k_whole)))
local macro_rules | `(tactic| walk_at "M raise") => `(tactic| first
  | exact hraise _ _ _ _ _ rfl (by assumption)
  | exact hraise _ _ _ _ _ ⟨rfl, by omega⟩ (by assumption))
local macro_rules | `(tactic| walk_at "M enterA") => `(tactic| (
  (case k6 => k_is); (case k7 => k_is); (case k8 => decide); (case kB => exact locs rfl); (case c2 => exact rfl); (case c3 => exact rfl); (case c4 => exact rfl); (case c5 => decide);
  intro g' L' h' tk' hg' F' N' B' X' T' D'; subst hg'; (try k_fold)))
local macro_rules | `(tactic| walk_at "M int") => `(tactic| first
  | omega
  | (simp only [Int.fmod_eq_emod_of_nonneg _ (by decide : (0 : Int) ≤ 128), Int.fmod_eq_emod_of_nonneg _ (by decide : (0 : Int) ≤ 256), Int.fmod_eq_emod_of_nonneg _ (by decide : (0 : Int) ≤ 2), Int.fmod_eq_emod_of_nonneg _ (by decide : (0 : Int) ≤ 8), Int.fmod_eq_emod_of_nonneg _ (by decide : (0 : Int) ≤ 10), Int.fmod_eq_emod_of_nonneg _ (by decide : (0 : Int) ≤ 9), Int.fdiv_eq_ediv_of_nonneg _ (by decide : (0 : Int) ≤ 9), Int.fdiv_eq_ediv_of_nonneg _ (by decide : (0 : Int) ≤ 128), Int.fdiv_eq_ediv_of_nonneg _ (by decide : (0 : Int) ≤ 10), Int.fdiv_eq_ediv_of_nonneg _ (by decide : (0 : Int) ≤ 256), Int.fdiv_eq_ediv_of_nonneg _ (by decide : (0 : Int) ≤ 8)] at *; omega))
local macro_rules | `(tactic| walk_at "M in") => `(tactic| (repeat' (first | exact BX.in_nil | refine BX.in_cons ⟨by walk_at "M int", by walk_at "M int"⟩ ?_)))
local macro_rules | `(tactic| walk_at "M len") => `(tactic| ((try simp only [List.length_append, List.length_cons, List.length_nil, List.length_take, List.length_drop, List.length_map]); first | omega | (simp only [Nat.reducePow] at *; omega)))
local macro_rules | `(tactic| walk_at "call type:bytes") => `(tactic| (k_here; (with_reducible show wpAny _ _ (call (Value.type "bytes") [Value.ref _]) _ _ _); ((first | (with_reducible refine' BX.make ?F ?N ?l ?i ?r ?z ?h ?_) | (k_dflt (refine' BX.make ?F ?N ?l ?i ?r ?z ?h ?_))); k_dflt ((case F => k_asm); (case N => k_asm); (case l => is_list); (case i => first | l_ints | l_intsW); (case r => walk_at "M in"); (case z => simp only [List.length_cons, List.length_nil]; decide); (case h => with_unfolding_all rfl); k_whole)); intro h' t' k' F' N'; (try dsimp only [List.map]); (try k_sweep)))
local macro_rules | `(tactic| walk_at "binaryOp Add bytes bytes") => `(tactic| (k_here; (with_reducible show wpAny _ _ (binaryOp Operator.Add (Value.bytes (List.toArray _) _) (Value.bytes (List.toArray _) _)) _ _ _); ((first | (with_reducible refine' BX.add ?z ?_) | (k_dflt (refine' BX.add ?z ?_))); k_dflt ((case z => walk_at "M len"); k_whole)); intro _ _))
local macro_rules | `(tactic| walk_at "call builtin:len") => `(tactic| (k_here; (with_reducible show wpAny _ _ (call (Value.builtin "len") [Value.bytes (List.toArray _) _]) _ _ _); ((first | (with_reducible refine' BX.len ?z ?_) | (k_dflt (refine' BX.len ?z ?_))); k_dflt ((case z => walk_at "M len"); k_whole)); intro _ _))
local macro_rules | `(tactic| walk_at "truthy bytes") => `(tactic| (k_here; (with_reducible show wpAny _ _ (truthy (Value.bytes (List.toArray _) _)) _ _ _); ((first | (with_reducible refine' BX.truth ?z ?_) | (k_dflt (refine' BX.truth ?z ?_))); k_dflt ((case z => walk_at "M len"); k_whole)); intro _))
local macro_rules | `(tactic| walk_at "subscriptTail") => `(tactic| (k_here; (with_reducible show wpAny _ _ (subscriptTail _ _ (Value.bytes (List.toArray _) _) (Value.int _ _)) _ _ _); ((first | (with_reducible refine' BX.item ?f ?a ?b ?_ ?hs ?ht) | (k_dflt (refine' BX.item ?f ?a ?b ?_ ?hs ?ht))); k_dflt ((case f => walk_at "M len"); (case a => walk_at "M int"); (case b => walk_at "M len"); (case hs => with_unfolding_all rfl); (case ht => (intro _; with_unfolding_all rfl)); k_whole)); intro _ _))
local macro_rules | `(tactic| walk_at "subscriptTail") => `(tactic| (k_here; (with_reducible show wpAny _ _ (subscriptTail _ (Expr.Slice _ _ none _) (Value.bytes (List.toArray _) _) (Value.ref _)) _ _ _); (with_reducible rename Fr _ _ _ _ => F'); (with_reducible rename News _ _ _ _ => N'); ((first | (with_reducible refine' BX.slice (s := ⟨_, _, _, _, _⟩) F' N' ?l ?u ?z ?_ ?hs ?ht) | (k_dflt (refine' BX.slice (s := ⟨_, _, _, _, _⟩) F' N' ?l ?u ?z ?_ ?hs ?ht))); k_dflt ((case l => constructor); (case u => constructor); (case z => walk_at "M len"); (case hs => with_unfolding_all rfl); (case ht => (intro _; with_unfolding_all rfl)))); intro _ _ _ F' N'; (try simp only [Option.elim, KBc.clip_lit, clipAt_nat, List.drop_zero, Nat.sub_zero])))
local macro_rules | `(tactic| walk_at "exec While") => `(tactic| (refine hold ?_))
local macro_rules | `(tactic| walk_at "exec While Compare") => `(tactic| (refine hold ?_))
local macro_rules | `(tactic| walk_at "exec While BoolOp") => `(tactic| (refine hold ?_))
local macro_rules | `(tactic| walk_at "WhlIf") => `(tactic| first | (with_reducible refine WhlIf.yes rfl ?_) | (with_reducible refine WhlIf.no rfl ?_) | (refine whl_split (fun hb => ?_) (fun hb => ?_)))
local macro_rules | `(tactic| walk_at "WPost") => `(tactic| (refine hold ?_))
local macro_rules | `(tactic| walk_at "M fr") => `(tactic| (intro y; (simp only [lk1, lk2]); (repeat' split) <;> first | rfl | (subst_vars; exact absurd (by assumption) (by decide)) | simp_all))
local macro_rules | `(tactic| walk_at "call ref") => `(tactic| (k_here; (with_reducible show wpAny _ _ (call (Value.ref 644) [Value.int _ _] _) _ _ _); k_dflt (refine' use0n (s_is_integer _ _ _) ?HB ?B ?D ?F ?N ?hA ?hf ?hk ?hh ?hdp ?hun ?_); k_dflt (walk_at "M use0")))
local macro_rules | `(tactic| walk_at "call ref") => `(tactic| (k_here; (with_reducible show wpAny _ _ (call (Value.ref 637) [Value.int _ _] _) _ _ _); k_dflt (refine' use0n (s_message_text _ _ _ (shown (N := 2 ^ 256) (by omega) (by omega) (by decide))) ?HB ?B ?D ?F ?N ?hA ?hf ?hk ?hh ?hdp ?hun ?_); k_dflt (walk_at "M use"; intro v' h' tk' hv' F' N'; obtain ⟨_, xm, hv', hxm⟩ := hv'; subst hv'; (try dsimp only); (try k_sweep))))
local macro_rules | `(tactic| walk_at "call ref") => `(tactic| (k_here; (with_reducible show wpAny _ _ (call (Value.ref 693) [Value.int _ _] _) _ _ _); k_dflt (refine' use0 (s_assert_bits _ _ _ (by omega) (by omega)) ?HB ?B ?D ?F ?N ?hA ?hf ?hk ?hh ?hdp ?hun ?_ ?_); k_dflt (walk_at "M use0r")))
local macro_rules | `(tactic| walk_at "call ref") => `(tactic| (k_here; (with_reducible show wpAny _ _ (call (Value.ref 686) [Value.int _ _, Value.int _ _, Value.str _ _] _) _ _ _); k_dflt (refine' use0 (s_assert_unsigned _ _ _ _ _ _ _ (by omega) (by omega) (by omega) (by omega) (by decide)) ?HB ?B ?D ?F ?N ?hA ?hf ?hk ?hh ?hdp ?hun ?_ ?_); k_dflt (walk_at "M use0r"); (all_goals (try (simp only [show Int.toNat 64 = 64 from rfl] at hp')))))
local macro_rules | `(tactic| walk_at "call ref") => `(tactic| (k_here; (with_reducible show wpAny _ _ (call (Value.ref 701) [Value.int _ _, Value.int _ _] _) _ _ _); k_dflt (refine' use0 (s_serialize _ _ _ _ _ (by omega) (by omega) (by omega) (by omega)) ?HB ?B ?D ?F ?N ?hA ?hf ?hk ?hh ?hdp ?hun ?_ ?_); k_dflt (walk_at "M use0q")))
local macro_rules | `(tactic| walk_at "M use0q") => `(tactic| (walk_at "M use"; (intro v' h' tk' hv' F' N'); rotate_left 1; walk_at "M fly"; rotate_right 1))
local macro_rules | `(tactic| walk_at "M catch") => `(tactic| (refine' catch0 ?HB ?B ?D ?F ?N ?T ?fl ?ex ?eC (fun _ X => exc31 X) ?hbase ?hb ?_ ?hk ?hx ?hd ?hE; (case fl => k_asm); (case eC => first | exact (fun _ X => exc44 X)); (case HB => assumption); (case B => k_asm); (case D => k_asm); (case F => k_asm); (case N => k_asm); (case T => first | assumption | exact KtsTurn.refl); (case ex => k_is); (case hbase => decide); (case hb => decide); (case hk => rfl); (case hx => rfl); (case hd => decide); (case hE => first | passes_own | with_unfolding_all passes_own); intro hC gC TC FC NC BC XC TopC DC))
local macro_rules | `(tactic| walk_at "M enterIO") => `(tactic| (
  (case k6 => k_is); (case k7 => k_is); (case k8 => decide); (case k9 => first | exact BindsTo.of_eq rfl | (refine' binds_K (Frag.In.keeps (And.left (by assumption)) (Site.stays (by assumption))) rfl ?x ?s ?y ?z; (case x => k_is); (case s => exact rfl); (case y => exact rfl); (case z => exact rfl))); (case kB => exact locs rfl); (case c2 => exact rfl); (case c3 => exact rfl); (case c4 => exact rfl); (case c5 => decide);
  intro g' L' h' tk' hg' F' N' B' X' T' D'; (dsimp only [ioN, ioDict, ioBuf] at N'); (try k_fold)))
local macro_rules | `(tactic| walk_at "call builtin:len") => `(tactic| (k_here; (with_reducible show wpAny _ _ (call (Value.builtin "len") [Value.ref _]) _ _ _); ((first | (with_reducible refine' BZ.len ?ho ?z ?_) | (k_dflt (refine' BZ.len ?ho ?z ?_))); k_dflt ((case ho => exact News_at (by k_asm) (by k_mem)); (case z => walk_at "M len"))); intro _ _))
local macro_rules | `(tactic| walk_at "call type:bytes") => `(tactic| (k_here; (with_reducible show wpAny _ _ (call (Value.type "bytes") [Value.ref _]) _ _ _); ((first | (with_reducible refine' BZ.toBytes ?ho ?z ?h ?_) | (k_dflt (refine' BZ.toBytes ?ho ?z ?h ?_))); k_dflt ((case ho => exact News_at (by k_asm) (by k_mem)); (case z => walk_at "M len"); (case h => with_unfolding_all rfl))); intro _ _))
local macro_rules | `(tactic| walk_at "subscriptTail") => `(tactic| (k_here; (with_reducible show wpAny _ _ (subscriptTail _ (Expr.Slice _ _ none _) (Value.ref _) (Value.ref _)) _ _ _); (with_reducible rename Fr _ _ _ _ => F'); (with_reducible rename News _ _ _ _ => N'); ((first | (with_reducible refine' BZ.slice (s := ⟨_, _, _, _, _⟩) F' N' ?m ?l ?u ?z ?_ ?hs ?ht) | (k_dflt (refine' BZ.slice (s := ⟨_, _, _, _, _⟩) F' N' ?m ?l ?u ?z ?_ ?hs ?ht))); k_dflt ((case m => k_mem); (case l => constructor); (case u => constructor); (case z => walk_at "M len"); (case hs => with_unfolding_all rfl); (case ht => (intro _; with_unfolding_all rfl)))); intro _ _ F' N'; (try simp only [Option.elim, KBc.clip_lit, clipAt_nat, List.drop_zero, Nat.sub_zero] at N')))
local macro_rules | `(tactic| walk_at "M useIO") => `(tactic| (
  (case F => k_asm); (case N => exact io_news (by k_asm) (by k_mem) (by k_mem) (by k_mem)); (case h1 => assumption); (case h2 => assumption); (case HB => assumption); (case B => k_asm); (case D => k_asm); (case hA => exact rfl); (case hf => exact rfl); (case hk => exact rfl); (case hh => exact rfl); (case hdp => exact Nat.le_of_ble_eq_true rfl); (case hun => exact Nat.le_of_ble_eq_true rfl)))
local macro_rules | `(tactic| walk_at "M backIO") => `(tactic| (intro v' h' tk' p' k' hv' hc' F' N'; (obtain ⟨_, _, _, _⟩ := k'); (dsimp only [ioN, ioDict, ioBuf] at N' hc'); subst hc'))
local macro_rules | `(tactic| walk_at "call ref") => `(tactic| (k_here; (with_reducible show wpAny _ _ (call (Value.ref 291) [Value.ref _, Value.int _ _] _) _ _ _); k_dflt (refine' useIO (s_read _ _ _ _ _ _ ⟨_, _, _, _⟩ _ _ ?n1 ?n2 ?n3) ?HB ?B ?D ?F ?N ?h1 ?h2 ?hA ?hf ?hk ?hh ?hdp ?hun ?_ (fun _ _ _ _ _ _ x => x.elim)); k_dflt (walk_at "M useIO"); k_dflt ((case n1 => omega); (case n2 => omega); (case n3 => omega); walk_at "M backIO"; obtain ⟨_, hv', hp'⟩ := hv'; (have hl9 := tk_len hv'); subst hv'; subst hp')))
local macro_rules | `(tactic| walk_at "M flyIO") => `(tactic| (intro hh' e' C' a' h' tk' hx' F' fl'; (first | subst hx' | (obtain ⟨hx', hp'⟩ := hx'; subst hx') | skip); (try dsimp only)))
local macro_rules | `(tactic| walk_at "call ref") => `(tactic| (k_here; (with_reducible show wpAny _ _ (call (Value.ref 630) [Value.ref _, Value.int _ _, Value.str _ _] _) _ _ _); k_dflt (refine' useIO (s_exactly _ _ _ _ _ _ ⟨_, _, _, _⟩ _ _ _ _ ?n1 ?n2 ?n3 ?n4 ?n5) ?HB ?B ?D ?F ?N ?h1 ?h2 ?hA ?hf ?hk ?hh ?hdp ?hun ?_ ?_); k_dflt (walk_at "M useIO"); k_dflt ((case n1 => omega); (case n2 => omega); (case n3 => omega); (case n4 => decide); (case n5 => omega)); k_dflt (walk_at "M backIO"; obtain ⟨_, hv', hq', hp'⟩ := hv'; (have hl9 := tk_len hv'); subst hv'; subst hp'; rotate_left 1; walk_at "M flyIO"; rotate_right 1)))
local macro_rules | `(tactic| walk_at "call type:type") => `(tactic| (k_here; (with_reducible show wpAny _ _ (call (Value.type "type") [Value.bytes _ _]) _ _ _); k_dflt (refine call_type_of (Tx := "bytes") (PySem.W.typeIs_bytes _ _ _) (by decide +kernel) ?_)))
local macro_rules | `(tactic| walk_at "call type:bytes") => `(tactic| (k_here; (with_reducible show wpAny _ _ (call (Value.type "bytes") [Value.bytes _ _]) _ _ _); k_dflt (refine bytes_of_bytes ?_)))
local macro_rules | `(tactic| walk_at "call ref") => `(tactic| (k_here; (with_reducible show wpAny _ _ (call (Value.ref 66) [Value.bytes (List.toArray _) _] _) _ _ _); k_dflt (refine' use0n (s_octets _ _ _) ?HB ?B ?D ?F ?N ?hA ?hf ?hk ?hh ?hdp ?hun ?_); k_dflt (walk_at "M use0")))
local macro_rules | `(tactic| walk_at "call builtin:object.__new__") => `(tactic| (k_here; (with_reducible show wpAny _ _ (call (Value.builtin "object.__new__") [Value.ref 367] _) _ _ _); k_dflt (refine' new_ioK ?F ?N ?X ?_; (case F => k_asm); (case N => k_asm); (case X => k_asm)); intro x' D'' h' F' N' l1' l2'; (try k_lt l1')))
local macro_rules | `(tactic| walk_at "binaryOp Mult int int") => `(tactic| (k_here; (with_reducible show wpAny _ _ (binaryOp Operator.Mult (Value.int _ _) (Value.int _ _)) _ _ _); ((first | (with_reducible refine' PySem.P.mul_int ?_ ?hm) | (k_dflt (refine' PySem.P.mul_int ?_ ?hm))); k_dflt ((case hm => first | exact PySem.IntMulOk.of_left (PySem.intBits_le_64 (by walk_at "M int") (by walk_at "M int")) | exact PySem.IntMulOk.of_right (PySem.intBits_le_64 (by walk_at "M int") (by walk_at "M int")))))))
local macro_rules | `(tactic| walk_at "call ref") => `(tactic| (k_here; (with_reducible show wpAny _ _ (call (Value.ref 652) [Value.int _ _] _) _ _ _); k_dflt (refine' use0 (s_valid _ _ _ (by omega) (by omega)) ?HB ?B ?D ?F ?N ?hA ?hf ?hk ?hh ?hdp ?hun ?_ ?_); k_dflt (walk_at "M use"; (intro v' h' tk' hv' F' N'); obtain ⟨_, hv', _, _⟩ := hv'; subst hv'; rotate_left 1; walk_at "M fly"; rotate_right 1)))
local macro_rules | `(tactic| walk_at "call ref") => `(tactic| (k_here; (with_reducible show wpAny _ _ (call (Value.ref 716) [Value.int _ _] _) _ _ _); k_dflt (refine' use0 (s_compress _ _ _ (by omega) (by omega)) ?HB ?B ?D ?F ?N ?hA ?hf ?hk ?hh ?hdp ?hun ?_ ?_); k_dflt (walk_at "M use0q")))
local macro_rules | `(tactic| walk_at "call ref") => `(tactic| (k_here; (with_reducible show wpAny _ _ (call (Value.ref 723) [Value.int _ _] _) _ _ _); k_dflt (refine' use0 (s_decompress _ _ _ (by omega) (by omega)) ?HB ?B ?D ?F ?N ?hA ?hf ?hk ?hh ?hdp ?hun ?_ ?_); k_dflt (walk_at "M use0q")))
local macro_rules | `(tactic| walk_at "call type:bytes") => `(tactic| (k_here; (with_reducible show wpAny _ _ (call (Value.type "bytes") [Value.int _ _]) _ _ _); ((first | (with_reducible refine' bytes_of_intL ?a ?b ?_) | (k_dflt (refine' bytes_of_intL ?a ?b ?_))); k_dflt ((case a => walk_at "M int"); (case b => walk_at "M int"))); intro _ _))
-- W1
section
theorem P_len : ∀ (k m : Nat), m < 128 ^ k → (P m).length ≤ k := by
  intro k
  induction k with
  | zero => intro m hm; have : m = 0 := by simpa using hm
            subst this; rw [P_zero]; exact Nat.le_refl _
  | succ k ih =>
    intro m hm
    by_cases h0 : m = 0
    · subst h0; rw [P_zero]; exact Nat.zero_le _
    · rw [P_pos m h0, List.length_append]
      have := ih ((m - 1) / 128) (by rw [Nat.pow_succ] at hm; omega)
      show (P ((m - 1) / 128)).length + 1 ≤ k + 1
      omega
theorem enc_len {n : Nat} (h : n < 2 ^ 100) : (enc n).length ≤ 15 := by
  unfold enc
  rw [List.length_append]
  have := P_len 14 (n / 128) (by omega)
  show (P (n / 128)).length + 1 ≤ 15
  omega
theorem byte_mod (m : Nat) : (((m : Int)).fmod 128).toNat.toUInt8 = UInt8.ofNat (m % 128) := by
  rw [Int.fmod_eq_emod_of_nonneg _ (by decide)]
  have : ((m : Int) % 128).toNat = m % 128 := by omega
  rw [this]
structure WrSt where
  m : Int
  f : List UInt8
  t1 : Tok
  t2 : Tok
theorem s_written (W : Wd) (n : Nat) (t : Tok) (hn : n < 2 ^ 100) : Spec0 W 400 2000 781 ⟨[.int (n : Int) t], []⟩ (fun v => ∃ t, v = .bytes (enc n).toArray t) (fun _ => False) := by
  intro base l s R HB S hret hraise
  refine' enter0 (binds := [(PySem.Str.ofString "number", .int n t)]) HB S ?k6 ?k7 ?k8 ?k9 ?kB ?_ ?c2 ?c3 ?c4 ?c5
  walk_at "M enter"
  k_steps
  unfold Hold
  refine' while_own (σ := WrSt) (fun x => ∃ m : Nat, x.m = m ∧ P m ++ x.f = enc n) (fun x y => if y = PySem.Str.ofString "number" then some (.int x.m x.t1) else if y = PySem.Str.ofString "found" then some (.bytes x.f.toArray x.t2) else none) (fun _ => []) (fun x => x.m.toNat)
    ⟨_, _, _, _⟩ (by assumption) News.nil ?em ?J ?turn (by first | passes_own | with_unfolding_all passes_own)
  case em => exact em2 (by with_unfolding_all rfl) (by with_unfolding_all rfl) (fun y h1 h2 => by simp only [lk1, if_neg h1, if_neg h2])
  case J =>
    refine ⟨n / 128, ?_, ?_⟩
    · show (n : Int).fdiv 128 = _
      rw [Int.fdiv_eq_ediv_of_nonneg _ (by decide)]; omega
    · show P (n / 128) ++ [(((n : Int)).fmod 128).toNat.toUInt8] = _
      rw [byte_mod]; rfl
  case turn =>
    rintro ⟨mi, f, t1, t2⟩ h₁ tk₁ ⟨m, hm, J₁⟩ F' N'
    dsimp only at hm J₁ F' N'
    subst hm
    have hf : f.length ≤ 15 := by
      have := congrArg List.length J₁
      have e := enc_len hn
      rw [List.length_append] at this
      omega
    k_steps
    · unfold Hold
      have hb' : 0 < m := by have := of_decide_eq_true hb; omega
      refine' wpost_next (x' := ⟨_, _, _, _⟩) (by assumption) News.nil ?em ?hl ?J
      case em => exact em2 (by with_unfolding_all rfl) (by with_unfolding_all rfl) (fun y h1 h2 => by simp only [if_neg h1, if_neg h2])
      case hl =>
        show ((((m : Int) - 1)).fdiv 128).toNat < ((m : Int)).toNat
        rw [Int.fdiv_eq_ediv_of_nonneg _ (by decide)]; omega
      case J =>
        refine ⟨(m - 1) / 128, ?_, ?_⟩
        · show (((m : Int) - 1)).fdiv 128 = _
          rw [Int.fdiv_eq_ediv_of_nonneg _ (by decide)]; omega
        · show P ((m - 1) / 128) ++ ([(128 + (((m : Int) - 1)).fmod 128).toNat.toUInt8] ++ f) = enc n
          rw [P_pos m (by omega), List.append_assoc] at J₁
          have e : (128 + (((m : Int) - 1)).fmod 128).toNat = 128 + (m - 1) % 128 := by
            rw [Int.fmod_eq_emod_of_nonneg _ (by decide)]; omega
          rw [e]
          exact J₁
    · have hb' : m = 0 := by have := of_decide_eq_false hb; omega
      subst hb'
      rw [P_zero, List.nil_append] at J₁
      subst J₁
      exact hret _ _ _ ⟨_, rfl⟩ (Fr.keep (by k_asm))
end
-- W2
section
theorem bor_and (x y : Int) : Builtin.bitOr x y = x + y - Builtin.bitAnd x y := by
  have := bitXor_and x y
  unfold Builtin.bitXor at this
  omega
theorem bor128 {x : Int} (h : 0 ≤ x) (h' : x < 128) : Builtin.bitOr x 128 = x + 128 := by
  rw [bor_and]
  have : Builtin.bitAnd x 128 = (x / 2 ^ 7 % 2) * 2 ^ 7 := kbt_bit x 7
  rw [this]
  have : x / 2 ^ 7 = 0 := by omega
  rw [this]; omega
structure SvSt where
  m : Int
  t1 : Tok
  o : Addr
  vs : List Value
  c : Nat
theorem bindsAt {K : Frag} {a : Addr} {o o' : Obj} {fd fd' : FuncData} {s : Shared} {args : Args} {binds : List (PySem.Str × Value)} (h : K.lookup a = some o) (hd : o.data = .func fd) (h' : K.lookup a = some o') (hd' : o'.data = .func fd') (B : BindsTo s fd' args binds) : BindsTo s fd args binds := by
  rw [h'] at h; cases h; rw [hd'] at hd; cases hd; exact B
theorem s_serializeA (W : Wd) (args : Args) (n b : Int) (t tb : Tok)
    (hA : ∀ (s : Shared) (fd : FuncData) (o : Obj), (Mine.hd.heap_1_1 W.w.params).In s.heap → (Mine.hd.heap_1_1 W.w.params).lookup 701 = some o → o.data = .func fd → BindsTo s fd args [(PySem.Str.ofString "number", .int n t), (PySem.Str.ofString "bits", .int b tb)])
    (hn : -(2 ^ 100) < n) (hn' : n < 2 ^ 100) (hb : -(2 ^ 256) < b) (hb' : b < 2 ^ 256) : Spec0 W 380 1800 701 args
    (fun v => ∃ (m : Nat) (t : Tok), n = m ∧ 1 ≤ b ∧ b ≤ 64 ∧ m < 2 ^ b.toNat ∧ v = .bytes (enc m).toArray t) (fun C => C = .ref 44 ∧ ¬ (1 ≤ b ∧ b ≤ 64 ∧ 0 ≤ n ∧ n < 2 ^ b.toNat)) := by
  intro base l s R HB S hret hraise
  refine' enter0 (binds := [(PySem.Str.ofString "number", .int n t), (PySem.Str.ofString "bits", .int b tb)]) HB S ?k6 ?k7 ?k8 ?k9 ?kB ?_ ?c2 ?c3 ?c4 ?c5
  case k9 => exact hA _ _ _ (Frag.In.keeps HB.1 (Site.stays S)) (by k_is) rfl
  walk_at "M enterA"
  k_steps
  case refine'_16.refine'_9.refine'_3.refine'_4.refine'_9.refine'_9.refine'_3.refine'_4.refine'_4.refine'_9.refine'_4.refine'_5.refine'_4 =>
    unfold Hold
    refine' while_own (σ := SvSt) (fun x => ∃ (m k : Nat) (ns : List Int), x.m = m ∧ n = k ∧ IntsAre x.vs ns ∧ (∀ n ∈ ns, 0 ≤ n ∧ n < 256) ∧ P (m / 128) ++ (ns.reverse.map fun n => n.toNat.toUInt8) = enc k) (fun x y => if y = PySem.Str.ofString "number" then some (.int x.m x.t1) else if y = PySem.Str.ofString "bits" then some (.int b tb) else if y = PySem.Str.ofString "out" then some (.ref x.o) else none) (fun x => [(x.o, PySem.W.listOf x.vs.toArray x.c)]) (fun x => x.m.toNat)
      ⟨_, _, _, _, _⟩ (by assumption) ?N ?em ?J ?turn (by first | passes_own | with_unfolding_all passes_own)
    case em => exact em3 (by with_unfolding_all rfl) (by with_unfolding_all rfl) (by with_unfolding_all rfl) (fun y h1 h2 h3 => by simp only [lk2, if_neg h1, if_neg h2, if_neg h3])
    case N => assumption
    case J =>
      obtain ⟨k, rfl⟩ : ∃ k : Nat, n = k := ⟨n.toNat, by omega⟩
      refine ⟨k, k, [Builtin.bitAnd (k : Int) 127], rfl, rfl, by l_ints, ?_, ?_⟩
      · rw [bitAnd_m7]; exact BX.in1 ⟨by omega, by omega⟩
      · show P (k / 128) ++ [(Builtin.bitAnd (k : Int) 127).toNat.toUInt8] = _
        rw [bitAnd_m7]
        have e : ((k : Int) % 128).toNat = k % 128 := by omega
        rw [e]; rfl
    case turn =>
      rintro ⟨mi, t1, o, vs, c⟩ h₁ tk₁ ⟨m, k, ns, hm, hk, hi, hr, J₁⟩ F' N'
      dsimp only at hm J₁ F' N' hi
      subst hm
      have hf : ns.length ≤ 15 := by
        have := congrArg List.length J₁
        have e := enc_len (n := k) (by omega)
        rw [List.length_append, List.length_map, List.length_reverse] at this
        omega
      k_steps
      · unfold Hold
        have hb' : 127 < m := by have := of_decide_eq_true hb; omega
        rename News _ _ _ _ => N2
        rw [List.push_toArray] at N2
        have e7 : (m : Int).fdiv (2 ^ Int.toNat 7) - 1 = ((m / 128 - 1 : Nat) : Int) := by
          show (m : Int).fdiv 128 - 1 = _
          rw [Int.fdiv_eq_ediv_of_nonneg _ (by decide)]; omega
        have e8 : Builtin.bitOr (Builtin.bitAnd ((m : Int).fdiv (2 ^ Int.toNat 7) - 1) 127) 128 = ((128 + (m / 128 - 1) % 128 : Nat) : Int) := by
          rw [e7, bitAnd_m7, bor128 (by omega) (by omega)]; omega
        refine' wpost_next (x' := ⟨_, _, _, _, _⟩) (by assumption) N2 ?em ?hl ?J
        case em => exact em3 (by with_unfolding_all rfl) (by with_unfolding_all rfl) (by with_unfolding_all rfl) (fun y h1 h2 h3 => by simp only [if_neg h1, if_neg h2, if_neg h3])
        case hl =>
          show ((m : Int).fdiv (2 ^ Int.toNat 7) - 1).toNat < ((m : Int)).toNat
          rw [e7]; omega
        case J =>
          refine ⟨m / 128 - 1, k, ns ++ [_], e7, hk, hi.append (by l_ints), ?_, ?_⟩
          · rw [e8]
            intro x hx
            rcases List.mem_append.mp hx with h | h
            · exact hr x h
            · rw [List.mem_singleton] at h; subst h; omega
          · rw [e8, List.reverse_append, List.reverse_cons, List.reverse_nil, List.nil_append, List.singleton_append, List.map_cons]
            rw [P_pos (m / 128) (by omega), List.append_assoc] at J₁
            exact J₁
      · have hb' : ¬ 127 < m := by have := of_decide_eq_false hb; omega
        rename Fr _ _ _ _ => F2
        rename News _ _ _ _ => N2
        rename _ < _ => lt2
        have hm0 : m / 128 = 0 := by omega
        rw [hm0, P_zero, List.nil_append] at J₁
        refine' call_bytes_rev (l := o) (vs := vs) (ns := ns) ?hl ?hit ?hlI hi hr ?hz rfl ?_
        case hl => exact News.isList N2 (List.mem_cons_of_mem _ (List.mem_cons_self ..))
        case hit => rw [← hi.length]; exact ⟨_, (N2 _ (List.mem_cons_self ..)).1, rfl, rfl⟩
        case hlI => exact Nat.ne_of_lt lt2
        case hz => rw [sizeLine_eq]; omega
        intro h3 t3 k3 hk3
        have e3 : byteArr ns.reverse = (enc k).toArray := by rw [← J₁]; rfl
        rw [e3]
        have h9 : (0 : Int) ≤ n ∧ n < 2 ^ b.toNat := by assumption
        rw [hk] at h9
        refine hret _ _ _ ⟨k, t3, hk, by omega, by omega, by exact_mod_cast h9.2, rfl⟩ fun b o e => hk3 b o (fun hb => ?_) (F2.keep b o e)
        subst hb
        rw [(N2 _ (List.mem_cons_self ..)).2.2] at e; cases e
  all_goals exact hraise _ _ _ _ _ ⟨rfl, by omega⟩ (by assumption)
theorem s_serialize (W : Wd) (n b : Int) (t tb : Tok) (hn : -(2 ^ 100) < n) (hn' : n < 2 ^ 100) (hb : -(2 ^ 256) < b) (hb' : b < 2 ^ 256) : Spec0 W 380 1800 701 ⟨[.int n t, .int b tb], []⟩
    (fun v => ∃ (m : Nat) (t : Tok), n = m ∧ 1 ≤ b ∧ b ≤ 64 ∧ m < 2 ^ b.toNat ∧ v = .bytes (enc m).toArray t) (fun C => C = .ref 44 ∧ ¬ (1 ≤ b ∧ b ≤ 64 ∧ 0 ≤ n ∧ n < 2 ^ b.toNat)) :=
  s_serializeA W _ n b t tb (fun s fd o hin hl hd => by
    refine' bindsAt hl hd ?a ?b ?c; (case a => k_is); (case b => exact rfl); (case c => (refine' binds_K hin rfl ?x ?s ?y ?z; (case x => k_is); (case s => exact rfl); (case y => exact rfl); (case z => exact rfl)))) hn hn' hb hb'
theorem s_serialize1 (W : Wd) (n : Int) (t : Tok) (hn : -(2 ^ 100) < n) (hn' : n < 2 ^ 100) : Spec0 W 380 1800 701 ⟨[.int n t], []⟩
    (fun v => ∃ (m : Nat) (t : Tok), n = m ∧ 1 ≤ (64 : Int) ∧ (64 : Int) ≤ 64 ∧ m < 2 ^ (64 : Int).toNat ∧ v = .bytes (enc m).toArray t) (fun C => C = .ref 44 ∧ ¬ (1 ≤ (64 : Int) ∧ (64 : Int) ≤ 64 ∧ 0 ≤ n ∧ n < 2 ^ (64 : Int).toNat)) :=
  s_serializeA W _ n 64 t _ (fun s fd o hin hl hd => by
    refine' bindsAt hl hd ?a ?b ?c; (case a => k_is); (case b => exact rfl); (case c => (refine' binds_K hin rfl ?x ?s ?y ?z; (case x => k_is); (case s => exact rfl); (case y => exact rfl); (case z => exact rfl)))) hn hn' (by decide) (by decide)
end
-- W3
section
def varOk (n b : Int) : Prop := 1 ≤ b ∧ b ≤ 64 ∧ 0 ≤ n ∧ n < 2 ^ b.toNat
theorem s_number_written (W : Wd) (n b : Int) (t tb : Tok) (hn : -(2 ^ 100) < n) (hn' : n < 2 ^ 100) (hb : -(2 ^ 256) < b) (hb' : b < 2 ^ 256) : SpecC W 370 1700 795 ⟨[.int n t, .int b tb], []⟩
    (fun v => (varOk n b → ∃ t, v = .bytes (enc n.toNat).toArray t) ∧ (¬ varOk n b → v = .none)) (fun _ => False) := by
  intro base l s R HB S hret hraise
  refine' enter0 (binds := [(PySem.Str.ofString "number", .int n t), (PySem.Str.ofString "bits", .int b tb)]) HB S ?k6 ?k7 ?k8 ?k9 ?kB ?_ ?c2 ?c3 ?c4 ?c5
  walk_at "M enter"
  k_steps
  · obtain ⟨m, tm, rfl, h1, h2, h3, rfl⟩ := hv'
    refine hret _ _ _ ⟨fun _ => ⟨tm, rfl⟩, fun h => absurd ⟨h1, h2, by omega, by exact_mod_cast h3⟩ h⟩ (Same.of_keeps (Fr.keep F'))
  · walk_at "M catch"
    k_steps
    refine hret _ _ _ ⟨fun h => absurd h hp', fun _ => rfl⟩ (Same.of_turn TC (Fr.keep (by k_asm)))
end
-- W4
section
theorem s_read (W : Wd) (io D B : Addr) (b : List UInt8) (p : Nat) (k : IoT) (n : Int) (t : Tok) (hn : 0 ≤ n) (hn' : n < 2 ^ 32) (hb : b.length ≤ 100000) : SpecIO W 370 1700 291 ⟨[.ref io, .int n t], []⟩ io D B b (p : Int) k
    (fun v p' => ∃ t, v = .bytes ((b.drop p).take n.toNat).toArray t ∧ p' = ((if p < b.length then min b.length (p + n.toNat) else p : Nat) : Int)) (fun _ => False) := by
  obtain ⟨t1, t2, t3, c⟩ := k
  intro base l s R HB S hio h1 h2 hret hraise
  refine' enterIO (binds := [(PySem.Str.ofString "self", .ref io), (PySem.Str.ofString "size", .int n t)]) HB S hio ?k6 ?k7 ?k8 ?k9 ?kB ?_ ?c2 ?c3 ?c4 ?c5
  walk_at "M enterIO"
  k_steps
  · rename Fr _ _ _ _ => F9
    rename News _ _ _ _ => N9
    have hp : b.length ≤ p := by omega
    refine' hret _ _ _ _ ⟨t1, t2, _, c⟩ ?_ (back_io hio hg' F9 (News_at N9 (by k_mem)) (News_at N9 (by k_mem))) ?D1 ?c1
    (case D1 => exact News_at N9 (by k_mem))
    (case c1 => exact rfl)
    refine ⟨_, congrArg (fun l => Value.bytes (List.toArray l) _) ?_, ?_⟩
    · rw [List.drop_of_length_le hp, List.take_nil]
    · rw [if_neg (by omega)]
  · rename Fr _ _ _ _ => F9
    rename News _ _ _ _ => N9
    have e1 : min p b.length = p := by omega
    have e2 : clipAt b.length ((p : Int) + n) = p + n.toNat := by
      have : (p : Int) + n = ((p + n.toNat : Nat) : Int) := by omega
      rw [this, clipAt_nat]; omega
    rw [e1, e2]
    refine' hret _ _ _ _ ⟨t1, t2, _, c⟩ ?_ (back_io hio hg' F9 (News_at N9 (by k_mem)) (News_at N9 (by k_mem))) ?D2 ?c2
    (case D2 => exact News_at N9 (by k_mem))
    (case c2 => exact rfl)
    refine ⟨_, congrArg (fun l => Value.bytes (List.toArray l) _) ?_, ?_⟩
    · rw [Nat.add_sub_cancel_left]
    · rw [if_pos (by omega)]; omega
  · rename Fr _ _ _ _ => F9
    rename News _ _ _ _ => N9
    have e1 : min p b.length = p := by omega
    rw [e1, Nat.min_self]
    refine' hret _ _ _ _ ⟨t1, t2, _, c⟩ ?_ (back_io hio hg' F9 (News_at N9 (by k_mem)) (News_at N9 (by k_mem))) ?D3 ?c3
    (case D3 => exact News_at N9 (by k_mem))
    (case c3 => exact rfl)
    refine ⟨_, congrArg (fun l => Value.bytes (List.toArray l) _) ?_, ?_⟩
    · rw [List.take_of_length_le (by rw [List.length_drop]; omega), List.take_of_length_le (by rw [List.length_drop]; omega)]
    · rw [if_pos (by omega)]; omega
end
section
local macro_rules | `(tactic| walk_at "call ref") => `(tactic| (k_here; (with_reducible show wpAny _ _ (call (Value.ref _) _ _) _ _ _); refine hold ?_))
local macro_rules | `(tactic| walk_at "call ref") => `(tactic| (k_here; (with_reducible show wpAny _ _ (call (Value.ref 644) [Value.int _ _] _) _ _ _); k_dflt (refine' use0n (s_is_integer _ _ _) ?HB ?B ?D ?F ?N ?hA ?hf ?hk ?hh ?hdp ?hun ?_); k_dflt (walk_at "M use0")))
local macro_rules | `(tactic| walk_at "call ref") => `(tactic| (k_here; (with_reducible show wpAny _ _ (call (Value.ref 637) [Value.int _ _] _) _ _ _); k_dflt (refine' use0n (s_message_text _ _ _ (shown (N := 2 ^ 256) (by omega) (by omega) (by decide))) ?HB ?B ?D ?F ?N ?hA ?hf ?hk ?hh ?hdp ?hun ?_); k_dflt (walk_at "M use"; intro v' h' tk' hv' F' N'; obtain ⟨_, xm, hv', hxm⟩ := hv'; subst hv'; (try dsimp only); (try k_sweep))))
local macro_rules | `(tactic| walk_at "call ref") => `(tactic| (k_here; (with_reducible show wpAny _ _ (call (Value.ref 693) [Value.int _ _] _) _ _ _); k_dflt (refine' use0 (s_assert_bits _ _ _ (by omega) (by omega)) ?HB ?B ?D ?F ?N ?hA ?hf ?hk ?hh ?hdp ?hun ?_ ?_); k_dflt (walk_at "M use0r")))
local macro_rules | `(tactic| walk_at "call ref") => `(tactic| (k_here; (with_reducible show wpAny _ _ (call (Value.ref 686) [Value.int _ _, Value.int _ _, Value.str _ _] _) _ _ _); k_dflt (refine' use0 (s_assert_unsigned _ _ _ _ _ _ _ (by omega) (by omega) (by omega) (by omega) (by decide)) ?HB ?B ?D ?F ?N ?hA ?hf ?hk ?hh ?hdp ?hun ?_ ?_); k_dflt (walk_at "M use0r"); (all_goals (try (simp only [show Int.toNat 64 = 64 from rfl] at hp')))))
local macro_rules | `(tactic| walk_at "call ref") => `(tactic| (k_here; (with_reducible show wpAny _ _ (call (Value.ref 701) [Value.int _ _, Value.int _ _] _) _ _ _); k_dflt (refine' use0 (s_serialize _ _ _ _ _ (by omega) (by omega) (by omega) (by omega)) ?HB ?B ?D ?F ?N ?hA ?hf ?hk ?hh ?hdp ?hun ?_ ?_); k_dflt (walk_at "M use0q")))
local macro_rules | `(tactic| walk_at "call ref") => `(tactic| (k_here; (with_reducible show wpAny _ _ (call (Value.ref 291) [Value.ref _, Value.int _ _] _) _ _ _); k_dflt (refine' useIO (s_read _ _ _ _ _ _ ⟨_, _, _, _⟩ _ _ ?n1 ?n2 ?n3) ?HB ?B ?D ?F ?N ?h1 ?h2 ?hA ?hf ?hk ?hh ?hdp ?hun ?_ (fun _ _ _ _ _ _ x => x.elim)); k_dflt (walk_at "M useIO"); k_dflt ((case n1 => omega); (case n2 => omega); (case n3 => omega); walk_at "M backIO"; obtain ⟨_, hv', hp'⟩ := hv'; (have hl9 := tk_len hv'); subst hv'; subst hp')))
local macro_rules | `(tactic| walk_at "call ref") => `(tactic| (k_here; (with_reducible show wpAny _ _ (call (Value.ref 630) [Value.ref _, Value.int _ _, Value.str _ _] _) _ _ _); k_dflt (refine' useIO (s_exactly _ _ _ _ _ _ ⟨_, _, _, _⟩ _ _ _ _ ?n1 ?n2 ?n3 ?n4 ?n5) ?HB ?B ?D ?F ?N ?h1 ?h2 ?hA ?hf ?hk ?hh ?hdp ?hun ?_ ?_); k_dflt (walk_at "M useIO"); k_dflt ((case n1 => omega); (case n2 => omega); (case n3 => omega); (case n4 => decide); (case n5 => omega)); k_dflt (walk_at "M backIO"; obtain ⟨_, hv', hq', hp'⟩ := hv'; (have hl9 := tk_len hv'); subst hv'; subst hp'; rotate_left 1; walk_at "M flyIO"; rotate_right 1)))
local macro_rules | `(tactic| walk_at "call ref") => `(tactic| (k_here; (with_reducible show wpAny _ _ (call (Value.ref 66) [Value.bytes (List.toArray _) _] _) _ _ _); k_dflt (refine' use0n (s_octets _ _ _) ?HB ?B ?D ?F ?N ?hA ?hf ?hk ?hh ?hdp ?hun ?_); k_dflt (walk_at "M use0")))
local macro_rules | `(tactic| walk_at "call ref") => `(tactic| (k_here; (with_reducible show wpAny _ _ (call (Value.ref 652) [Value.int _ _] _) _ _ _); k_dflt (refine' use0 (s_valid _ _ _ (by omega) (by omega)) ?HB ?B ?D ?F ?N ?hA ?hf ?hk ?hh ?hdp ?hun ?_ ?_); k_dflt (walk_at "M use"; (intro v' h' tk' hv' F' N'); obtain ⟨_, hv', _, _⟩ := hv'; subst hv'; rotate_left 1; walk_at "M fly"; rotate_right 1)))
local macro_rules | `(tactic| walk_at "call ref") => `(tactic| (k_here; (with_reducible show wpAny _ _ (call (Value.ref 716) [Value.int _ _] _) _ _ _); k_dflt (refine' use0 (s_compress _ _ _ (by omega) (by omega)) ?HB ?B ?D ?F ?N ?hA ?hf ?hk ?hh ?hdp ?hun ?_ ?_); k_dflt (walk_at "M use0q")))
local macro_rules | `(tactic| walk_at "call ref") => `(tactic| (k_here; (with_reducible show wpAny _ _ (call (Value.ref 723) [Value.int _ _] _) _ _ _); k_dflt (refine' use0 (s_decompress _ _ _ (by omega) (by omega)) ?HB ?B ?D ?F ?N ?hA ?hf ?hk ?hh ?hdp ?hun ?_ ?_); k_dflt (walk_at "M use0q")))
-- W5
section
theorem s_exactly (W : Wd) (io D B : Addr) (b : List UInt8) (p : Nat) (k : IoT) (n : Int) (t : Tok) (x : PySem.Str) (tx : Tok) (hn : 0 ≤ n) (hn' : n < 2 ^ 32) (hb : b.length ≤ 100000) (hx : x.length ≤ 1000) (hp : p ≤ b.length) : SpecIO W 360 1600 630 ⟨[.ref io, .int n t, .str x tx], []⟩ io D B b (p : Int) k
    (fun v p' => ∃ t, v = .bytes ((b.drop p).take n.toNat).toArray t ∧ p + n.toNat ≤ b.length ∧ p' = ((p + n.toNat : Nat) : Int)) (fun C => C = .ref 44 ∧ ¬ p + n.toNat ≤ b.length) := by
  obtain ⟨t1, t2, t3, c⟩ := k
  intro base l s R HB S hio h1 h2 hret hraise
  refine' enterIO (binds := [(PySem.Str.ofString "stream", .ref io), (PySem.Str.ofString "size", .int n t), (PySem.Str.ofString "what", .str x tx)]) HB S hio ?k6 ?k7 ?k8 ?k9 ?kB ?_ ?c2 ?c3 ?c4 ?c5
  walk_at "M enterIO"
  k_steps
  · subst hg'
    exact hraise _ _ _ _ _ ⟨rfl, by omega⟩ (by assumption)
  · rename Fr _ _ _ _ => F9
    rename News _ _ _ _ => N9
    have e9 : (if p < b.length then min b.length (p + n.toNat) else p) = p + n.toNat := by split <;> omega
    rw [e9] at N9
    refine' hret _ _ _ _ ⟨_, _, _, _⟩ ?_ (back_io hio hg' F9 (News_at N9 (by k_mem)) (News_at N9 (by k_mem))) ?D1 ?c1
    (case D1 => exact News_at N9 (by k_mem))
    (case c1 => exact rfl)
    exact ⟨_, rfl, by omega, rfl⟩
end
end
-- W6
section
structure PvSt where
  num : Int
  tn : Tok
  mv : Int
  tm : Tok
  ob : Option Value
  p : Nat
  t1 : Tok
  t2 : Tok
  t3 : Tok
theorem band_mul (a c : Nat) (hc : c < 128) : Builtin.bitAnd ((a : Int) * 128) (c : Int) = 0 := by
  unfold Builtin.bitAnd
  have h1 : decide ((0 : Int) ≤ (a : Int) * 128) = true := by simp; omega
  have h2 : decide ((0 : Int) ≤ (c : Int)) = true := by simp
  rw [h1, h2]
  have e1 : ((a : Int) * 128).toNat = a * 2 ^ 7 := by omega
  have e2 : ((c : Int)).toNat = c := by omega
  dsimp only
  rw [e1, e2]
  have : a * 2 ^ 7 &&& c = 0 := by
    apply Nat.eq_of_testBit_eq
    intro i
    rw [Nat.testBit_and, Nat.zero_testBit, Nat.testBit_mul_two_pow]
    by_cases h : 7 ≤ i
    · rw [Nat.testBit_lt_two_pow (x := c) (i := i) (Nat.lt_of_lt_of_le (by omega : c < 2 ^ 7) (Nat.pow_le_pow_right (by decide) h)), Bool.and_false]
    · simp [h]
  rw [this]; rfl
theorem bor_shift (a c : Nat) (hc : c < 128) : Builtin.bitOr ((a : Int) * 128) (c : Int) = ((a * 128 + c : Nat) : Int) := by
  rw [bor_and, band_mul a c hc]; omega
theorem band128 (c : Nat) (hc : c < 256) : Builtin.bitAnd (c : Int) 128 = if c < 128 then 0 else 128 := by
  have : Builtin.bitAnd (c : Int) 128 = ((c : Int) / 2 ^ 7 % 2) * 2 ^ 7 := kbt_bit c 7
  rw [this]; split <;> omega
theorem rd_step (M num : Nat) (b : List UInt8) (q : Nat) (hq : q < b.length) : ∃ c : Nat, c < 256 ∧ (((b.drop q).take (Int.toNat 1)).getD (Int.toNat 0) 0).toNat = c ∧
    rd M num (b.drop q) = if M ≤ num * 128 + c % 128 then none else if c < 128 then some (num * 128 + c % 128, b.drop (q + 1)) else if M ≤ num * 128 + c % 128 + 1 then none else rd M (num * 128 + c % 128 + 1) (b.drop (q + 1)) := by
  have e : b.drop (q + 1) = (b.drop q).drop 1 := by rw [List.drop_drop]
  rw [e]
  cases h : b.drop q with
  | nil =>
    have := congrArg List.length h
    rw [List.length_drop] at this
    simp at this
    omega
  | cons x r => exact ⟨x.toNat, x.toNat_lt, rfl, rfl⟩
theorem rd_out (M num : Nat) (b : List UInt8) (q : Nat) (hq : ¬ q + Int.toNat 1 ≤ b.length) : rd M num (b.drop q) = none := by
  rw [List.drop_of_length_le (by have : Int.toNat 1 = 1 := rfl; omega)]; rfl
theorem s_parse (W : Wd) (io D B : Addr) (b : List UInt8) (p : Nat) (k : IoT) (bits : Int) (t : Tok) (hn : -(2 ^ 256) < bits) (hn' : bits < 2 ^ 256) (hb : b.length ≤ 100000) (hp : p ≤ b.length) : SpecIO W 350 1500 709 ⟨[.ref io, .int bits t], []⟩ io D B b (p : Int) k
    (fun v p' => ∃ (n : Nat) (rest : List UInt8) (t : Tok), 1 ≤ bits ∧ bits ≤ 64 ∧ rd (2 ^ bits.toNat) 0 (b.drop p) = some (n, rest) ∧ v = .int n t ∧ p' = ((b.length - rest.length : Nat) : Int)) (fun C => C = .ref 44 ∧ ¬ (1 ≤ bits ∧ bits ≤ 64 ∧ (rd (2 ^ bits.toNat) 0 (b.drop p)).isSome = true)) := by
  obtain ⟨t1, t2, t3, c⟩ := k
  intro base l s R HB S hio h1 h2 hret hraise
  refine' enterIO (binds := [(PySem.Str.ofString "stream", .ref io), (PySem.Str.ofString "bits", .int bits t)]) HB S hio ?k6 ?k7 ?k8 ?k9 ?kB ?_ ?c2 ?c3 ?c4 ?c5
  walk_at "M enterIO"
  k_steps
  · unfold Hold
    refine' while_own (σ := PvSt) (fun x => ∃ num : Nat, x.num = num ∧ x.mv = ((2 ^ bits.toNat : Nat) : Int) - 1 ∧ num < 2 ^ bits.toNat ∧ x.p ≤ b.length ∧ rd (2 ^ bits.toNat) num (b.drop x.p) = rd (2 ^ bits.toNat) 0 (b.drop p))
      (fun x y => if y = PySem.Str.ofString "number" then some (.int x.num x.tn) else if y = PySem.Str.ofString "max_value" then some (.int x.mv x.tm) else if y = PySem.Str.ofString "stream" then some (.ref io) else if y = PySem.Str.ofString "bits" then some (.int bits t) else if y = PySem.Str.ofString "byte" then x.ob else none)
      (fun x => ioN W.w io D B b (x.p : Int) ⟨x.t1, x.t2, x.t3, c⟩) (fun x => b.length - x.p) ⟨_, _, _, _, _, p, t1, t2, t3⟩ (by assumption) ?N ?em ?J ?turn (by first | passes_own | with_unfolding_all passes_own)
    case em => exact em5 (by with_unfolding_all rfl) (by with_unfolding_all rfl) (by with_unfolding_all rfl) (by with_unfolding_all rfl) (by with_unfolding_all rfl) (fun y h1 h2 h3 h4 h5 => by simp only [lk2, if_neg h1, if_neg h2, if_neg h3, if_neg h4, if_neg h5])
    case N => assumption
    case J =>
      refine ⟨0, rfl, ?_, Nat.pos_of_ne_zero (by simp), hp, rfl⟩
      show (1 : Int) * 2 ^ bits.toNat - 1 = _
      rw [Int.one_mul, Int.natCast_pow]; rfl
    case turn =>
      rintro ⟨num', tn, mv, tm, ob, q, u1, u2, u3⟩ h₁ tk₁ ⟨num, hm, hmv, hlt, hq, J₁⟩ F' N'
      dsimp only at hm hmv hq J₁ F'
      dsimp only [ioN, ioDict, ioBuf] at N'
      subst hm
      have hM : 2 ^ bits.toNat ≤ 2 ^ 64 := Nat.pow_le_pow_right (by decide) (by omega)
      generalize hMe : 2 ^ bits.toNat = M at *
      have hnb : num < 18446744073709551616 := by omega
      k_steps
      all_goals first
        | (have hq1 : q < b.length := by have e1 : Int.toNat 1 = 1 := rfl; omega
           obtain ⟨c0, hc, hce, st⟩ := rd_step M num b q hq1
           have e8 : Builtin.bitOr ((num : Int) * 2 ^ Int.toNat 7) (Builtin.bitAnd (c0 : Int) 127) = ((num * 128 + c0 % 128 : Nat) : Int) := by
             rw [bitAnd_m7]
             have e2 : (c0 : Int) % 128 = ((c0 % 128 : Nat) : Int) := by omega
             rw [e2]
             exact bor_shift num (c0 % 128) (by omega))
        | skip
      · rename Int.fdiv _ _ < _ => a1
        have h7 : M ≤ num * 128 + c0 % 128 := by
          have e1 : mv.fdiv (2 ^ Int.toNat 7) = mv.fdiv 128 := rfl
          rw [e1, Int.fdiv_eq_ediv_of_nonneg _ (by decide)] at a1; omega
        rw [if_pos h7, J₁] at st
        subst hg'
        exact hraise _ _ _ _ _ ⟨rfl, fun h => by rw [st] at h; exact absurd h.2.2 (by decide)⟩ (by assumption)
      · rename mv < Builtin.bitOr _ _ => a1
        rw [hce, e8] at a1
        rw [if_pos (by omega), J₁] at st
        subst hg'
        exact hraise _ _ _ _ _ ⟨rfl, fun h => by rw [st] at h; exact absurd h.2.2 (by decide)⟩ (by assumption)
      · rename Builtin.bitOr _ _ = mv => a1
        rename ¬ Builtin.bitAnd _ _ = 0 => a2
        rw [hce, e8] at a1
        rw [hce, band128 _ hc] at a2
        have h8 : ¬ c0 < 128 := fun h => a2 (if_pos h)
        rw [if_neg (by omega), if_neg h8, if_pos (by omega), J₁] at st
        subst hg'
        exact hraise _ _ _ _ _ ⟨rfl, fun h => by rw [st] at h; exact absurd h.2.2 (by decide)⟩ (by assumption)
      · rename ¬ mv < Builtin.bitOr _ _ => a0
        rename ¬ Builtin.bitOr _ _ = mv => a1
        rename ¬ Builtin.bitAnd _ _ = 0 => a2
        rename Fr _ _ _ _ => F9
        rename News _ _ _ _ => N9
        rw [hce, e8] at a1 a0
        rw [hce, band128 _ hc] at a2
        have h8 : ¬ c0 < 128 := fun h => a2 (if_pos h)
        rw [if_neg (by omega), if_neg h8, if_neg (by omega), J₁] at st
        unfold Hold
        refine' wpost_next (x' := ⟨_, _, _, _, _, q + 1, _, _, _⟩) F9 ?N2 ?em2 ?hl2 ?J2
        case em2 => exact em5 (by with_unfolding_all rfl) (by with_unfolding_all rfl) (by with_unfolding_all rfl) (by with_unfolding_all rfl) (by with_unfolding_all rfl) (fun y h1 h2 h3 h4 h5 => by simp only [if_neg h1, if_neg h2, if_neg h3, if_neg h4, if_neg h5])
        case N2 => exact N9
        case hl2 => show b.length - (q + 1) < b.length - q; omega
        case J2 =>
          refine ⟨num * 128 + c0 % 128 + 1, ?_, hmv, by omega, by show q + 1 ≤ b.length; omega, st.symm⟩
          show Builtin.bitOr ((num : Int) * 2 ^ Int.toNat 7) (Builtin.bitAnd (((((List.drop q b).take (Int.toNat 1)).getD (Int.toNat 0) 0).toNat : Nat) : Int) 127) + 1 = _
          rw [hce, e8]; omega
      · rename ¬ mv < Builtin.bitOr _ _ => a0
        rename Builtin.bitAnd _ _ = 0 => a2
        rename Fr _ _ _ _ => F9
        rename News _ _ _ _ => N9
        rw [hce, e8] at a0
        rw [hce, band128 _ hc] at a2
        have h8 : c0 < 128 := by
          by_cases h : c0 < 128
          · exact h
          · rw [if_neg h] at a2; cases a2
        rw [if_neg (by omega), if_pos h8, J₁] at st
        unfold Hold
        refine' hret _ _ _ _ ⟨_, _, _, _⟩ ?_ (back_io hio hg' F9 (News_at N9 (by k_mem)) (News_at N9 (by k_mem))) ?D1 ?c1
        (case D1 => exact News_at N9 (by k_mem))
        (case c1 => exact rfl)
        refine ⟨_, _, _, by omega, by omega, st, congrArg (fun z => Value.int z _) (by rw [hce, e8]), ?_⟩
        · rw [List.length_drop]
          have e1 : Int.toNat 1 = 1 := rfl
          rw [e1]; omega
      · have st := rd_out M num b q hp'
        rw [J₁] at st
        subst hg'
        exact hraise _ _ _ _ _ ⟨rfl, fun h => by rw [st] at h; exact absurd h.2.2 (by decide)⟩ (by assumption)
  · subst hg'
    exact hraise _ _ _ _ _ ⟨rfl, by omega⟩ (by assumption)
end
-- GD
section
section
variable {prog : Program} {w : World} {A : Around} {E : Value → Shared → Prop} {s : Shared} {env : Env}
theorem wpG_Assign_Attribute {M : Model} {o : Expr} {attr : PySem.Str} {pos' : Pos} {value : Expr} {pos : Pos} {Q : Flow → Shared → Prop}
    (h : wpG M A (eval value env) (fun v s₁ => wpAny M A (eval o env) (fun ov s₂ => wpAny M A (setAttr ov attr v) (fun _ => Q .next) E s₂) E s₁) E s)
    (hs : swapsWith value (some (.Attribute o attr pos')) pos.line env = pure false) :
    wpG M A (exec (.Assign [.Attribute o attr pos'] value pos) env) Q E s := fun Γ p hΓ hc => by
  simp only [plainObj_exec_Assign_Attribute o attr pos' value pos hs, assign_Attribute, Sem.wp_bind', Sem.wp_holding, Sem.wp_cmd_standAt, Sem.wp_release, Sem.wp_pure']
  exact Sem.wp_mono M Γ _ (fun v p₁ s₁ h₁ => Sem.wp_mono M Γ _ (fun ov _ s₂ h₂ => h₂ Γ _ hΓ) (fun _ _ _ h' => h') _ _ (h₁ Γ p₁ hΓ)) (fun _ _ _ h' => h') _ _ (h Γ _ hΓ hc)
theorem wpG_IfExp {M : Model} {test body orelse : Expr} {pos : Pos} {Q : Value → Shared → Prop}
    (h : wpAny M A (isTrue test env (eval test env)) (fun b s' => wpG M A (if b = true then eval body env else eval orelse env) Q E s') E s) : wpG M A (eval (.IfExp test body orelse pos) env) Q E s := by
  rw [arm_eval_IfExp]
  exact wpG_bind (wpG_of h)
theorem callTypeG {M : Model} {x : PySem.Str} {np pos : Pos} {T : String} {e : Expr} {rest : List Expr} {Q : Value → Shared → Prop}
    (h : wpAny M A (eval (.Name x np) env) (fun v s₁ => v = .type T ∧ wpAny M A (spliced (backTo pos (starEach (e :: rest) env))) (fun vs s₂ => wpG M A (call (.type T) vs) Q E s₂) E s₁) E s)
    (he : starEach (e :: rest) env = (false, eval e env) :: starEach rest env) (hplain : (backTo pos (starEach rest env)).any (·.1) = false) :
    wpG M A (eval (.Call (.Name x np) (e :: rest) [] pos) env) Q E s := by
  rw [arm_eval_Call_Name']
  refine wpG_bind (wpG_of (wpAny_mono h (fun v s₁ h₁ => ?_) fun _ _ x => x))
  obtain ⟨rfl, h₂⟩ := h₁
  show wpG M A (callWith pos (.type T) [] (backTo pos (starEach (e :: rest) env)) []) Q E s₁
  rw [he] at h₂ ⊢
  have h₃ : wpAny M A (evalArgs (.type T) true (backTo pos ((false, eval e env) :: starEach rest env)) []) (fun a s₂ => wpG M A (call (.type T) ([] ++ a.pos) a.kw) Q E s₂) E s₁ := evalArgs_plain h₂
  have hplain' : (backTo pos ((false, eval e env) :: starEach rest env)).any (·.1) = false := by show (false || (backTo pos (starEach rest env)).any (·.1)) = false; rw [hplain]; rfl
  unfold callWith
  refine wpG_bind (wpG_holding (wpG_of (wpAny_mono h₃ (fun a s₁ h₁ => wpG_bind (wpG_standAt ?_)) fun _ _ x => x)))
  simp only [hplain', List.any_nil, Bool.or_false]
  refine wpG_bind (wpG_pure ?_)
  exact wpG_bind (wpG_mono h₁ (fun r s₂ hr => wpG_of (wpAny_bind (wpAny_holding (wpAny_point (wpAny_pure hr))))) fun _ _ x => x)
end
section
variable {W : Wd} {d u : Nat} {l : List Env} {base : Heap} {s : Shared} {R : Result → Shared → Prop}
theorem enterHG {hs : List Addr} {name qual : PySem.Str} {params : Arguments} {body : List Stmt} {scope : Scope} {dV kV doc pm cdv ct oc : Value} {an od : Option Addr} {osl : Array (Option Value)} {f : Addr} {args : Args} {binds : List (PySem.Str × Value)}
    (HB : Base W base) (S : Site base l s.heap) (hh : ∀ a ∈ hs, base.get? a = none ∧ a ∉ fr l ∧ a < s.heap.objs.size)
    (ho : (Mine.hd.heap_1_1 W.w.params).lookup f = some ⟨oc, od, .func (fnOf name qual params body scope dV kV doc pm an cdv ct), osl⟩) (hcd : codeIn (Mine.hd.heap_1_1 W.w.params) cdv qual = true)
    (hd : d < recursionLimit) (hbind : BindsTo s (fnOf name qual params body scope dV kV doc pm an cdv ct) args binds) (hloc : ∀ y ∈ binds, scope.names.lookup y.1 = some .local)
    (h : ∀ g L h₁ tk, g = hideAll s.heap hs → L = s.heap.objs.size → (∀ c o, s.heap.get? c = some o → h₁.get? c = some o) → Fr g L h₁ (fun y => binds.reverse.lookup y) → Below (LV d u l) base l g → (Mine.hd.heap_1_1 W.w.params).In g → Top W.p W.loose W.mean W.mg W.mb g → KtsDicts (fr l) g →
      wpG (model W.prog W.w) ((LV d u l).deeper (envOf qual scope L f cdv)) (execs body (envOf qual scope L f cdv))
        (fun fl s' => R (.ok (.ret (match fl with | .ret v => v | _ => .none))) s')
        (fun e s' => wpAny (model W.prog W.w) ((LV d u l).deeper (envOf qual scope L f cdv)) (leaving (envOf qual scope L f cdv) e) (fun _ s'' => R (.error e) s'') (fun e' s'' => R (.error e') s'') s')
        { s with heap := h₁, toks := tk })
    (hco : scope.isCoroutine = false) (hgen : scope.isGenerator = false) (hk : scope.kind = .function)
    (hcell : ∀ x ∈ scope.names, x.2 ≠ .cell) : codeG (model W.prog W.w) (LV d u l) (.call (.ref f) args) R s := by
  have X := HB.1.keeps S.stays
  have T := HB.2.keeps S.stays
  have st : base.StaysIn (hideAll s.heap hs) := fun a o e => hideAll_get _ (S.stays a o e) fun hm => by
    rw [(hh a hm).1] at e; cases e
  refine codeG_call_function (fd := fnOf name qual params body scope dV kV doc pm an cdv ct) (body := body) hd (X _ _ ho) rfl hco hgen rfl (codeRec_of X hcd) (hbind _ _ _ _ ?_)
  refine wpAny_newFunctionEnv hcell hloc (fun h₀ hns₀ hsb₀ => ⟨T.nolimit.fresh _ hsb₀, codeG_func ?_⟩) hk
  have hk₁ : ∀ b o, s.heap.get? b = some o → h₀.get? b = some o := fun b o e => hsb₀.extBut b o (Nat.ne_of_lt (Heap.lt_size e)) (Heap.get?_push_of_some _ e)
  refine h _ _ h₀ _ rfl rfl hk₁ ⟨hns₀, fun c o e => hk₁ c o (of_hideAll _ e), by rw [hideAll_size]; exact Nat.le_refl _⟩ ⟨rfl, st, funFrames_hide S.frames fun a ha => (hh a ha).2.1⟩ (HB.1.keeps st) (HB.2.keeps st) (fun a ha => ?_)
  obtain ⟨o, es, n, e, hd⟩ := S.dicts a ha
  exact ⟨o, es, n, hideAll_get _ e fun hm => (hh a hm).2.1 ha, hd⟩
end
theorem s_init (W : Wd) (x D : Addr) (b : List UInt8) (t : Tok) (hb : b.length ≤ 100000) (base : Heap) (l : List Env) (s : Shared) (R : Result → Shared → Prop) (HB : Base W base) (S : Site base l s.heap)
    (hx : s.heap.get? x = some (instObj 367 D)) (hD : s.heap.get? D = some emptyDict) (bx : base.get? x = none) (bD : base.get? D = none) (fx : x ∉ fr l) (fD : D ∉ fr l) (hlt : @LT.lt Nat _ D x)
    (hret : ∀ B k h' tk', (∀ y o, y ≠ D → s.heap.get? y = some o → h'.get? y = some o) → h'.get? D = some (ioDict W.w B 0 k) → h'.get? B = some (ioBuf b k) → s.heap.get? B = none → @LT.lt Nat _ x B → R (.ok (.ret .none)) { s with heap := h', toks := tk' }) :
    codeG (model W.prog W.w) (LV 350 1500 l) (.call (.ref 154) ⟨[.ref x, .bytes b.toArray t], []⟩) R s := by
  refine' enterHG (hs := [x, D]) (binds := [(PySem.Str.ofString "self", .ref x), (PySem.Str.ofString "initial_bytes", .bytes b.toArray t)]) HB S ?kh ?k6 ?k7 ?k8 ?k9 ?kB ?_ ?c2 ?c3 ?c4 ?c5
  case kh =>
    intro a ha
    simp only [List.mem_cons, List.not_mem_nil, or_false] at ha
    rcases ha with rfl | rfl
    · exact ⟨bx, fx, Heap.lt_size hx⟩
    · exact ⟨bD, fD, Heap.lt_size hD⟩
  (case k6 => k_is); (case k7 => k_is); (case k8 => decide)
  (case k9 => first | exact BindsTo.of_eq rfl | (refine' binds_K (Frag.In.keeps HB.1 (Site.stays S)) rfl ?x ?s ?y ?z; (case x => k_is); (case s => exact rfl); (case y => exact rfl); (case z => exact rfl)))
  (case kB => exact locs rfl); (case c2 => exact rfl); (case c3 => exact rfl); (case c4 => exact rfl); (case c5 => decide)
  intro g' L' h' tk' hg' hL hkeep F' B' X' T' D'
  have N' : News g' L' h' [(x, instObj 367 D), (D, emptyDict)] := by
    intro q hq
    simp only [List.mem_cons, List.not_mem_nil, or_false] at hq
    rcases hq with rfl | rfl
    · exact ⟨hkeep _ _ hx, by rw [hL]; exact Nat.ne_of_lt (Heap.lt_size hx), by rw [hg']; exact hideAll_none _ (by simp)⟩
    · exact ⟨hkeep _ _ hD, by rw [hL]; exact Nat.ne_of_lt (Heap.lt_size hD), by rw [hg']; exact hideAll_none _ (by simp)⟩
  (try k_fold)
  refine wpG_execs_cons (wpG_of ?_)
  k_steps
  refine wpG_execs_cons (wpG_Assign_Attribute ?_ rfl)
  refine wpG_IfExp ?_
  k_steps
  rw [if_neg Bool.false_ne_true]
  refine callTypeG (T := "bytearray") ?_ rfl rfl
  k_steps
  refine ba_call (by rw [sizeLine_eq]; simp; omega) (fun a h2 hn hsz hk ha => ?_)
  rename Fr _ _ _ _ => F1
  rename News _ _ _ _ => N1
  have F2 : Fr g' L' h2 _ := F1.keeps hk
  have hax : @LT.lt Nat _ x a := Nat.lt_of_lt_of_le (Heap.lt_size (N1 (x, instObj 367 D) (by simp)).1) hsz
  have N2 : News g' L' h2 [(x, instObj 367 D), (D, emptyDict), (a, { cls := .type "bytearray", data := .bytearray b.toArray })] := by
    intro q hq
    simp only [List.mem_cons, List.not_mem_nil, or_false] at hq
    rcases hq with rfl | rfl | rfl
    · exact ⟨hk _ _ (N1 (x, instObj 367 D) (by simp)).1, (N1 (x, instObj 367 D) (by simp)).2⟩
    · exact ⟨hk _ _ (N1 (D, emptyDict) (by simp)).1, (N1 (D, emptyDict) (by simp)).2⟩
    · refine ⟨ha, ?_, ?_⟩
      · obtain ⟨oL, es, ep, hLo, _⟩ := F1.ns
        exact fun e => absurd (Heap.lt_size hLo) (Nat.not_lt.mpr (e ▸ hsz))
      · cases q : g'.get? a with
        | none => rfl
        | some o => rw [F1.keep _ _ q] at hn; cases hn
  k_steps
  refine wpG_execs_cons (wpG_of ?_)
  k_steps
  refine wpG_execs_nil ?_
  rename Fr _ _ _ _ => F9
  rename News _ _ _ _ => N9
  refine' hret a ⟨_, _, _, 0⟩ _ _ (fun y o hy e => ?_) ?D9 (News_at N9 (by k_mem)) ?_ hax
  case D9 => exact News_at N9 (by k_mem)
  · by_cases e1 : y = x
    · subst e1
      rw [hx] at e; cases e
      exact News_at N9 (by k_mem)
    · exact F9.keep y o (hg' ▸ hideAll_get _ e (by simp [e1, hy]))
  · cases q : s.heap.get? a with
    | none => rfl
    | some o => rw [hkeep _ _ q] at hn; cases hn
end
-- GE
section
theorem pk_made {W : Wd} {M : Model} {h : Heap} (X : (Mine.hd.heap_1_1 W.w.params).In h) : Looks M h (Bind.madeBy (.ref 367)) none := Looks.of_peek X (by kernel_rfl)
theorem pk_here {W : Wd} {M : Model} {h : Heap} (X : (Mine.hd.heap_1_1 W.w.params).In h) : Looks M h (Bind.madeHere "object.__new__" (.ref 367)) () := Looks.of_peek X (by kernel_rfl)
theorem pk_mro {W : Wd} {M : Model} {h : Heap} (X : (Mine.hd.heap_1_1 W.w.params).In h) : Looks M h (mroOf (.ref 367)) [.ref 367, .ref 125, .ref 110, .type "object"] := Looks.of_peek X (by kernel_rfl)
theorem pk_call {W : Wd} {M : Model} {h : Heap} (X : (Mine.hd.heap_1_1 W.w.params).In h) : Looks M h (specialOf (.ref 367) "__call__") (some (.builtin "type.__call__")) := Looks.of_peek X (by kernel_rfl)
theorem pk_typ {W : Wd} {M : Model} {h : Heap} (X : (Mine.hd.heap_1_1 W.w.params).In h) : Looks M h (isInstance (.ref 367) (.type "type")) true := Looks.of_peek X (by kernel_rfl)
theorem pk_sub {W : Wd} {M : Model} {h : Heap} (X : (Mine.hd.heap_1_1 W.w.params).In h) : Looks M h (isSubtype (.ref 367) (.ref 367)) true := Looks.of_peek X (by kernel_rfl)
theorem pk_top {W : Wd} {M : Model} {h : Heap} (X : (Mine.hd.heap_1_1 W.w.params).In h) : Looks M h (isSubtype (.ref 367) (.type "object")) true := Looks.of_peek X (by kernel_rfl)
theorem pk_init {W : Wd} {M : Model} {h : Heap} (X : (Mine.hd.heap_1_1 W.w.params).In h) : Looks M h (typeLookup (.ref 367) "__init__") (some (.ref 154)) := Looks.of_peek X (by kernel_rfl)
theorem pk_isType {W : Wd} {M : Model} {h : Heap} (X : (Mine.hd.heap_1_1 W.w.params).In h) : Looks M h (isType (.ref 367)) true := Looks.of_peek X (by kernel_rfl)
theorem cls367 {W : Wd} {h : Heap} (X : (Mine.hd.heap_1_1 W.w.params).In h) : ∃ oc od cd sl, h.get? 367 = some ⟨oc, od, .cls cd, sl⟩ ∧ cd.abstract = false ∧ cd.hasDel = false ∧ cd.mro.isEmpty = false := by
  have e : ((Mine.hd.heap_1_1 W.w.params).lookup 367).any (fun o => match o.data with | .cls cd => !cd.abstract && !cd.hasDel && !cd.mro.isEmpty | _ => false) = true := by kernel_rfl
  cases hl : (Mine.hd.heap_1_1 W.w.params).lookup 367 with
  | none => rw [hl] at e; cases e
  | some o =>
    rw [hl] at e
    obtain ⟨oc, od, dt, sl⟩ := o
    cases dt <;> first | (cases e; done) | skip
    rename_i cd
    simp only [Option.any_some, Bool.and_eq_true, Bool.not_eq_true'] at e
    exact ⟨oc, od, cd, sl, X _ _ hl, e.1.1, e.1.2, e.2⟩
theorem pk_newCheck {W : Wd} {M : Model} {h : Heap} (X : (Mine.hd.heap_1_1 W.w.params).In h) : Looks M h (checkBuiltinCall "object.__new__" ⟨[.ref 367], []⟩) () := Looks.of_peek X (by kernel_rfl)
section
variable {W : Wd} {A : Around} {R : Result → Shared → Prop} {s : Shared}
theorem new_io (X : (Mine.hd.heap_1_1 W.w.params).In s.heap)
    (hq : R (.ok (.ret (.ref (s.heap.objs.size + 1)))) { s with heap := (s.heap.push emptyDict).push (instObj 367 s.heap.objs.size) }) :
    codeAny (model W.prog W.w) A (.call (.builtin "object.__new__") ⟨[.ref 367], []⟩) R s := by
  obtain ⟨h, g, d, t, os⟩ := s
  obtain ⟨oc, od, cd, sl, hC, e1, e2, e4⟩ := cls367 X
  have ist := pk_isType (M := model W.prog W.w) X
  have here := pk_here (M := model W.prog W.w) X
  have F := PySem.F.objNew
  refine codeAny_call_builtin_code (Code.quiet_builtin _ F.quiet) ((pk_newCheck X).at ?_)
  refine codeAny_builtin F.entry ?_
  unfold Builtin.«object.__new__»
  have fin : ∀ A', wpAny (model W.prog W.w) A' (do
      let d ← if typeHasDict (.ref 367) then some <$> alloc { cls := .type "dict", data := .dict #[] } else pure none
      ret (← newObj (.ref 367) .plain d)) (fun fin s' => match fin with | .done f => R (.ok f) s' | .again c' => c'.quiet = true ∧ codeAny (model W.prog W.w) A c' R s') (fun e s' => R (.error e) s') ⟨h, g, d, t, os⟩ := by
    intro A'
    show wpAny _ _ ((alloc emptyDict >>= fun x => pure (some x)) >>= _) _ _ _
    refine wpAny_bind (wpAny_bind (wpAny_alloc (wpAny_pure (wpAny_bind ?_))))
    show wpAny _ _ (newObjAsIs _ _ _) _ _ _
    unfold newObjAsIs classHasDel
    refine wpAny_bind (wpAny_alloc (wpAny_bind (wpAny_bind (wpAny_load (Heap.get?_push_of_some _ (Heap.get?_push_of_some _ hC)) (wpAny_pure ?_)))))
    rw [e2]
    refine wpAny_pure (wpAny_pure ?_)
    show R _ _
    rw [Heap.size_push]
    exact hq
  refine wpAny_bind (ist.at ?_)
  refine bm_if_false rfl ?_
  refine wpAny_bind (here.at ?_)
  repeat (first | simp only [e1, Bool.false_eq_true, if_false] | exact fin _ | lk)
end
end
-- GF
section
theorem pk_bind154 {W : Wd} {M : Model} {h : Heap} (X : (Mine.hd.heap_1_1 W.w.params).In h) (self : Value) : Looks M h (bindSpecial (.ref 154) self) (.ref 154, [self]) := bind_fn X self (by k_is)
section
variable {W : Wd} {A : Around} {E : Value → Shared → Prop} {s : Shared} {Q : Value → Shared → Prop}
/-- the call of the class BytesIO, up to its two own methods -/
theorem typeCall_io {v : Value} (X : (Mine.hd.heap_1_1 W.w.params).In s.heap)
    (h : wpAny (model W.prog W.w) (A.under (.builtin "type.__call__" ⟨[.ref 367, v], []⟩)) (getAttr (.ref 367) "__new__") (fun new s₁ => wpAny (model W.prog W.w) (A.under (.builtin "type.__call__" ⟨[.ref 367, v], []⟩)) (call new [.ref 367, v]) (fun r s₂ => ∃ x D, r = .ref x ∧ s₂.heap.get? x = some (instObj 367 D) ∧ (Mine.hd.heap_1_1 W.w.params).In s₂.heap ∧
      wpG (model W.prog W.w) (A.under (.builtin "type.__call__" ⟨[.ref 367, v], []⟩)) (call (.ref 154) [.ref x, v]) (fun r s₃ => r = .none ∧ Q (.ref x) s₃) E s₂) E s₁) E s) :
    wpG (model W.prog W.w) A (call (.ref 367) [v]) Q E s := by
  obtain ⟨hp, g, d, t, os⟩ := s
  obtain ⟨oc, od, cd, sl, hC, e1, e2, e4⟩ := cls367 X
  refine wpG_call (codeG_of_tree (wpG_of ?_))
  show wpAny _ _ (callAny (.ref 367) _) _ _ _
  refine nd_load hC ?_
  show wpAny _ _ (callAny.viaDunder (.ref 367) _) _ _ _
  unfold callAny.viaDunder
  refine wpAny_bind ((pk_call X).at ?_)
  dsimp only
  rw [tc_bind]
  refine wpAny_bind (wpAny_pure (wpAny_bind (wpAny_pure ?_)))
  refine wpAny_pure (a := Fin.again (.call (.builtin "type.__call__") ⟨[.ref 367, v], []⟩)) (And.intro rfl ⟨rfl, codeG_of_tree (wpG_of ?_)⟩)
  show wpAny _ _ (do checkBuiltinCall "type.__call__" ⟨[.ref 367, v], []⟩; again (.builtin "type.__call__" ⟨[.ref 367, v], []⟩)) _ _ _
  refine wpAny_bind (check_slot tc_kind tc_split (pk_typ X) (tc_args _ _ _) (wpAny_pure ⟨Code.quiet_builtin _ (by decide +kernel), decent_of (by decide +kernel), codeG_builtin entry_typeCall ?_⟩))
  unfold Builtin.«type.__call__»
  dsimp only
  refine wpG_if_false (by decide) ?_
  refine wpG_bind (wpG_of ((pk_mro X).at ?_))
  refine wpG_if_false rfl ?_
  refine wpG_bind (wpG_of ((pk_made X).at ?_))
  dsimp only
  refine wpG_bind (wpG_of (wpAny_mono h (fun new s₁ h₁ => ?_) fun _ _ x => x))
  refine wpG_bind (wpG_of (wpAny_holding (wpAny_mono h₁ (fun r s₂ h₂ => ?_) fun _ _ x => x)))
  obtain ⟨x, D, rfl, hx, X₂, h₃⟩ := h₂
  obtain ⟨hp2, g2, d2, t2, os2⟩ := s₂
  have t1 : Looks (model W.prog W.w) hp2 (typeOf (.ref x)) (.ref 367) := (Looks.ld hx).andThen .now
  have isin : Looks (model W.prog W.w) hp2 (isInstance (.ref x) (.ref 367)) true := t1.andThen (pk_sub X₂)
  refine wpG_bind (wpG_of (isin.at ?_))
  refine wpG_if_false rfl ?_
  refine wpG_bind (wpG_holding ?_)
  unfold callSpecial? specialOf
  refine wpG_bind (wpG_of (wpAny_bind (t1.at ((pk_init X₂).at ?_))))
  dsimp only
  refine wpG_holding ?_
  refine wpG_bind (wpG_of ((pk_bind154 X₂ _).at ?_))
  dsimp only
  refine wpG_bind (wpG_mono h₃ (fun r s₃ hr => ?_) fun _ _ x => x)
  obtain ⟨rfl, hq⟩ := hr
  refine wpG_pure ?_
  dsimp only
  refine wpG_if_false rfl ?_
  exact wpG_pure hq
end
end
section
local macro_rules | `(tactic| walk_at "call ref") => `(tactic| (k_here; (with_reducible show wpAny _ _ (call (Value.ref _) _ _) _ _ _); refine hold ?_))
local macro_rules | `(tactic| walk_at "call ref") => `(tactic| (k_here; (with_reducible show wpAny _ _ (call (Value.ref 644) [Value.int _ _] _) _ _ _); k_dflt (refine' use0n (s_is_integer _ _ _) ?HB ?B ?D ?F ?N ?hA ?hf ?hk ?hh ?hdp ?hun ?_); k_dflt (walk_at "M use0")))
local macro_rules | `(tactic| walk_at "call ref") => `(tactic| (k_here; (with_reducible show wpAny _ _ (call (Value.ref 637) [Value.int _ _] _) _ _ _); k_dflt (refine' use0n (s_message_text _ _ _ (shown (N := 2 ^ 256) (by omega) (by omega) (by decide))) ?HB ?B ?D ?F ?N ?hA ?hf ?hk ?hh ?hdp ?hun ?_); k_dflt (walk_at "M use"; intro v' h' tk' hv' F' N'; obtain ⟨_, xm, hv', hxm⟩ := hv'; subst hv'; (try dsimp only); (try k_sweep))))
local macro_rules | `(tactic| walk_at "call ref") => `(tactic| (k_here; (with_reducible show wpAny _ _ (call (Value.ref 693) [Value.int _ _] _) _ _ _); k_dflt (refine' use0 (s_assert_bits _ _ _ (by omega) (by omega)) ?HB ?B ?D ?F ?N ?hA ?hf ?hk ?hh ?hdp ?hun ?_ ?_); k_dflt (walk_at "M use0r")))
local macro_rules | `(tactic| walk_at "call ref") => `(tactic| (k_here; (with_reducible show wpAny _ _ (call (Value.ref 686) [Value.int _ _, Value.int _ _, Value.str _ _] _) _ _ _); k_dflt (refine' use0 (s_assert_unsigned _ _ _ _ _ _ _ (by omega) (by omega) (by omega) (by omega) (by decide)) ?HB ?B ?D ?F ?N ?hA ?hf ?hk ?hh ?hdp ?hun ?_ ?_); k_dflt (walk_at "M use0r"); (all_goals (try (simp only [show Int.toNat 64 = 64 from rfl] at hp')))))
local macro_rules | `(tactic| walk_at "call ref") => `(tactic| (k_here; (with_reducible show wpAny _ _ (call (Value.ref 701) [Value.int _ _, Value.int _ _] _) _ _ _); k_dflt (refine' use0 (s_serialize _ _ _ _ _ (by omega) (by omega) (by omega) (by omega)) ?HB ?B ?D ?F ?N ?hA ?hf ?hk ?hh ?hdp ?hun ?_ ?_); k_dflt (walk_at "M use0q")))
local macro_rules | `(tactic| walk_at "call ref") => `(tactic| (k_here; (with_reducible show wpAny _ _ (call (Value.ref 291) [Value.ref _, Value.int _ _] _) _ _ _); k_dflt (refine' useIO (s_read _ _ _ _ _ _ ⟨_, _, _, _⟩ _ _ ?n1 ?n2 ?n3) ?HB ?B ?D ?F ?N ?h1 ?h2 ?hA ?hf ?hk ?hh ?hdp ?hun ?_ (fun _ _ _ _ _ _ x => x.elim)); k_dflt (walk_at "M useIO"); k_dflt ((case n1 => omega); (case n2 => omega); (case n3 => omega); walk_at "M backIO"; obtain ⟨_, hv', hp'⟩ := hv'; (have hl9 := tk_len hv'); subst hv'; subst hp')))
local macro_rules | `(tactic| walk_at "call ref") => `(tactic| (k_here; (with_reducible show wpAny _ _ (call (Value.ref 630) [Value.ref _, Value.int _ _, Value.str _ _] _) _ _ _); k_dflt (refine' useIO (s_exactly _ _ _ _ _ _ ⟨_, _, _, _⟩ _ _ _ _ ?n1 ?n2 ?n3 ?n4 ?n5) ?HB ?B ?D ?F ?N ?h1 ?h2 ?hA ?hf ?hk ?hh ?hdp ?hun ?_ ?_); k_dflt (walk_at "M useIO"); k_dflt ((case n1 => omega); (case n2 => omega); (case n3 => omega); (case n4 => decide); (case n5 => omega)); k_dflt (walk_at "M backIO"; obtain ⟨_, hv', hq', hp'⟩ := hv'; (have hl9 := tk_len hv'); subst hv'; subst hp'; rotate_left 1; walk_at "M flyIO"; rotate_right 1)))
local macro_rules | `(tactic| walk_at "call ref") => `(tactic| (k_here; (with_reducible show wpAny _ _ (call (Value.ref 66) [Value.bytes (List.toArray _) _] _) _ _ _); k_dflt (refine' use0n (s_octets _ _ _) ?HB ?B ?D ?F ?N ?hA ?hf ?hk ?hh ?hdp ?hun ?_); k_dflt (walk_at "M use0")))
local macro_rules | `(tactic| walk_at "call ref") => `(tactic| (k_here; (with_reducible show wpAny _ _ (call (Value.ref 652) [Value.int _ _] _) _ _ _); k_dflt (refine' use0 (s_valid _ _ _ (by omega) (by omega)) ?HB ?B ?D ?F ?N ?hA ?hf ?hk ?hh ?hdp ?hun ?_ ?_); k_dflt (walk_at "M use"; (intro v' h' tk' hv' F' N'); obtain ⟨_, hv', _, _⟩ := hv'; subst hv'; rotate_left 1; walk_at "M fly"; rotate_right 1)))
local macro_rules | `(tactic| walk_at "call ref") => `(tactic| (k_here; (with_reducible show wpAny _ _ (call (Value.ref 716) [Value.int _ _] _) _ _ _); k_dflt (refine' use0 (s_compress _ _ _ (by omega) (by omega)) ?HB ?B ?D ?F ?N ?hA ?hf ?hk ?hh ?hdp ?hun ?_ ?_); k_dflt (walk_at "M use0q")))
local macro_rules | `(tactic| walk_at "call ref") => `(tactic| (k_here; (with_reducible show wpAny _ _ (call (Value.ref 723) [Value.int _ _] _) _ _ _); k_dflt (refine' use0 (s_decompress _ _ _ (by omega) (by omega)) ?HB ?B ?D ?F ?N ?hA ?hf ?hk ?hh ?hdp ?hun ?_ ?_); k_dflt (walk_at "M use0q")))
-- W7
section
theorem s_octets (W : Wd) (b : List UInt8) (t : Tok) : Spec0 W 390 1900 66 ⟨[.bytes b.toArray t], []⟩ (fun v => v = .bytes b.toArray t) (fun _ => False) := by
  intro base l s R HB S hret hraise
  refine' enter0 (binds := [(PySem.Str.ofString "octets", .bytes b.toArray t), (PySem.Str.ofString "out_size", .none)]) HB S ?k6 ?k7 ?k8 ?k9 ?kB ?_ ?c2 ?c3 ?c4 ?c5
  (case k6 => k_is); (case k7 => k_is)
  case k9 => (refine' binds_K (Frag.In.keeps HB.1 (Site.stays S)) rfl ?x ?s ?y ?z; (case x => k_is); (case s => exact rfl); (case y => exact rfl); (case z => exact rfl))
  (case k8 => decide); (case kB => exact locs rfl); (case c2 => exact rfl); (case c3 => exact rfl); (case c4 => exact rfl); (case c5 => decide)
  intro g' L' h' tk' hg' F' N' B' X' T' D'; subst hg'; (try k_fold)
  k_steps
  exact hret _ _ _ rfl (Fr.keep (by k_asm))
end
-- W8
section
theorem s_valid (W : Wd) (n : Int) (t : Tok) (hn : -(2 ^ 100) < n) (hn' : n < 2 ^ 100) : Spec0 W 390 1900 652 ⟨[.int n t], []⟩ (fun v => ∃ t, v = .int n t ∧ 0 ≤ n ∧ n ≤ 2100000000000000) (fun C => C = .ref 44 ∧ ¬ (0 ≤ n ∧ n ≤ 2100000000000000)) := by
  intro base l s R HB S hret hraise
  refine' enter0 (binds := [(PySem.Str.ofString "amount", .int n t), (PySem.Str.ofString "dust", .int 0 _)]) HB S ?k6 ?k7 ?k8 ?k9 ?kB ?_ ?c2 ?c3 ?c4 ?c5
  (case k6 => k_is); (case k7 => k_is)
  case k9 => (refine' binds_K (Frag.In.keeps HB.1 (Site.stays S)) rfl ?x ?s ?y ?z; (case x => k_is); (case s => exact rfl); (case y => exact rfl); (case z => exact rfl))
  (case k8 => decide); (case kB => exact locs rfl); (case c2 => exact rfl); (case c3 => exact rfl); (case c4 => exact rfl); (case c5 => decide)
  intro g' L' h' tk' hg' F' N' B' X' T' D'; subst hg'; (try k_fold)
  k_steps
  all_goals first
    | exact absurd (rfl : n = n) (by assumption)
    | exact hret _ _ _ ⟨_, rfl, by omega, by omega⟩ (Fr.keep (by k_asm))
    | exact hraise _ _ _ _ _ ⟨rfl, by omega⟩ (by assumption)
local macro_rules | `(tactic| walk_at "call ref") => `(tactic| (k_here; (with_reducible show wpAny _ _ (call (Value.ref 652) [Value.int _ _] _) _ _ _); k_dflt (refine' use0 (s_valid _ _ _ (by omega) (by omega)) ?HB ?B ?D ?F ?N ?hA ?hf ?hk ?hh ?hdp ?hun ?_ ?_); k_dflt (walk_at "M use"; (intro v' h' tk' hv' F' N'); obtain ⟨_, hv', _, _⟩ := hv'; subst hv'; rotate_left 1; walk_at "M fly"; rotate_right 1)))
structure CaSt where
  a : Int
  ta : Tok
  e : Int
  te : Tok
theorem s_compress (W : Wd) (n : Int) (t : Tok) (hn : -(2 ^ 100) < n) (hn' : n < 2 ^ 100) : Spec0 W 380 1800 716 ⟨[.int n t], []⟩ (fun v => ∃ (m : Nat) (t : Tok), n = m ∧ m ≤ 2100000000000000 ∧ v = .int (shortA m) t) (fun C => C = .ref 44 ∧ ¬ (0 ≤ n ∧ n ≤ 2100000000000000)) := by
  intro base l s R HB S hret hraise
  refine' enter0 (binds := [(PySem.Str.ofString "amount", .int n t)]) HB S ?k6 ?k7 ?k8 ?k9 ?kB ?_ ?c2 ?c3 ?c4 ?c5
  walk_at "M enter"
  k_steps
  · have e0 : n = 0 := by assumption
    exact hret _ _ _ ⟨0, _, e0, by omega, rfl⟩ (Fr.keep (by k_asm))
  · unfold Hold
    obtain ⟨n, rfl⟩ : ∃ k : Nat, n = k := ⟨n.toNat, by omega⟩
    refine' while_own (σ := CaSt) (fun x => ∃ m e f : Nat, x.a = m ∧ x.e = e ∧ e + f = 9 ∧ 0 < m ∧ m ≤ n ∧ stripA f m e = stripA 9 n 0)
      (fun x y => if y = PySem.Str.ofString "amount" then some (.int x.a x.ta) else if y = PySem.Str.ofString "exponent" then some (.int x.e x.te) else none) (fun _ => []) (fun x => 9 - x.e.toNat) ⟨_, _, _, _⟩ (by assumption) News.nil ?em ?J ?turn (by first | passes_own | with_unfolding_all passes_own)
    case em => exact em2 (by with_unfolding_all rfl) (by with_unfolding_all rfl) (fun y h1 h2 => by simp only [lk1, if_neg h1, if_neg h2])
    case J => exact ⟨n, 0, 9, rfl, rfl, rfl, by omega, Nat.le_refl _, rfl⟩
    case turn =>
      rintro ⟨ai, ta, ei, te⟩ h₁ tk₁ ⟨m, e, f, hm, he, hef, hpos, hle, J₁⟩ F' N'
      dsimp only at hm he F' N'
      subst hm; subst he
      have f1 : ((m : Int)).fmod 10 = ((m % 10 : Nat) : Int) := by rw [Int.fmod_eq_emod_of_nonneg _ (by decide)]; omega
      have f2 : ((m : Int)).fdiv 10 = ((m / 10 : Nat) : Int) := by rw [Int.fdiv_eq_ediv_of_nonneg _ (by decide)]; omega
      k_steps
      all_goals first
        | (unfold Hold
           refine' wpost_next (x' := ⟨_, _, _, _⟩) (by assumption) News.nil ?em2 ?hl2 ?J2
           case em2 => exact em2 (by with_unfolding_all rfl) (by with_unfolding_all rfl) (fun y h1 h2 => by simp only [if_neg h1, if_neg h2])
           case hl2 => show 9 - ((e : Int) + 1).toNat < 9 - ((e : Int)).toNat; omega
           case J2 =>
             have hc : m % 10 = 0 ∧ e < 9 := ⟨by omega, by omega⟩
             exact ⟨m / 10, e + 1, f - 1, f2, by show (e : Int) + 1 = _; omega, by omega, by omega, by omega, by rw [← J₁, strip_on f m e hef hc]⟩)
        | (have hc : ¬ (m % 10 = 0 ∧ e < 9) := by omega
           have st : stripA 9 n 0 = (m, e) := by rw [← J₁, strip_stop f m e hc]
           refine hret _ _ _ ⟨n, _, rfl, by omega, congrArg (fun z => Value.int z _) ?_⟩ (Fr.keep (by k_asm))
           rw [short_of (by omega) st]
           (try rw [f1, f2])
           split <;> omega)
  · exact hraise _ _ _ _ _ ⟨rfl, by omega⟩ (by assumption)
end
-- W9
section
theorem mask64 (A k : Nat) : Builtin.bitAnd ((A : Int) * 10 ^ k) 18446744073709551615 = ((A * 10 ^ k % 2 ^ 64 : Nat) : Int) := by
  have e : Builtin.bitAnd ((A : Int) * 10 ^ k) 18446744073709551615 = ((A : Int) * 10 ^ k) % 2 ^ 64 := kbt_mask _ 64
  rw [e, Int.natCast_emod, Int.natCast_mul, Int.natCast_pow]; rfl
theorem s_decompress (W : Wd) (n : Int) (t : Tok) (hn : -(2 ^ 200) < n) (hn' : n < 2 ^ 200) : Spec0 W 380 1800 723 ⟨[.int n t], []⟩ (fun v => ∃ (m : Nat) (t : Tok), n = m ∧ m < 2 ^ 64 ∧ v = .int (openA m) t) (fun C => C = .ref 44 ∧ ¬ (0 ≤ n ∧ n < 2 ^ 64)) := by
  intro base l s R HB S hret hraise
  refine' enter0 (binds := [(PySem.Str.ofString "compressed", .int n t)]) HB S ?k6 ?k7 ?k8 ?k9 ?kB ?_ ?c2 ?c3 ?c4 ?c5
  walk_at "M enter"
  k_steps
  · have e0 : n = 0 := by assumption
    exact hret _ _ _ ⟨0, _, e0, by decide, rfl⟩ (Fr.keep (by k_asm))
  rotate_left 2
  · exact hraise _ _ _ _ _ ⟨rfl, by omega⟩ (by assumption)
  all_goals
    obtain ⟨m, rfl⟩ : ∃ k : Nat, n = k := ⟨n.toNat, by omega⟩
    have hm1 : 1 ≤ m := by omega
    have f1 : ((m : Int) - 1).fdiv 10 = (((m - 1) / 10 : Nat) : Int) := by rw [Int.fdiv_eq_ediv_of_nonneg _ (by decide)]; omega
    have f2 : ((m : Int) - 1).fmod 10 = (((m - 1) % 10 : Nat) : Int) := by rw [Int.fmod_eq_emod_of_nonneg _ (by decide)]; omega
    have f3 : ((((m - 1) / 10 : Nat) : Int)).fdiv 9 = (((m - 1) / 10 / 9 : Nat) : Int) := by rw [Int.fdiv_eq_ediv_of_nonneg _ (by decide)]; omega
    have f4 : ((((m - 1) / 10 : Nat) : Int)).fmod 9 = (((m - 1) / 10 % 9 : Nat) : Int) := by rw [Int.fmod_eq_emod_of_nonneg _ (by decide)]; omega
    refine hret _ _ _ ⟨m, _, rfl, by omega, congrArg (fun z => Value.int z _) ?_⟩ (Fr.keep (by k_asm))
    unfold openA
    rw [if_neg (by omega)]
  · have c9 : (m - 1) % 10 < 9 := by
      have : ((m : Int) - 1).fmod 10 < 9 := by assumption
      rw [f2] at this; omega
    rw [if_pos c9, f2, f1, f3, f4, Int.toNat_natCast, ← mask64]
    congr 2
  · have c9 : ¬ (m - 1) % 10 < 9 := by
      have : ¬ ((m : Int) - 1).fmod 10 < 9 := by assumption
      rw [f2] at this; omega
    rw [if_neg c9, f2, f1, Int.toNat_natCast, ← mask64]
    congr 2
end
-- WA
section
theorem s_amount_short (W : Wd) (n : Int) (t : Tok) (hn : -(2 ^ 100) < n) (hn' : n < 2 ^ 100) : SpecC W 370 1700 809 ⟨[.int n t], []⟩ (fun v => ((0 ≤ n ∧ n ≤ 2100000000000000) → ∃ t, v = .int (shortA n.toNat) t) ∧ (¬ (0 ≤ n ∧ n ≤ 2100000000000000) → v = .none)) (fun _ => False) := by
  intro base l s R HB S hret hraise
  refine' enter0 (binds := [(PySem.Str.ofString "amount", .int n t)]) HB S ?k6 ?k7 ?k8 ?k9 ?kB ?_ ?c2 ?c3 ?c4 ?c5
  walk_at "M enter"
  k_steps
  · obtain ⟨m, tm, rfl, h1, rfl⟩ := hv'
    exact hret _ _ _ ⟨fun _ => ⟨tm, rfl⟩, fun h => absurd ⟨by omega, by omega⟩ h⟩ (Same.of_keeps (Fr.keep F'))
  · walk_at "M catch"
    k_steps
    exact hret _ _ _ ⟨fun h => absurd h hp', fun _ => rfl⟩ (Same.of_turn TC (Fr.keep (by k_asm)))
theorem s_amount_open (W : Wd) (n : Int) (t : Tok) (hn : -(2 ^ 100) < n) (hn' : n < 2 ^ 100) : SpecC W 370 1700 816 ⟨[.int n t], []⟩ (fun v => ((0 ≤ n ∧ n < 2 ^ 64) → ∃ t, v = .int (openA n.toNat) t) ∧ (¬ (0 ≤ n ∧ n < 2 ^ 64) → v = .none)) (fun _ => False) := by
  intro base l s R HB S hret hraise
  refine' enter0 (binds := [(PySem.Str.ofString "number", .int n t)]) HB S ?k6 ?k7 ?k8 ?k9 ?kB ?_ ?c2 ?c3 ?c4 ?c5
  walk_at "M enter"
  k_steps
  · obtain ⟨m, tm, rfl, h1, rfl⟩ := hv'
    exact hret _ _ _ ⟨fun _ => ⟨tm, rfl⟩, fun h => absurd ⟨by omega, by omega⟩ h⟩ (Same.of_keeps (Fr.keep F'))
  · walk_at "M catch"
    k_steps
    exact hret _ _ _ ⟨fun h => absurd h hp', fun _ => rfl⟩ (Same.of_turn TC (Fr.keep (by k_asm)))
end
-- WB
section
theorem fm64 (A k : Nat) : ((A : Int) * 10 ^ k).fmod (2 ^ Int.toNat 64) = ((A * 10 ^ k % 2 ^ 64 : Nat) : Int) := by
  show ((A : Int) * 10 ^ k).fmod (2 ^ 64) = _
  rw [Int.fmod_eq_emod_of_nonneg _ (by decide), Int.natCast_emod, Int.natCast_mul, Int.natCast_pow]; rfl
theorem s_law_short (W : Wd) (n : Nat) (t : Tok) (hn : n ≤ 2100000000000000) : Spec0 W 390 1900 837 ⟨[.int (n : Int) t], []⟩ (fun v => ∃ t, v = .int (shortA n) t) (fun _ => False) := by
  intro base l s R HB S hret hraise
  refine' enter0 (binds := [(PySem.Str.ofString "amount", .int n t)]) HB S ?k6 ?k7 ?k8 ?k9 ?kB ?_ ?c2 ?c3 ?c4 ?c5
  walk_at "M enter"
  k_steps
  · have e0 : (n : Int) = 0 := by assumption
    have e1 : n = 0 := by omega
    subst e1
    exact hret _ _ _ ⟨_, rfl⟩ (Fr.keep (by k_asm))
  · unfold Hold
    refine' while_own (σ := CaSt) (fun x => ∃ m e f : Nat, x.a = m ∧ x.e = e ∧ e + f = 9 ∧ 0 < m ∧ m ≤ n ∧ stripA f m e = stripA 9 n 0)
      (fun x y => if y = PySem.Str.ofString "amount" then some (.int x.a x.ta) else if y = PySem.Str.ofString "noughts" then some (.int x.e x.te) else none) (fun _ => []) (fun x => 9 - x.e.toNat) ⟨_, _, _, _⟩ (by assumption) News.nil ?em ?J ?turn (by first | passes_own | with_unfolding_all passes_own)
    case em => exact em2 (by with_unfolding_all rfl) (by with_unfolding_all rfl) (fun y h1 h2 => by simp only [lk1, if_neg h1, if_neg h2])
    case J => exact ⟨n, 0, 9, rfl, rfl, rfl, by omega, Nat.le_refl _, rfl⟩
    case turn =>
      rintro ⟨ai, ta, ei, te⟩ h₁ tk₁ ⟨m, e, f, hm, he, hef, hpos, hle, J₁⟩ F' N'
      dsimp only at hm he F' N'
      subst hm; subst he
      have f1 : ((m : Int)).fmod 10 = ((m % 10 : Nat) : Int) := by rw [Int.fmod_eq_emod_of_nonneg _ (by decide)]; omega
      have f2 : ((m : Int)).fdiv 10 = ((m / 10 : Nat) : Int) := by rw [Int.fdiv_eq_ediv_of_nonneg _ (by decide)]; omega
      k_steps
      all_goals first
        | (unfold Hold
           refine' wpost_next (x' := ⟨_, _, _, _⟩) (by assumption) News.nil ?em2 ?hl2 ?J2
           case em2 => exact em2 (by with_unfolding_all rfl) (by with_unfolding_all rfl) (fun y h1 h2 => by simp only [if_neg h1, if_neg h2])
           case hl2 => show 9 - ((e : Int) + 1).toNat < 9 - ((e : Int)).toNat; omega
           case J2 =>
             have hc : m % 10 = 0 ∧ e < 9 := ⟨by omega, by omega⟩
             exact ⟨m / 10, e + 1, f - 1, f2, by show (e : Int) + 1 = _; omega, by omega, by omega, by omega, by rw [← J₁, strip_on f m e hef hc]⟩)
        | (have hc : ¬ (m % 10 = 0 ∧ e < 9) := by omega
           have st : stripA 9 n 0 = (m, e) := by rw [← J₁, strip_stop f m e hc]
           refine hret _ _ _ ⟨_, congrArg (fun z => Value.int z _) ?_⟩ (Fr.keep (by k_asm))
           rw [short_of (by omega) st]
           (try rw [f1, f2])
           split <;> omega)
theorem s_law_open (W : Wd) (n : Nat) (t : Tok) (hn : n < 2 ^ 64) : Spec0 W 390 1900 844 ⟨[.int (n : Int) t], []⟩ (fun v => ∃ t, v = .int (openA n) t) (fun _ => False) := by
  intro base l s R HB S hret hraise
  refine' enter0 (binds := [(PySem.Str.ofString "number", .int n t)]) HB S ?k6 ?k7 ?k8 ?k9 ?kB ?_ ?c2 ?c3 ?c4 ?c5
  walk_at "M enter"
  k_steps
  · have e0 : (n : Int) = 0 := by assumption
    have e1 : n = 0 := by omega
    subst e1
    exact hret _ _ _ ⟨_, rfl⟩ (Fr.keep (by k_asm))
  all_goals
    have hm1 : 1 ≤ n := by omega
    have f1 : ((n : Int) - 1).fdiv 10 = (((n - 1) / 10 : Nat) : Int) := by rw [Int.fdiv_eq_ediv_of_nonneg _ (by decide)]; omega
    have f2 : ((n : Int) - 1).fmod 10 = (((n - 1) % 10 : Nat) : Int) := by rw [Int.fmod_eq_emod_of_nonneg _ (by decide)]; omega
    have f3 : ((((n - 1) / 10 : Nat) : Int)).fdiv 9 = (((n - 1) / 10 / 9 : Nat) : Int) := by rw [Int.fdiv_eq_ediv_of_nonneg _ (by decide)]; omega
    have f4 : ((((n - 1) / 10 : Nat) : Int)).fmod 9 = (((n - 1) / 10 % 9 : Nat) : Int) := by rw [Int.fmod_eq_emod_of_nonneg _ (by decide)]; omega
    refine hret _ _ _ ⟨_, congrArg (fun z => Value.int z _) ?_⟩ (Fr.keep (by k_asm))
    unfold openA
    rw [if_neg (by omega)]
  · have c9 : ¬ (n - 1) % 10 < 9 := by
      have : ((n : Int) - 1).fmod 10 = 9 := by assumption
      rw [f2] at this; omega
    rw [if_neg c9, f2, f1, Int.toNat_natCast, ← fm64]
    congr 2
  · have c9 : (n - 1) % 10 < 9 := by
      have : ((n : Int) - 1).fmod 10 ≠ 9 := by assumption
      rw [f2] at this; omega
    rw [if_pos c9, f2, f1, f3, f4, Int.toNat_natCast, ← fm64]
    congr 2
    omega
end
-- WD
section
local macro_rules | `(tactic| walk_at "leaving ref") => `(tactic| (k_here; k_dflt (first
  | (refine' leave_onN ?D ?F ?T ?fl rfl rfl ?_; (case fl => assumption); (case F => k_asm); (case D => k_asm); (case T => first | assumption | exact KtsTurn.refl); intro h'' fl''; (try dsimp only))
  | (refine' leave_madeN ?B ?D ?F ?T ?hx rfl rfl rfl ?_; (case hx => first | assumption | exact Heap.MadeExc.of (by assumption)); (case F => k_asm); (case B => k_asm); (case D => k_asm); (case T => first | assumption | exact KtsTurn.refl); intro h'' t'' fl''; (try dsimp only)))))
theorem mulOk {a b : Int} (ha : a.natAbs < 2 ^ 2000) (hb : b.natAbs < 2 ^ 2000) : IntMulOk a b :=
  IntMulOk.of_le (m := 2000) (n := 2000) (PySem.intBits_le_iff.mpr ha) (PySem.intBits_le_iff.mpr hb) (by decide)
theorem mulOk2 {a b : Nat} (ha : a < 2 ^ 1024) (hb : b < 2 ^ 1024) : IntMulOk (a : Int) (b : Int) :=
  mulOk (by rw [Int.natAbs_natCast]; exact Nat.lt_trans ha (Nat.pow_lt_pow_right (by decide) (by decide))) (by rw [Int.natAbs_natCast]; exact Nat.lt_trans hb (Nat.pow_lt_pow_right (by decide) (by decide)))
theorem lt1024 {a : Nat} (h : a < 2 ^ 256) : a < 2 ^ 1024 := Nat.lt_trans h (Nat.pow_lt_pow_right (by decide) (by decide))
theorem cubeOk {x : Nat} (hx : x < 2 ^ 256) : IntMulOk (x : Int) (x : Int) ∧ IntMulOk ((x : Int) * (x : Int)) (x : Int) := by
  refine ⟨mulOk2 (lt1024 hx) (lt1024 hx), ?_⟩
  rw [← Int.natCast_mul]
  refine mulOk2 ?_ (lt1024 hx)
  have h := Nat.mul_lt_mul'' hx hx
  rw [← Nat.pow_add] at h
  exact Nat.lt_trans h (Nat.pow_lt_pow_right (by decide) (by decide))
theorem cubeE (x : Nat) : ((x : Int) * (x : Int) * (x : Int) + 7).fmod 115792089237316195423570985008687907853269984665640564039457584007908834671663 = (((x * x * x + 7) % pP : Nat) : Int) := by
  rw [Int.fmod_eq_emod_of_nonneg _ (by decide), Int.natCast_emod]
  simp only [Int.natCast_add, Int.natCast_mul]
  rfl
theorem rootE (x : Nat) : Builtin.powMod ((((x : Int) * (x : Int) * (x : Int) + 7).fmod 115792089237316195423570985008687907853269984665640564039457584007908834671663).toNat % (115792089237316195423570985008687907853269984665640564039457584007908834671663 : Int).toNat) (((115792089237316195423570985008687907853269984665640564039457584007908834671663 : Int) + 1).fdiv 4).toNat (115792089237316195423570985008687907853269984665640564039457584007908834671663 : Int).toNat = root x := by
  rw [cubeE, Int.toNat_natCast]
  unfold root
  rw [show (115792089237316195423570985008687907853269984665640564039457584007908834671663 : Int).toNat = pP from rfl, Nat.mod_mod]
  rfl
local macro_rules | `(tactic| walk_at "binaryOp Mult int int") => `(tactic| (k_here; (with_reducible show wpAny _ _ (binaryOp Operator.Mult (Value.int _ _) (Value.int _ _)) _ _ _); k_dflt (refine' PySem.P.mul_int ?_ ?hm; (case hm => assumption))))
local macro_rules | `(tactic| walk_at "call builtin:pow") => `(tactic| (k_here; (with_reducible show wpAny _ _ (call (Value.builtin "pow") [Value.int _ _, Value.int _ _, Value.int _ _]) _ _ _); k_dflt (refine' BP.pow3I ?ha ?he ?hm ?_; (case ha => assumption); (case he => decide); (case hm => decide)); intro _ _; (rw [rootE])))
theorem pP_eq : pP = 115792089237316195423570985008687907853269984665640564039457584007908834671663 := rfl
theorem onC_iff (x : Nat) : onC x ↔ ¬ (115792089237316195423570985008687907853269984665640564039457584007908834671663 : Int) ≤ (x : Int) ∧ (((root x : Nat) : Int) * ((root x : Nat) : Int)).fmod 115792089237316195423570985008687907853269984665640564039457584007908834671663 = ((x : Int) * (x : Int) * (x : Int) + 7).fmod 115792089237316195423570985008687907853269984665640564039457584007908834671663 := by
  have e1 : (((root x : Nat) : Int) * ((root x : Nat) : Int)).fmod 115792089237316195423570985008687907853269984665640564039457584007908834671663 = ((root x * root x % pP : Nat) : Int) := by
    rw [Int.fmod_eq_emod_of_nonneg _ (by decide), Int.natCast_emod, Int.natCast_mul]; rfl
  have hP := pP_eq
  rw [cubeE, e1, onC]
  constructor
  · rintro ⟨a, b⟩
    exact ⟨by omega, congrArg _ b⟩
  · rintro ⟨a, b⟩
    exact ⟨by omega, Int.ofNat.inj b⟩
theorem s_y_ofN (W : Wd) (x : Nat) (t : Tok) (hx : x < 2 ^ 256) : Spec0N W 400 2000 672 ⟨[.int (x : Int) t], []⟩ (fun v => onC x ∧ ∃ t, v = .int (evenY x : Nat) t) (fun C => C = .ref 662 ∧ ¬ onC x) := by
  intro base l s R HB S hret hraise
  refine' enter0 (binds := [(PySem.Str.ofString "x", .int x t)]) HB S ?k6 ?k7 ?k8 ?k9 ?kB ?_ ?c2 ?c3 ?c4 ?c5
  walk_at "M enter"
  obtain ⟨ok1, ok2⟩ := cubeOk hx
  have ok3 : IntMulOk ((root x : Nat) : Int) ((root x : Nat) : Int) := mulOk2 (Nat.lt_trans (root_lt x) (by decide +kernel)) (Nat.lt_trans (root_lt x) (by decide +kernel))
  have q0 : 0 ≤ ((x : Int) * (x : Int) * (x : Int) + 7).fmod 115792089237316195423570985008687907853269984665640564039457584007908834671663 := by rw [cubeE]; omega
  k_steps
  · exact hraise _ _ _ _ _ ⟨rfl, fun h => ((onC_iff x).mp h).1 (by assumption)⟩ (by assumption)
  · rename _ ≠ _ => a1
    exact hraise _ _ _ _ _ ⟨rfl, fun h => a1 ((onC_iff x).mp h).2⟩ (by assumption)
  · rename Int.fmod _ 2 = 0 => a2
    rw [Int.fmod_eq_emod_of_nonneg _ (by decide)] at a2
    refine hret _ _ _ ⟨(onC_iff x).mpr ⟨by assumption, by assumption⟩, ⟨_, congrArg (fun z => Value.int z _) ?_⟩⟩ (Fr.keep (by k_asm))
    unfold evenY
    rw [if_pos (by omega)]
  · rename ¬ Int.fmod _ 2 = 0 => a2
    rw [Int.fmod_eq_emod_of_nonneg _ (by decide)] at a2
    refine hret _ _ _ ⟨(onC_iff x).mpr ⟨by assumption, by assumption⟩, ⟨_, congrArg (fun z => Value.int z _) ?_⟩⟩ (Fr.keep (by k_asm))
    unfold evenY
    have := root_lt x
    have hP := pP_eq
    rw [if_neg (by omega)]
    omega
theorem s_y_of (W : Wd) (x : Nat) (t : Tok) (hx : x < 2 ^ 256) : Spec0 W 400 2000 672 ⟨[.int (x : Int) t], []⟩ (fun v => onC x ∧ ∃ t, v = .int (evenY x : Nat) t) (fun C => C = .ref 662 ∧ ¬ onC x) := (s_y_ofN W x t hx).plain
end
-- WE
section
local macro_rules | `(tactic| walk_at "callWith ref") => `(tactic| (k_here; (with_reducible show wpAny _ _ (callWith _ (Value.ref _) _ (backTo _ (starEach (_ :: _) _)) (backToKw _ (keywordEach _ _))) _ _ _); k_dflt (refine' BW.callWith_boundK ?_)))
local macro_rules | `(tactic| walk_at "call ref") => `(tactic| (k_here; (with_reducible show wpAny _ _ (call (Value.ref _) [Value.bytes (List.toArray _) _] (List.zip _ _)) _ _ _); ((first | (with_reducible refine' BW.call_big ?ho ?hl ?_) | (k_dflt (refine' BW.call_big ?ho ?hl ?_))); k_dflt ((case ho => first | exact KFB.at_of (by k_asm) (by k_mem) | exact KFB.at_of (by assumption) (by news_mem)); (case hl => walk_at "M len"))); intro _ _))
local macro_rules | `(tactic| walk_at "call ref") => `(tactic| (k_here; (with_reducible show wpAny _ _ (call (Value.ref 672) [Value.int _ _] _) _ _ _); k_dflt (refine' use0N (s_y_ofN _ _ _ ?hx) ?HB ?B ?D ?F ?N ?hA ?hf ?hk ?hh ?hdp ?hun ?_ ?_; (case hx => assumption)); k_dflt (walk_at "M use"; (intro v' h' tk' hv' F' N'); obtain ⟨on', _, hv'⟩ := hv'; subst hv'; rotate_left 1; walk_at "M fly"; rotate_right 1)))
local macro_rules | `(tactic| walk_at "subscriptTail") => `(tactic| (k_here; (with_reducible show wpAny _ _ (subscriptTail _ (Expr.Slice _ _ none _) (Value.bytes (List.toArray _) _) (Value.ref _)) _ _ _); (with_reducible rename Fr _ _ _ _ => F'); (with_reducible rename News _ _ _ _ => N'); ((first | (with_reducible refine' BX.slice (s := ⟨_, _, _, _, _⟩) F' N' ?l ?u ?z ?_ ?hs ?ht) | (k_dflt (refine' BX.slice (s := ⟨_, _, _, _, _⟩) F' N' ?l ?u ?z ?_ ?hs ?ht))); k_dflt ((case l => constructor); (case u => constructor); (case z => walk_at "M len"); (case hs => with_unfolding_all rfl); (case ht => (intro _; with_unfolding_all rfl)))); intro _ _ _ F' N'; (try simp only [Option.elim, KBc.clip_lit, clipAt_nat, List.drop_zero, Nat.sub_zero]); (try simp (discharger := decide) only [clip1, slc, slcE, slc0, Int.reduceToNat, Nat.reduceSub])))
local macro_rules | `(tactic| walk_at "leaving ref") => `(tactic| (k_here; k_dflt (first
  | (refine' leave_onN ?D ?F ?T ?fl rfl rfl ?_; (case fl => assumption); (case F => k_asm); (case D => k_asm); (case T => first | assumption | exact KtsTurn.refl); intro h'' fl''; (try dsimp only))
  | (refine' leave_madeN ?B ?D ?F ?T ?hx rfl rfl rfl ?_; (case hx => first | assumption | exact Heap.MadeExc.of (by assumption)); (case F => k_asm); (case B => k_asm); (case D => k_asm); (case T => first | assumption | exact KtsTurn.refl); intro h'' t'' fl''; (try dsimp only)))))
/-- a contract whose answer may be a new object -/
def SpecT (W : Wd) (d u : Nat) (f : Addr) (args : Args) (P : Heap → Value → Heap → Prop) (X : Value → Prop) : Prop :=
  ∀ (base : Heap) (l : List Env) (s : Shared) (R : Result → Shared → Prop), Base W base → Site base l s.heap →
    (∀ v h' tk', P s.heap v h' → (∀ b o, s.heap.get? b = some o → h'.get? b = some o) → R (.ok (.ret v)) { s with heap := h', toks := tk' }) →
    (∀ e C a0 h' tk', X C → Flew l s.heap e C a0 h' → R (.error (.ref e)) { s with heap := h', toks := tk' }) →
    codeAny (model W.prog W.w) (LV d u l) (.call (.ref f) args) R s
section
variable {W : Wd} {d u : Nat} {l : List Env} {base g g₀ : Heap} {A A₀ : Around} {E : Value → Shared → Prop} {s : Shared} {L : Addr} {m : PySem.Str → Option Value} {news : List (Addr × Obj)} {env : Env} {f : Addr} {vs : List Value} {kw : List (PySem.Str × Value)} {X : Value → Prop} {P : Heap → Value → Heap → Prop} {Q : Value → Shared → Prop}
theorem useT (C : SpecT W d u f ⟨vs, kw⟩ P X) (HB : Base W base) (B : Below A₀ base l g) (D : KtsDicts (fr l) g) (F : Fr g L s.heap m) (N : News g L s.heap news) (hA : A.frames = some (env :: l)) (hf : env.frame = some L) (hk : env.scope.kind = .function)
    (hh : A.handled = none) (hdp : A.depth ≤ d) (hun : A.units ≤ u)
    (hret : ∀ v h' tk', P s.heap v h' → Fr g L h' m → News g L h' news → Q v { s with heap := h', toks := tk' })
    (hraise : ∀ e C a0 h' tk', X C → Flew (env :: l) s.heap e C a0 h' → E (.ref e) { s with heap := h', toks := tk' }) :
    wpAny (model W.prog W.w) A (call (.ref f) vs kw) Q E s := by
  refine wpAny_call (code_le hh hdp hA.symm rfl hun (C base (env :: l) s _ HB (site_of B D F hf hk) (fun v h' tk' hp k => ?_) fun e C a0 h' tk' hx fl => hraise e C a0 h' tk' hx fl))
  exact hret v h' tk' hp (F.keeps k) fun q hq => ⟨k _ _ (N q hq).1, (N q hq).2⟩
end
/-- a new object joins the news -/
theorem News_new {g h h' : Heap} {L D : Addr} {o : Obj} {m : PySem.Str → Option Value} {news : List (Addr × Obj)} (F : Fr g L h m) (N : News g L h' news) (ho : h'.get? D = some o) (hn : h.get? D = none) : News g L h' ((D, o) :: news) := fun q hq => by
  rcases List.mem_cons.mp hq with rfl | hq
  · refine ⟨ho, fun e => ?_, ?_⟩
    · obtain ⟨oL, es, ep, hL, _⟩ := F.ns
      rw [show D = L from e, hL] at hn; cases hn
    · cases z : g.get? D with
      | none => rfl
      | some o2 => rw [F.keep _ _ z] at hn; cases hn
  · exact N q hq
theorem new_none {g h' : Heap} {L D : Addr} {o : Obj} {news : List (Addr × Obj)} (N : News g L h' news) (hm : (D, o) ∈ news) : h'.get? D = some o ∧ g.get? D = none := ⟨(N _ hm).1, (N _ hm).2.2⟩
abbrev tupObj (vs : Array Value) : Obj := { cls := .type "tuple", data := .seq vs }
def sideY (s x : Nat) : Nat := if evenY x % 2 = s then evenY x else pP - evenY x
def pointP (b : List UInt8) : Option (Nat × Nat) :=
  if b.length = 33 ∧ ((b.getD 0 0).toNat = 2 ∨ (b.getD 0 0).toNat = 3) then
    if onC (beVal ((b.drop 1).take 32)) then some (beVal ((b.drop 1).take 32), sideY ((b.getD 0 0).toNat % 2) (beVal ((b.drop 1).take 32))) else none
  else if b.length = 65 ∧ (b.getD 0 0).toNat = 4 ∧ onC (beVal ((b.drop 1).take 32)) ∧ (beVal (b.drop 33) = evenY (beVal ((b.drop 1).take 32)) ∨ beVal (b.drop 33) = pP - evenY (beVal ((b.drop 1).take 32))) then some (beVal ((b.drop 1).take 32), beVal (b.drop 33)) else none
theorem evenY_le (x : Nat) : evenY x ≤ pP := by
  unfold evenY
  have := root_lt x
  split <;> omega
theorem any2 {a b c : Int} : ([a, b].any fun x => x == c) = true ↔ a = c ∨ b = c := by simp
theorem any2f {a b c : Int} : ([a, b].any fun x => x == c) = false ↔ ¬ (a = c ∨ b = c) := by rw [← any2]; simp
theorem fm2n (a : Nat) : ((a : Int)).fmod 2 = ((a % 2 : Nat) : Int) := by rw [Int.fmod_eq_emod_of_nonneg _ (by decide)]; omega
theorem beVal32 (b : List UInt8) : beVal ((b.drop 1).take 32) < 2 ^ 256 := by
  have h := beVal_lt ((b.drop 1).take 32)
  have h1 : ((b.drop 1).take 32).length ≤ 32 := by rw [List.length_take]; omega
  have h2 : 256 ^ ((b.drop 1).take 32).length ≤ 256 ^ 32 := Nat.pow_le_pow_right (by decide) h1
  have h3 : (256 : Nat) ^ 32 = 2 ^ 256 := by decide +kernel
  omega
theorem s_pointN (W : Wd) (b : List UInt8) (t : Tok) (hb : b.length ≤ 100) : SpecTN W 395 1950 679 ⟨[.bytes b.toArray t], []⟩
    (fun h v h' => ∃ x y D t1 t2, pointP b = some (x, y) ∧ v = .ref D ∧ h'.get? D = some (tupObj #[.int (x : Nat) t1, .int (y : Nat) t2]) ∧ h.get? D = none) (fun C => C = .ref 662 ∧ pointP b = none) := by
  intro base l s R HB S hret hraise
  refine' enter0 (binds := [(PySem.Str.ofString "octets", .bytes b.toArray t)]) HB S ?k6 ?k7 ?k8 ?k9 ?kB ?_ ?c2 ?c3 ?c4 ?c5
  walk_at "M enter"
  have hx9 := beVal32 b
  have hE := evenY_le (beVal ((b.drop 1).take 32))
  k_steps
  all_goals (try simp only [any2, any2f, Int.toNat_zero, show Int.toNat 0 = 0 from rfl] at *)
  all_goals (have hP := pP_eq)
  · rename News _ _ _ _ => N9
    rename Fr _ _ _ _ => F9
    rename Int.fmod _ _ = _ => a1
    rw [fm2n, fm2n] at a1
    refine hret _ _ _ ⟨_, evenY (beVal ((b.drop 1).take 32)), _, _, _, ?_, rfl, (new_none N9 (by k_mem)).1, (new_none N9 (by k_mem)).2⟩ (Fr.keep F9)
    unfold pointP sideY
    rw [if_pos ⟨by omega, by omega⟩, if_pos (by assumption), if_pos (by omega)]
  · rename News _ _ _ _ => N9
    rename Fr _ _ _ _ => F9
    rename Int.fmod _ _ ≠ _ => a1
    rw [fm2n, fm2n] at a1
    have e1 : (115792089237316195423570985008687907853269984665640564039457584007908834671663 : Int) - ((evenY (beVal ((b.drop 1).take 32)) : Nat) : Int) = ((pP - evenY (beVal ((b.drop 1).take 32)) : Nat) : Int) := by omega
    rw [e1] at N9
    refine hret _ _ _ ⟨_, pP - evenY (beVal ((b.drop 1).take 32)), _, _, _, ?_, rfl, (new_none N9 (by k_mem)).1, (new_none N9 (by k_mem)).2⟩ (Fr.keep F9)
    unfold pointP sideY
    rw [if_pos ⟨by omega, by omega⟩, if_pos (by assumption), if_neg (by omega)]
  · refine hraise _ _ _ _ _ ⟨rfl, ?_⟩ (by assumption)
    unfold pointP
    rw [if_pos ⟨by omega, by omega⟩, if_neg (by assumption)]
  iterate 4
    · refine hraise _ _ _ _ _ ⟨rfl, ?_⟩ (by assumption)
      unfold pointP
      rw [if_neg (by omega), if_neg (by omega)]
  · rename News _ _ _ _ => N9
    rename Fr _ _ _ _ => F9
    refine hret _ _ _ ⟨_, beVal (b.drop 33), _, _, _, ?_, rfl, (new_none N9 (by k_mem)).1, (new_none N9 (by k_mem)).2⟩ (Fr.keep F9)
    unfold pointP
    rw [if_neg (by omega), if_pos ⟨by omega, by omega, by assumption, by omega⟩]
  · refine hraise _ _ _ _ _ ⟨rfl, ?_⟩ (by assumption)
    unfold pointP
    rw [if_neg (by omega), if_neg (by omega)]
  iterate 2
    · refine hraise _ _ _ _ _ ⟨rfl, ?_⟩ (by assumption)
      unfold pointP
      rw [if_neg (by omega), if_neg (fun h => absurd h.2.2.1 (by assumption))]
theorem s_point (W : Wd) (b : List UInt8) (t : Tok) (hb : b.length ≤ 100) : SpecT W 395 1950 679 ⟨[.bytes b.toArray t], []⟩
    (fun h v h' => ∃ x y D t1 t2, pointP b = some (x, y) ∧ v = .ref D ∧ h'.get? D = some (tupObj #[.int (x : Nat) t1, .int (y : Nat) t2]) ∧ h.get? D = none) (fun C => C = .ref 662 ∧ pointP b = none) :=
  fun base l s R HB S hr he => s_pointN W b t hb base l s R HB S hr fun e C a0 h' tk' hx fl => he e C a0 h' tk' hx fl.1
end
-- X1
section
local macro_rules | `(tactic| walk_at "callWith ref") => `(tactic| (k_here; (with_reducible show wpAny _ _ (callWith _ (Value.ref _) _ (backTo _ (starEach (_ :: _) _)) (backToKw _ (keywordEach _ _))) _ _ _); k_dflt (refine' BW.callWith_boundK ?_)))
local macro_rules | `(tactic| walk_at "call ref") => `(tactic| (k_here; (with_reducible show wpAny _ _ (call (Value.ref _) [Value.bytes (List.toArray _) _] (List.zip _ _)) _ _ _); ((first | (with_reducible refine' BW.call_big ?ho ?hl ?_) | (k_dflt (refine' BW.call_big ?ho ?hl ?_))); k_dflt ((case ho => first | exact KFB.at_of (by k_asm) (by k_mem) | exact KFB.at_of (by assumption) (by news_mem)); (case hl => walk_at "M len"))); intro _ _))
local macro_rules | `(tactic| walk_at "call ref") => `(tactic| (k_here; (with_reducible show wpAny _ _ (call (Value.ref 672) [Value.int _ _] _) _ _ _); k_dflt (refine' use0 (s_y_of _ _ _ ?hx) ?HB ?B ?D ?F ?N ?hA ?hf ?hk ?hh ?hdp ?hun ?_ ?_; (case hx => assumption)); k_dflt (walk_at "M use"; (intro v' h' tk' hv' F' N'); obtain ⟨on', _, hv'⟩ := hv'; subst hv'; rotate_left 1; walk_at "M fly"; rotate_right 1)))
local macro_rules | `(tactic| walk_at "subscriptTail") => `(tactic| (k_here; (with_reducible show wpAny _ _ (subscriptTail _ (Expr.Slice _ _ none _) (Value.bytes (List.toArray _) _) (Value.ref _)) _ _ _); (with_reducible rename Fr _ _ _ _ => F'); (with_reducible rename News _ _ _ _ => N'); ((first | (with_reducible refine' BX.slice (s := ⟨_, _, _, _, _⟩) F' N' ?l ?u ?z ?_ ?hs ?ht) | (k_dflt (refine' BX.slice (s := ⟨_, _, _, _, _⟩) F' N' ?l ?u ?z ?_ ?hs ?ht))); k_dflt ((case l => constructor); (case u => constructor); (case z => walk_at "M len"); (case hs => with_unfolding_all rfl); (case ht => (intro _; with_unfolding_all rfl)))); intro _ _ _ F' N'; (try simp only [Option.elim, KBc.clip_lit, clipAt_nat, List.drop_zero, Nat.sub_zero]); (try simp (discharger := decide) only [clip1, slc, slcE, slc0, Int.reduceToNat, Nat.reduceSub])))
local macro_rules | `(tactic| walk_at "M catch") => `(tactic| (refine' catch0 ?HB ?B ?D ?F ?N ?T ?fl ?ex (fun _ X => exc662 X) (fun _ X => exc662 X) ?hbase ?hb ?_ ?hk ?hx ?hd ?hE; (case fl => k_asm); (case HB => assumption); (case B => k_asm); (case D => k_asm); (case F => k_asm); (case N => k_asm); (case T => first | assumption | exact KtsTurn.refl); (case ex => k_is); (case hbase => decide); (case hb => decide); (case hk => rfl); (case hx => rfl); (case hd => decide); (case hE => first | passes_own | with_unfolding_all passes_own); intro hC gC TC FC NC BC XC TopC DC))
local macro_rules | `(tactic| walk_at "call ref") => `(tactic| (k_here; (with_reducible show wpAny _ _ (call (Value.ref 679) [Value.bytes (List.toArray _) _] _) _ _ _); k_dflt (refine' useT (s_point _ _ _ ?hx) ?HB ?B ?D ?F ?N ?hA ?hf ?hk ?hh ?hdp ?hun ?_ ?_; (case hx => walk_at "M len")); k_dflt (walk_at "M use"; (intro v' h' tk' hv' F' N'); obtain ⟨px, py, pD, pt1, pt2, hpt, hv', hgD, hnD⟩ := hv'; subst hv'; rotate_left 1; walk_at "M fly"; rotate_right 1)))
theorem ite_own {c P Q : Prop} [Decidable c] (h1 : c → P) (h2 : ¬ c → Q) : if c then P else Q := by
  by_cases h : c
  · rw [if_pos h]; exact h1 h
  · rw [if_neg h]; exact h2 h
theorem s_is_p2pk (W : Wd) (b : List UInt8) (t : Tok) (hb : b.length ≤ 100) : SpecC W 390 1900 730 ⟨[.bytes b.toArray t], []⟩ (fun v => v = .bool (pointP b).isSome) (fun _ => False) := by
  intro base l s R HB S hret hraise
  refine' enter0 (binds := [(PySem.Str.ofString "pub_key", .bytes b.toArray t)]) HB S ?k6 ?k7 ?k8 ?k9 ?kB ?_ ?c2 ?c3 ?c4 ?c5
  walk_at "M enter"
  k_steps
  · exact hret _ _ _ (by rw [hpt]; rfl) (Same.of_keeps (Fr.keep (by k_asm)))
  · walk_at "M catch"
    k_steps
    exact hret _ _ _ (by rw [hp']; rfl) (Same.of_turn TC (Fr.keep (by k_asm)))
theorem s_size (W : Wd) (n : Int) (t : Tok) : Spec0 W 400 2000 744 ⟨[.int n t], []⟩ (fun v => ∃ t, v = .int (if n < 2 then 20 else 32) t) (fun _ => False) := by
  intro base l s R HB S hret hraise
  refine' enter0 (binds := [(PySem.Str.ofString "size", .int n t)]) HB S ?k6 ?k7 ?k8 ?k9 ?kB ?_ ?c2 ?c3 ?c4 ?c5
  walk_at "M enter"
  k_steps
  · exact hret _ _ _ ⟨_, by rw [if_pos (by assumption)]⟩ (Fr.keep (by k_asm))
  · exact hret _ _ _ ⟨_, by rw [if_neg (by assumption)]⟩ (Fr.keep (by k_asm))
end
-- X2
section
local macro_rules | `(tactic| walk_at "callWith ref") => `(tactic| (k_here; (with_reducible show wpAny _ _ (callWith _ (Value.ref _) _ (backTo _ (starEach (_ :: _) _)) (backToKw _ (keywordEach _ _))) _ _ _); k_dflt (refine' BW.callWith_boundK ?_)))
local macro_rules | `(tactic| walk_at "call ref") => `(tactic| (k_here; (with_reducible show wpAny _ _ (call (Value.ref _) [Value.bytes (List.toArray _) _] (List.zip _ _)) _ _ _); ((first | (with_reducible refine' BW.call_big ?ho ?hl ?_) | (k_dflt (refine' BW.call_big ?ho ?hl ?_))); k_dflt ((case ho => first | exact KFB.at_of (by k_asm) (by k_mem) | exact KFB.at_of (by assumption) (by news_mem)); (case hl => walk_at "M len"))); intro _ _))
local macro_rules | `(tactic| walk_at "call ref") => `(tactic| (k_here; (with_reducible show wpAny _ _ (call (Value.ref 672) [Value.int _ _] _) _ _ _); k_dflt (refine' use0 (s_y_of _ _ _ ?hx) ?HB ?B ?D ?F ?N ?hA ?hf ?hk ?hh ?hdp ?hun ?_ ?_; (case hx => assumption)); k_dflt (walk_at "M use"; (intro v' h' tk' hv' F' N'); obtain ⟨on', _, hv'⟩ := hv'; subst hv'; rotate_left 1; walk_at "M fly"; rotate_right 1)))
local macro_rules | `(tactic| walk_at "subscriptTail") => `(tactic| (k_here; (with_reducible show wpAny _ _ (subscriptTail _ (Expr.Slice _ _ none _) (Value.bytes (List.toArray _) _) (Value.ref _)) _ _ _); (with_reducible rename Fr _ _ _ _ => F'); (with_reducible rename News _ _ _ _ => N'); ((first | (with_reducible refine' BX.slice (s := ⟨_, _, _, _, _⟩) F' N' ?l ?u ?z ?_ ?hs ?ht) | (k_dflt (refine' BX.slice (s := ⟨_, _, _, _, _⟩) F' N' ?l ?u ?z ?_ ?hs ?ht))); k_dflt ((case l => constructor); (case u => constructor); (case z => walk_at "M len"); (case hs => with_unfolding_all rfl); (case ht => (intro _; with_unfolding_all rfl)))); intro _ _ _ F' N'; (try simp only [Option.elim, KBc.clip_lit, clipAt_nat, List.drop_zero, Nat.sub_zero]); (try simp (discharger := decide) only [clip1, slc, slcE, slc0, Int.reduceToNat, Nat.reduceSub])))
local macro_rules | `(tactic| walk_at "call ref") => `(tactic| (k_here; (with_reducible show wpAny _ _ (call (Value.ref 730) [Value.bytes (List.toArray _) _] _) _ _ _); k_dflt (refine' useC (s_is_p2pk _ _ _ ?hx) ?HB ?B ?D ?F ?N ?T ?hA ?hf ?hk ?hh ?hdp ?hun ?_ (fun _ _ _ _ _ x => x.elim); (case hx => walk_at "M len")); k_dflt (walk_at "M use"; (case T => first | assumption | exact KtsTurn.refl); (intro v' h' tk' gU hv' TU F' N' BU XU TopU DU); subst hv')))
local macro_rules | `(tactic| walk_at "call ref") => `(tactic| (k_here; (with_reducible show wpAny _ _ (call (Value.ref 744) [Value.int _ _] _) _ _ _); k_dflt (refine' use0n (s_size _ _ _) ?HB ?B ?D ?F ?N ?hA ?hf ?hk ?hh ?hdp ?hun ?_); k_dflt (walk_at "M use0")))
local macro_rules | `(tactic| walk_at "M dec") => `(tactic| (first | omega | ((simp only [decide_eq_true_eq, decide_eq_false_iff_not, beq_iff_eq, bne_iff_ne, Bool.not_eq_true', Bool.not_eq_false', Bool.and_eq_true, Bool.not_eq_true]); omega)))
local macro_rules | `(tactic| walk_at "ite") => `(tactic| (k_here; k_openite; first
  | (refine ite_pos (by with_reducible assumption) ?_) | (refine ite_neg (by with_reducible assumption) ?_) | (refine ite_isFalse (by with_reducible assumption) ?_)
  | (refine' ite_pos ?hc ?_; (case hc => walk_at "M dec")) | (refine' ite_neg ?hc ?_; (case hc => walk_at "M dec"))
  | (refine' ite_own (fun hq' => ?_) (fun hq' => ?_) <;> (try simp only [decide_eq_true_eq, decide_eq_false_iff_not, beq_iff_eq, bne_iff_ne, Bool.not_eq_true', Bool.not_eq_false', Bool.and_eq_true, ne_eq, Bool.not_eq_true] at hq'))))
/-- what compress_script gives back -/
def compS (b : List UInt8) : Option (List UInt8) :=
  if b.length = 25 ∧ (b.getD 0 0).toNat = 118 ∧ (b.getD 1 0).toNat = 169 ∧ (b.getD 2 0).toNat = 20 ∧ (b.getD 23 0).toNat = 136 ∧ (b.getD 24 0).toNat = 172 then some (0 :: (b.drop 3).take 20)
  else if b.length = 23 ∧ (b.getD 0 0).toNat = 169 ∧ (b.getD 1 0).toNat = 20 ∧ (b.getD 22 0).toNat = 135 then some (1 :: (b.drop 2).take 20)
  else if b.length = 35 ∧ (b.getD 0 0).toNat = 33 ∧ (b.getD 34 0).toNat = 172 ∧ ((b.getD 1 0).toNat = 2 ∨ (b.getD 1 0).toNat = 3) then some ((b.drop 1).take 33)
  else if b.length = 67 ∧ (b.getD 0 0).toNat = 65 ∧ (b.getD 66 0).toNat = 172 ∧ (b.getD 1 0).toNat = 4 ∧ (pointP ((b.drop 1).take 65)).isSome = true then some (UInt8.ofNat (4 + (b.getD 65 0).toNat % 2) :: (b.drop 2).take 32)
  else none
theorem bor4 : ∀ n : Nat, n < 256 → Builtin.bitOr 4 (Builtin.bitAnd (n : Int) 1) = ((4 + n % 2 : Nat) : Int) := by decide +kernel
theorem s_comp (W : Wd) (b : List UInt8) (t : Tok) (hb : b.length ≤ 100000) : SpecC W 385 1850 737 ⟨[.bytes b.toArray t], []⟩ (fun v => (∀ r, compS b = some r → ∃ t, v = .bytes r.toArray t) ∧ (compS b = none → v = .none)) (fun _ => False) := by
  intro base l s R HB S hret hraise
  refine' enter0 (binds := [(PySem.Str.ofString "script", .bytes b.toArray t)]) HB S ?k6 ?k7 ?k8 ?k9 ?kB ?_ ?c2 ?c3 ?c4 ?c5
  walk_at "M enter"
  k_steps
  all_goals (try simp only [any2, any2f, show Int.toNat 0 = 0 from rfl, show Int.toNat 1 = 1 from rfl, show Int.toNat 2 = 2 from rfl, show Int.toNat 22 = 22 from rfl, show Int.toNat 23 = 23 from rfl, show Int.toNat 24 = 24 from rfl, show Int.toNat 34 = 34 from rfl, show Int.toNat 66 = 66 from rfl] at *)
  all_goals first
    | (refine hret _ _ _ ?_ (Same.of_keeps (Fr.keep (by k_asm)))
       unfold compS
       first
         | rw [if_neg (by omega), if_neg (by omega), if_neg (by omega), if_neg (by omega)]; exact ⟨fun r h => (by cases h), fun _ => rfl⟩
         | rw [if_pos (by omega)]; exact ⟨fun r h => (by cases h; exact ⟨_, rfl⟩), fun h => (by cases h)⟩
         | rw [if_neg (by omega), if_pos (by omega)]; exact ⟨fun r h => (by cases h; exact ⟨_, rfl⟩), fun h => (by cases h)⟩
         | rw [if_neg (by omega), if_neg (by omega), if_pos (by omega)]; exact ⟨fun r h => (by cases h; exact ⟨_, rfl⟩), fun h => (by cases h)⟩)
    | skip
  · have e9 := bor4 (b.getD (Int.toNat 65) 0).toNat (UInt8.toNat_lt _)
    rename News gU _ _ _ => N9
    rw [e9] at N9
    k_steps
    rename Fr gU _ _ _ => F9
    refine hret _ _ _ ?_ (Same.of_turn TU (Fr.keep F9))
    unfold compS
    rw [if_neg (by omega), if_neg (by omega), if_neg (by omega), if_pos ⟨by omega, by omega, by omega, by omega, by assumption⟩]
    exact ⟨fun r h => (by cases h; exact ⟨_, rfl⟩), fun h => (by cases h)⟩
  · rename Fr gU _ _ _ => F9
    refine hret _ _ _ ?_ (Same.of_turn TU (Fr.keep F9))
    unfold compS
    rename (pointP _).isSome = false => q9
    rw [if_neg (by omega), if_neg (by omega), if_neg (by omega), if_neg (fun h => by rw [q9] at h; exact absurd h.2.2.2.2 (by decide))]
    exact ⟨fun r h => (by cases h), fun _ => rfl⟩
end
-- X3
section
local macro_rules | `(tactic| walk_at "callWith ref") => `(tactic| (k_here; (with_reducible show wpAny _ _ (callWith _ (Value.ref _) _ (backTo _ (starEach (_ :: _) _)) (backToKw _ (keywordEach _ _))) _ _ _); k_dflt (refine' BW.callWith_boundK ?_)))
local macro_rules | `(tactic| walk_at "call ref") => `(tactic| (k_here; (with_reducible show wpAny _ _ (call (Value.ref _) [Value.bytes (List.toArray _) _] (List.zip _ _)) _ _ _); ((first | (with_reducible refine' BW.call_big ?ho ?hl ?_) | (k_dflt (refine' BW.call_big ?ho ?hl ?_))); k_dflt ((case ho => first | exact KFB.at_of (by k_asm) (by k_mem) | exact KFB.at_of (by assumption) (by news_mem)); (case hl => walk_at "M len"))); intro _ _))
local macro_rules | `(tactic| walk_at "call ref") => `(tactic| (k_here; (with_reducible show wpAny _ _ (call (Value.ref 672) [Value.int _ _] _) _ _ _); k_dflt (refine' use0 (s_y_of _ _ _ ?hx) ?HB ?B ?D ?F ?N ?hA ?hf ?hk ?hh ?hdp ?hun ?_ ?_; (case hx => assumption)); k_dflt (walk_at "M use"; (intro v' h' tk' hv' F' N'); obtain ⟨on', _, hv'⟩ := hv'; subst hv'; rotate_left 1; walk_at "M fly"; rotate_right 1)))
local macro_rules | `(tactic| walk_at "subscriptTail") => `(tactic| (k_here; (with_reducible show wpAny _ _ (subscriptTail _ (Expr.Slice _ _ none _) (Value.bytes (List.toArray _) _) (Value.ref _)) _ _ _); (with_reducible rename Fr _ _ _ _ => F'); (with_reducible rename News _ _ _ _ => N'); ((first | (with_reducible refine' BX.slice (s := ⟨_, _, _, _, _⟩) F' N' ?l ?u ?z ?_ ?hs ?ht) | (k_dflt (refine' BX.slice (s := ⟨_, _, _, _, _⟩) F' N' ?l ?u ?z ?_ ?hs ?ht))); k_dflt ((case l => constructor); (case u => constructor); (case z => walk_at "M len"); (case hs => with_unfolding_all rfl); (case ht => (intro _; with_unfolding_all rfl)))); intro _ _ _ F' N'; (try simp only [Option.elim, KBc.clip_lit, clipAt_nat, List.drop_zero, Nat.sub_zero]); (try simp (discharger := decide) only [clip1, slc, slcE, slc0, Int.reduceToNat, Nat.reduceSub])))
local macro_rules | `(tactic| walk_at "call ref") => `(tactic| (k_here; (with_reducible show wpAny _ _ (call (Value.ref 737) [Value.bytes (List.toArray _) _] _) _ _ _); k_dflt (refine' useC (s_comp _ _ _ ?hx) ?HB ?B ?D ?F ?N ?T ?hA ?hf ?hk ?hh ?hdp ?hun ?_ (fun _ _ _ _ _ x => x.elim); (case hx => walk_at "M len")); k_dflt (walk_at "M use"; (case T => first | assumption | exact KtsTurn.refl); (intro v' h' tk' gU hv' TU F' N' BU XU TopU DU); (refine hold ?_))))
local macro_rules | `(tactic| walk_at "M dec") => `(tactic| (first | omega | ((simp only [decide_eq_true_eq, decide_eq_false_iff_not, beq_iff_eq, bne_iff_ne, Bool.not_eq_true', Bool.not_eq_false', Bool.and_eq_true, Bool.not_eq_true]); omega)))
local macro_rules | `(tactic| walk_at "ite") => `(tactic| (k_here; k_openite; first
  | (refine ite_pos (by with_reducible assumption) ?_) | (refine ite_neg (by with_reducible assumption) ?_) | (refine ite_isFalse (by with_reducible assumption) ?_)
  | (refine' ite_pos ?hc ?_; (case hc => walk_at "M dec")) | (refine' ite_neg ?hc ?_; (case hc => walk_at "M dec"))
  | (refine' ite_own (fun hq' => ?_) (fun hq' => ?_) <;> (try simp only [decide_eq_true_eq, decide_eq_false_iff_not, beq_iff_eq, bne_iff_ne, Bool.not_eq_true', Bool.not_eq_false', Bool.and_eq_true, ne_eq, Bool.not_eq_true] at hq'))))
def serS (b : List UInt8) : List UInt8 := match compS b with | some r => r | none => enc (b.length + 6) ++ b
theorem s_ser (W : Wd) (b : List UInt8) (t : Tok) (hb : b.length ≤ 50000) : SpecC W 376 1750 758 ⟨[.bytes b.toArray t], []⟩ (fun v => ∃ t, v = .bytes (serS b).toArray t) (fun _ => False) := by
  intro base l s R HB S hret hraise
  refine' enter0 (binds := [(PySem.Str.ofString "script", .bytes b.toArray t)]) HB S ?k6 ?k7 ?k8 ?k9 ?kB ?_ ?c2 ?c3 ?c4 ?c5
  walk_at "M enter"
  k_steps
  unfold Hold
  obtain ⟨hv1, hv2⟩ := hv'
  cases hc : compS b with
  | some r =>
    obtain ⟨tr, rfl⟩ := hv1 r hc
    k_steps
    exact hret _ _ _ ⟨tr, by unfold serS; rw [hc]⟩ (Same.of_turn TU (Fr.keep (by k_asm)))
  | none =>
    have := hv2 hc
    subst this
    k_steps
    · obtain ⟨m, tm, e1, _, _, _, rfl⟩ := hv'
      have e2 : m = b.length + 6 := by omega
      subst e2
      have e3 := enc_len (n := b.length + 6) (by omega)
      k_steps
      exact hret _ _ _ ⟨_, by unfold serS; rw [hc]⟩ (Same.of_turn TU (Fr.keep (by k_asm)))
    · exfalso
      exact hp' ⟨by omega, by omega, by omega, by show (b.length : Int) + 6 < 4294967296; omega⟩
def onPt (x y : Int) : Prop := ∃ q ∈ pts, x = (q.1 : Nat) ∧ (y = (q.2 : Nat) ∨ y = (pP : Nat) - (q.2 : Nat))
instance (x y : Int) : Decidable (onPt x y) := inferInstanceAs (Decidable (∃ q ∈ pts, _))
theorem s_law_point (W : Wd) (n : Int) (t : Tok) : SpecT W 395 1950 851 ⟨[.int n t], []⟩ (fun h v h' => ∃ x y D t1 t2, onPt x y ∧ v = .ref D ∧ h'.get? D = some (tupObj #[.int x t1, .int y t2]) ∧ h.get? D = none) (fun C => False) := by
  intro base l s R HB S hret hraise
  refine' enter0 (binds := [(PySem.Str.ofString "number", .int n t)]) HB S ?k6 ?k7 ?k8 ?k9 ?kB ?_ ?c2 ?c3 ?c4 ?c5
  walk_at "M enter"
  k_steps
  all_goals first
    | (exfalso; omega)
    | (rename News _ _ _ _ => N9
       refine hret _ _ _ ⟨_, _, _, _, _, ?_, rfl, (new_none N9 (by k_mem)).1, (new_none N9 (by k_mem)).2⟩ (Fr.keep (by k_asm))
       decide +kernel)
end
-- X5
section
local macro_rules | `(tactic| walk_at "callWith ref") => `(tactic| (k_here; (with_reducible show wpAny _ _ (callWith _ (Value.ref _) _ (backTo _ (starEach (_ :: _) _)) (backToKw _ (keywordEach _ _))) _ _ _); k_dflt (refine' BW.callWith_boundK ?_)))
local macro_rules | `(tactic| walk_at "call ref") => `(tactic| (k_here; (with_reducible show wpAny _ _ (call (Value.ref _) [Value.bytes (List.toArray _) _] (List.zip _ _)) _ _ _); ((first | (with_reducible refine' BW.call_big ?ho ?hl ?_) | (k_dflt (refine' BW.call_big ?ho ?hl ?_))); k_dflt ((case ho => first | exact KFB.at_of (by k_asm) (by k_mem) | exact KFB.at_of (by assumption) (by news_mem)); (case hl => walk_at "M len"))); intro _ _))
local macro_rules | `(tactic| walk_at "call ref") => `(tactic| (k_here; (with_reducible show wpAny _ _ (call (Value.ref 672) [Value.int _ _] _) _ _ _); k_dflt (refine' use0 (s_y_of _ _ _ ?hx) ?HB ?B ?D ?F ?N ?hA ?hf ?hk ?hh ?hdp ?hun ?_ ?_; (case hx => assumption)); k_dflt (walk_at "M use"; (intro v' h' tk' hv' F' N'); obtain ⟨on', _, hv'⟩ := hv'; subst hv'; rotate_left 1; walk_at "M fly"; rotate_right 1)))
local macro_rules | `(tactic| walk_at "subscriptTail") => `(tactic| (k_here; (with_reducible show wpAny _ _ (subscriptTail _ (Expr.Slice _ _ none _) (Value.bytes (List.toArray _) _) (Value.ref _)) _ _ _); (with_reducible rename Fr _ _ _ _ => F'); (with_reducible rename News _ _ _ _ => N'); ((first | (with_reducible refine' BX.slice (s := ⟨_, _, _, _, _⟩) F' N' ?l ?u ?z ?_ ?hs ?ht) | (k_dflt (refine' BX.slice (s := ⟨_, _, _, _, _⟩) F' N' ?l ?u ?z ?_ ?hs ?ht))); k_dflt ((case l => constructor); (case u => constructor); (case z => walk_at "M len"); (case hs => with_unfolding_all rfl); (case ht => (intro _; with_unfolding_all rfl)))); intro _ _ _ F' N'; (try simp only [Option.elim, KBc.clip_lit, clipAt_nat, List.drop_zero, Nat.sub_zero]); (try simp (discharger := decide) only [clip1, slc, slcE, slc0, Int.reduceToNat, Nat.reduceSub])))
local macro_rules | `(tactic| walk_at "call ref") => `(tactic| (k_here; (with_reducible show wpAny _ _ (call (Value.ref 744) [Value.int _ _] _) _ _ _); k_dflt (refine' use0n (s_size _ _ _) ?HB ?B ?D ?F ?N ?hA ?hf ?hk ?hh ?hdp ?hun ?_); k_dflt (walk_at "M use0")))
local macro_rules | `(tactic| walk_at "call builtin:int.to_bytes") => `(tactic| (k_here; (with_reducible show wpAny _ _ (call (Value.builtin "int.to_bytes") [Value.int _ _, Value.int _ _, Value.str _ _]) _ _ _); ((first | (with_reducible refine' to_big32 ?tb0 ?tb1 ?_) | (k_dflt (refine' to_big32 ?tb0 ?tb1 ?_))); k_dflt ((case tb0 => with_reducible assumption); (case tb1 => with_reducible assumption))); intro _ _; (try simp only [Int.toNat_natCast])))
local macro_rules | `(tactic| walk_at "call ref") => `(tactic| (k_here; (with_reducible show wpAny _ _ (call (Value.ref 679) [Value.bytes (List.toArray _) _] _) _ _ _); (with_reducible rename Fr _ _ _ _ => Fold); k_dflt (refine' useTN (s_pointN _ _ _ ?hx) ?HB ?B ?D ?F ?N ?hA ?hf ?hk ?hh ?hdp ?hun ?_ ?_; (case hx => walk_at "M len")); k_dflt (walk_at "M use"; (intro v' h' tk' hv' F' N'); obtain ⟨px, py, pD, pt1, pt2, hpt, hv', hgD, hnD⟩ := hv'; subst hv'; (have N9 := News_new Fold N' hgD hnD); clear N' hgD hnD; (obtain ⟨hpx, hpy⟩ := point_lt hpt); (have hpx0 : (0 : Int) ≤ (px : Int) := by omega); (have hpy0 : (0 : Int) ≤ (py : Int) := by omega); (have hpx1 : (px : Int) < 115792089237316195423570985008687907853269984665640564039457584007913129639936 := by omega); (have hpy1 : (py : Int) < 115792089237316195423570985008687907853269984665640564039457584007913129639936 := by omega); rotate_left 1; walk_at "M fly"; rotate_right 1)))
local macro_rules | `(tactic| walk_at "M len") => `(tactic| ((try simp only [List.length_append, List.length_cons, List.length_nil, List.length_take, List.length_drop, List.length_map, List.length_replicate, be_len, Int.reduceToNat]); omega))
local macro_rules | `(tactic| walk_at "M dec") => `(tactic| (first | omega | ((simp only [decide_eq_true_eq, decide_eq_false_iff_not, beq_iff_eq, bne_iff_ne, Bool.not_eq_true', Bool.not_eq_false', Bool.and_eq_true, Bool.not_eq_true]); omega)))
local macro_rules | `(tactic| walk_at "ite") => `(tactic| (k_here; k_openite; first
  | (refine ite_pos (by with_reducible assumption) ?_) | (refine ite_neg (by with_reducible assumption) ?_) | (refine ite_isFalse (by with_reducible assumption) ?_)
  | (refine' ite_pos ?hc ?_; (case hc => walk_at "M dec")) | (refine' ite_neg ?hc ?_; (case hc => walk_at "M dec"))
  | (refine' ite_own (fun hq' => ?_) (fun hq' => ?_) <;> (try simp only [decide_eq_true_eq, decide_eq_false_iff_not, beq_iff_eq, bne_iff_ne, Bool.not_eq_true', Bool.not_eq_false', Bool.and_eq_true, ne_eq, Bool.not_eq_true] at hq'))))
theorem to_big32 {prog : Program} {w : World} {A : Around} {E : Value → Shared → Prop} {s : Shared} {x : Int} {t u v : Tok} {Q : Value → Shared → Prop} (h0 : 0 ≤ x) (h1 : x < 115792089237316195423570985008687907853269984665640564039457584007913129639936) (h : ∀ t' k', Q (.bytes (be 32 x.toNat).toArray t') { s with toks := k' }) :
    wpAny (model prog w) A (call (.builtin "int.to_bytes") [.int x t, .int 32 u, .str (PySem.Str.ofString "big") v]) Q E s := by
  obtain ⟨n, rfl⟩ := Int.eq_ofNat_of_zero_le h0
  have h2 : n < 256 ^ 32 := by
    have e : (256 : Nat) ^ 32 = 115792089237316195423570985008687907853269984665640564039457584007913129639936 := by decide +kernel
    omega
  exact BW.to_big (k := 32) (by decide) h2 h
def decS (k : Int) (c : List UInt8) : Option (List UInt8) :=
  if 0 ≤ k ∧ k < 6 ∧ c.length = (if k < 2 then 20 else 32) then
    if k = 0 then some ([118, 169, 20] ++ c ++ [136, 172])
    else if k = 1 then some ([169, 20] ++ c ++ [135])
    else if k < 4 then some ([33, k.toNat.toUInt8] ++ c ++ [172])
    else if onC (beVal c) then some ([65] ++ ([4] ++ be 32 (beVal c) ++ be 32 (sideY (k.toNat - 4) (beVal c))) ++ [172])
    else none
  else none
theorem sideY_le (s x : Nat) : sideY s x ≤ pP := by
  unfold sideY
  have := evenY_le x
  split <;> omega
theorem point_lt {b : List UInt8} {x y : Nat} (h : pointP b = some (x, y)) : x < 115792089237316195423570985008687907853269984665640564039457584007913129639936 ∧ y < 115792089237316195423570985008687907853269984665640564039457584007913129639936 := by
  have e : (2 : Nat) ^ 256 = 115792089237316195423570985008687907853269984665640564039457584007913129639936 := by decide +kernel
  have e2 : (256 : Nat) ^ 32 = 115792089237316195423570985008687907853269984665640564039457584007913129639936 := by decide +kernel
  have hP := pP_eq
  have h1 := beVal32 b
  have h2 := sideY_le ((b.getD 0 0).toNat % 2) (beVal ((b.drop 1).take 32))
  unfold pointP at h
  split at h
  · split at h
    · cases h; omega
    · cases h
  · split at h
    · rename_i q
      have h3 := beVal_lt (b.drop 33)
      have h4 : (b.drop 33).length = 32 := by rw [List.length_drop]; omega
      rw [h4] at h3
      cases h; omega
    · cases h
theorem point_dec {k : Int} {c : List UInt8} (h1 : 4 ≤ k) (h2 : k < 6) (hc : c.length = 32) : pointP ((k - 2).toNat.toUInt8 :: c) = if onC (beVal c) then some (beVal c, sideY (k.toNat - 4) (beVal c)) else none := by
  have hk : k = 4 ∨ k = 5 := by omega
  have ht : (((k - 2).toNat.toUInt8 :: c).drop 1).take 32 = c := by
    rw [List.drop_one, List.tail_cons, List.take_of_length_le (by omega)]
  unfold pointP
  rw [ht]
  have e4 : (((4 - 2 : Int).toNat.toUInt8 :: c).getD 0 0).toNat = 2 := rfl
  have e5 : (((5 - 2 : Int).toNat.toUInt8 :: c).getD 0 0).toNat = 3 := rfl
  rcases hk with rfl | rfl
  · rw [if_pos ⟨by rw [List.length_cons, hc], .inl e4⟩, e4]; rfl
  · rw [if_pos ⟨by rw [List.length_cons, hc], .inr e5⟩, e5]; rfl
theorem szEq (n : Nat) (k : Int) : ¬¬ ((n : Int) = if k < 2 then 20 else 32) ↔ n = if k < 2 then 20 else 32 := by
  rw [Classical.not_not]
  split <;> omega
theorem s_dec (W : Wd) (k : Int) (c : List UInt8) (t tc : Tok) (hk : -(2 ^ 256) < k) (hk' : k < 2 ^ 256) (hc : c.length ≤ 100000) : SpecC W 370 1700 751 ⟨[.int k t, .bytes c.toArray tc], []⟩
    (fun v => ∃ r t, decS k c = some r ∧ v = .bytes r.toArray t) (fun C => C = .ref 44 ∧ decS k c = none) := by
  intro base l s R HB S hret hraise
  refine' enter0 (binds := [(PySem.Str.ofString "kind", .int k t), (PySem.Str.ofString "compressed", .bytes c.toArray tc)]) HB S ?k6 ?k7 ?k8 ?k9 ?kB ?_ ?c2 ?c3 ?c4 ?c5
  walk_at "M enter"
  k_steps
  · refine hraise _ _ _ _ _ ⟨rfl, ?_⟩ (by assumption)
    unfold decS
    rw [if_neg (by omega)]
  · refine hraise _ _ _ _ _ ⟨rfl, ?_⟩ (by assumption)
    rename ¬ (c.length : Int) = _ => q9
    unfold decS
    rw [if_neg (fun h => absurd ((szEq _ _).mpr h.2.2) (fun z => z q9))]
  · rename ¬¬ (c.length : Int) = _ => q9
    refine hret _ _ _ ⟨_, _, ?_, rfl⟩ (Same.of_keeps (Fr.keep (by k_asm)))
    unfold decS
    rw [if_pos ⟨by omega, by omega, (szEq _ _).mp q9⟩, if_pos (by assumption)]
    rfl
  · rename ¬¬ (c.length : Int) = _ => q9
    refine hret _ _ _ ⟨_, _, ?_, rfl⟩ (Same.of_keeps (Fr.keep (by k_asm)))
    unfold decS
    rw [if_pos ⟨by omega, by omega, (szEq _ _).mp q9⟩, if_neg (by assumption), if_pos (by assumption)]
    rfl
  · rename ¬¬ (c.length : Int) = _ => q9
    refine hret _ _ _ ⟨_, _, ?_, rfl⟩ (Same.of_keeps (Fr.keep (by k_asm)))
    unfold decS
    rw [if_pos ⟨by omega, by omega, (szEq _ _).mp q9⟩, if_neg (by assumption), if_neg (by assumption), if_pos (by assumption)]
    rfl
  · rename ¬¬ (c.length : Int) = _ => q9
    have hpd := point_dec (k := k) (c := c) (by omega) (by omega) (by rw [(szEq _ _).mp q9, if_neg (by omega)])
    have hpe := hpt.symm.trans hpd
    k_steps
    refine hret _ _ _ ⟨_, _, ?_, rfl⟩ (Same.of_keeps (Fr.keep (by k_asm)))
    unfold decS
    rw [if_pos ⟨by omega, by omega, (szEq _ _).mp q9⟩, if_neg (by omega), if_neg (by omega), if_neg (by omega)]
    split at hpe
    · cases hpe
      rw [if_pos (by assumption)]
      generalize be 32 (beVal c) = u1
      generalize be 32 (sideY (k.toNat - 4) (beVal c)) = u2
      rfl
    · cases hpe
  · rename ¬¬ (c.length : Int) = _ => q9
    have hpn := hp'
    rw [point_dec (by omega) (by omega) (by rw [(szEq _ _).mp q9, if_neg (by omega)])] at hpn
    refine' catchAs (W := W) HB ?B ?D ?F ?N ?T ?fl ?ex (fun _ X => exc662 X) (fun _ X => exc662 X) ?hbase ?hb ?_ ?hk ?hx ?hd ?hl ?hE
    (case fl => assumption)
    (case B => k_asm); (case D => k_asm); (case F => k_asm); (case N => k_asm); (case T => first | assumption | exact KtsTurn.refl); (case ex => k_is); (case hbase => decide); (case hb => decide); (case hk => rfl); (case hx => rfl); (case hd => decide); (case hl => rfl); (case hE => first | passes_own | with_unfolding_all passes_own)
    intro hC tC gC TC FC NC BC XC TopC DC c0 hob
    refine' suite_from (C := 44) (Ce := 662) (mg := W.mg) rfl FC ?g ?O PySem.F.excBase_Exception PySem.F.excBase_ValueError ?hB (exc44 (XC.keeps FC.keep)) ?b1 (exc662 (XC.keeps FC.keep)) ?b2 c0 hob ?hn ?he0 ?_ ?a1 ?a2 ?a3 ?a4 ?a5 ?a6
    (case g => exact TopRead.g (topRead_of TopC)); (case O => exact own_of_in XC (topRead_of TopC) (by k_is) (by k_exc)); (case hB => decide); (case b1 => decide); (case b2 => decide); (case hn => rfl); (case a1 => rfl); (case a2 => rfl); (case a3 => rfl); (case a4 => decide); (case a5 => rfl); (case a6 => decide)
    case he0 =>
      k_steps
    intro e2 a2 s3 hR
    refine ⟨e2, _, a2, rfl, hR, fun h6 tk6 H6 => ?_⟩
    refine leave_held (W := W) BC DC FC TC H6 rfl fun h9 fl9 => hraise _ _ _ _ _ ⟨rfl, ?_⟩ fl9
    unfold decS
    rw [if_pos ⟨by omega, by omega, (szEq _ _).mp q9⟩, if_neg (by omega), if_neg (by omega), if_neg (by omega)]
    split at hpn
    · cases hpn
    · rw [if_neg (by assumption)]
  · refine hraise _ _ _ _ _ ⟨rfl, ?_⟩ (by assumption)
    unfold decS
    rw [if_neg (by omega)]
end
-- X4
section
local macro_rules | `(tactic| walk_at "callWith ref") => `(tactic| (k_here; (with_reducible show wpAny _ _ (callWith _ (Value.ref _) _ (backTo _ (starEach (_ :: _) _)) (backToKw _ (keywordEach _ _))) _ _ _); k_dflt (refine' BW.callWith_boundK ?_)))
local macro_rules | `(tactic| walk_at "call ref") => `(tactic| (k_here; (with_reducible show wpAny _ _ (call (Value.ref _) [Value.bytes (List.toArray _) _] (List.zip _ _)) _ _ _); ((first | (with_reducible refine' BW.call_big ?ho ?hl ?_) | (k_dflt (refine' BW.call_big ?ho ?hl ?_))); k_dflt ((case ho => first | exact KFB.at_of (by k_asm) (by k_mem) | exact KFB.at_of (by assumption) (by news_mem)); (case hl => walk_at "M len"))); intro _ _))
local macro_rules | `(tactic| walk_at "call ref") => `(tactic| (k_here; (with_reducible show wpAny _ _ (call (Value.ref 672) [Value.int _ _] _) _ _ _); k_dflt (refine' use0 (s_y_of _ _ _ ?hx) ?HB ?B ?D ?F ?N ?hA ?hf ?hk ?hh ?hdp ?hun ?_ ?_; (case hx => assumption)); k_dflt (walk_at "M use"; (intro v' h' tk' hv' F' N'); obtain ⟨on', _, hv'⟩ := hv'; subst hv'; rotate_left 1; walk_at "M fly"; rotate_right 1)))
local macro_rules | `(tactic| walk_at "subscriptTail") => `(tactic| (k_here; (with_reducible show wpAny _ _ (subscriptTail _ (Expr.Slice _ _ none _) (Value.bytes (List.toArray _) _) (Value.ref _)) _ _ _); (with_reducible rename Fr _ _ _ _ => F'); (with_reducible rename News _ _ _ _ => N'); ((first | (with_reducible refine' BX.slice (s := ⟨_, _, _, _, _⟩) F' N' ?l ?u ?z ?_ ?hs ?ht) | (k_dflt (refine' BX.slice (s := ⟨_, _, _, _, _⟩) F' N' ?l ?u ?z ?_ ?hs ?ht))); k_dflt ((case l => constructor); (case u => constructor); (case z => walk_at "M len"); (case hs => with_unfolding_all rfl); (case ht => (intro _; with_unfolding_all rfl)))); intro _ _ _ F' N'; (try simp only [Option.elim, KBc.clip_lit, clipAt_nat, List.drop_zero, Nat.sub_zero]); (try simp (discharger := decide) only [clip1, slc, slcE, slc0, Int.reduceToNat, Nat.reduceSub])))
local macro_rules | `(tactic| walk_at "call ref") => `(tactic| (k_here; (with_reducible show wpAny _ _ (call (Value.ref 851) [Value.int _ _] _) _ _ _); (with_reducible rename Fr _ _ _ _ => Fold); k_dflt (refine' useT (s_law_point _ _ _) ?HB ?B ?D ?F ?N ?hA ?hf ?hk ?hh ?hdp ?hun ?_ (fun _ _ _ _ _ x => x.elim)); k_dflt (walk_at "M use"; (intro v' h' tk' hv' F' N'); obtain ⟨px, py, pD, pt1, pt2, hpt, hv', hgD, hnD⟩ := hv'; subst hv'; (have N9 := News_new Fold N' hgD hnD); clear N' hgD hnD; (obtain ⟨hx0, hx1, hy0, hy1⟩ := onPt_lt hpt); (have hz := fmP (py + 1)))))
local macro_rules | `(tactic| walk_at "M len") => `(tactic| ((try simp only [List.length_append, List.length_cons, List.length_nil, List.length_take, List.length_drop, List.length_map, List.length_replicate, be_len, Int.reduceToNat]); omega))
local macro_rules | `(tactic| walk_at "storeName") => `(tactic| (k_here; (with_reducible show wpAny _ _ (storeName _ _ (Value.bytes (byteArr _) _)) _ _ _); (refine hold ?_)))
local macro_rules | `(tactic| walk_at "call builtin:int.to_bytes") => `(tactic| (k_here; (with_reducible show wpAny _ _ (call (Value.builtin "int.to_bytes") [Value.int _ _, Value.int _ _, Value.str _ _]) _ _ _); ((first | (with_reducible refine' to_big32 ?h0 ?h1 ?_) | (k_dflt (refine' to_big32 ?h0 ?h1 ?_))); k_dflt ((case h0 => first | assumption | omega); (case h1 => first | assumption | omega))); intro _ _))
local macro_rules | `(tactic| walk_at "M dec") => `(tactic| (first | omega | ((simp only [decide_eq_true_eq, decide_eq_false_iff_not, beq_iff_eq, bne_iff_ne, Bool.not_eq_true', Bool.not_eq_false', Bool.and_eq_true, Bool.not_eq_true]); omega)))
local macro_rules | `(tactic| walk_at "ite") => `(tactic| (k_here; k_openite; first
  | (refine ite_pos (by with_reducible assumption) ?_) | (refine ite_neg (by with_reducible assumption) ?_) | (refine ite_isFalse (by with_reducible assumption) ?_)
  | (refine' ite_pos ?hc ?_; (case hc => walk_at "M dec")) | (refine' ite_neg ?hc ?_; (case hc => walk_at "M dec"))
  | (refine' ite_own (fun hq' => ?_) (fun hq' => ?_) <;> (try simp only [decide_eq_true_eq, decide_eq_false_iff_not, beq_iff_eq, bne_iff_ne, Bool.not_eq_true', Bool.not_eq_false', Bool.and_eq_true, ne_eq, Bool.not_eq_true] at hq'))))
local macro_rules | `(tactic| walk_at "M zz") => `(tactic| skip)
theorem onPt_lt {x y : Int} (h : onPt x y) : 0 ≤ x ∧ x < 115792089237316195423570985008687907853269984665640564039457584007908834671663 ∧ 0 ≤ y ∧ y < 115792089237316195423570985008687907853269984665640564039457584007908834671663 := by
  obtain ⟨q, hq, rfl, hy⟩ := h
  have a := pts_on q hq
  have hP := pP_eq
  omega
theorem fmP (y : Int) : 0 ≤ y.fmod 115792089237316195423570985008687907853269984665640564039457584007908834671663 ∧ y.fmod 115792089237316195423570985008687907853269984665640564039457584007908834671663 < 115792089237316195423570985008687907853269984665640564039457584007908834671663 := by
  rw [Int.fmod_eq_emod_of_nonneg _ (by decide)]
  omega
theorem name_of (m : Int) : ∃ nm : List UInt8, nm.length = 20 ∧ byteArr (List.map (fun k' => (m + 3 * k').fmod 256) (rangeKs 0 (20 - 0 : Int).toNat)) = nm.toArray := ⟨_, by rw [List.length_map, List.length_map, rangeKs_length]; rfl, rfl⟩
def kind4 (nm : List UInt8) : List (List UInt8) := [118 :: 169 :: 20 :: (nm ++ [136, 173]), 118 :: 169 :: 19 :: (nm ++ [136, 172]), 169 :: 20 :: (nm ++ [136]), 170 :: 20 :: (nm ++ [135]),
  33 :: 4 :: (nm ++ List.replicate 12 0 ++ [172]), 33 :: 2 :: (nm ++ List.replicate 12 0 ++ [173]), 65 :: 5 :: (List.replicate 64 0 ++ [172]), 65 :: 4 :: (List.replicate 64 0 ++ [172])]
/-- a script of the law's and its short form -/
inductive ScriptR : List UInt8 → Option (List UInt8) → Prop
  | k0 (nm : List UInt8) : nm.length = 20 → ScriptR (118 :: 169 :: 20 :: (nm ++ [136, 172])) (some (0 :: nm))
  | k1 (nm : List UInt8) : nm.length = 20 → ScriptR (169 :: 20 :: (nm ++ [135])) (some (1 :: nm))
  | k2 (c : UInt8) (x : List UInt8) : (c = 2 ∨ c = 3) → x.length = 32 → ScriptR (33 :: c :: (x ++ [172])) (some (c :: x))
  | k3 (x y : Int) : onPt x y → ScriptR (65 :: 4 :: (be 32 x.toNat ++ be 32 y.toNat ++ [172])) (some ((4 + y.fmod 2).toNat.toUInt8 :: List.take 32 (be 32 x.toNat ++ be 32 y.toNat)))
  | k3n (x y : Int) : onPt x y → ScriptR (65 :: 4 :: (be 32 x.toNat ++ be 32 ((y + 1).fmod 115792089237316195423570985008687907853269984665640564039457584007908834671663).toNat ++ [172])) none
  | k4 (nm o : List UInt8) : nm.length = 20 → o ∈ kind4 nm → ScriptR o none
  | k5 (m : Int) (n : Nat) : n < 300 → ScriptR ((List.map (fun k' => (m + k' * k').fmod 256) (rangeKs 0 n)).map fun n => n.toNat.toUInt8) none
def OptB (sh : Option (List UInt8)) (v : Value) : Prop := match sh with | some r => ∃ t, v = .bytes r.toArray t | none => v = .none
theorem c23 (m : Int) : (2 + m.fmod 2).toNat.toUInt8 = 2 ∨ (2 + m.fmod 2).toNat.toUInt8 = 3 := by
  have h := BX.fm2 m
  have h2 : m.fmod 2 = 0 ∨ m.fmod 2 = 1 := by omega
  rcases h2 with e | e <;> rw [e] <;> decide
theorem lt300 (m : Int) : (m.fmod 300 - 0).toNat < 300 := by
  rw [Int.fmod_eq_emod_of_nonneg _ (by decide)]; omega
def SpecGT (W : Wd) (d u : Nat) (f : Addr) (args : Args) (P : Heap → Value → Heap → Prop) : Prop :=
  ∀ (base : Heap) (l : List Env) (s : Shared) (R : Result → Shared → Prop), Base W base → Site base l s.heap →
    (∀ v h' tk', P s.heap v h' → (∀ b o, s.heap.get? b = some o → h'.get? b = some o) → R (.ok (.ret v)) { s with heap := h', toks := tk' }) →
    codeG (model W.prog W.w) (LV d u l) (.call (.ref f) args) R s
theorem s_law_script (W : Wd) (n : Int) (t : Tok) : SpecGT W 380 1800 856 ⟨[.int n t], []⟩ 
    (fun h v h' => ∃ o sh D v2 t1, ScriptR o sh ∧ v = .ref D ∧ h'.get? D = some (tupObj #[.bytes o.toArray t1, v2]) ∧ OptB sh v2 ∧ h.get? D = none) := by
  intro base l s R HB S hret
  refine' enterCG (binds := [(PySem.Str.ofString "number", .int n t)]) HB S ?k6 ?k7 ?k8 ?k9 ?kB ?kD ?_ ?c2 ?c3 ?c4
  (case k6 => k_is); (case k7 => k_is); (case k8 => decide); (case k9 => exact BindsTo.of_eq rfl); (case kB => exact rfl); (case kD => decide); (case c2 => exact rfl); (case c3 => exact rfl); (case c4 => exact rfl)
  intro g' L' h' tk' cells hg' F' N' Y' B' X' T' D'; subst hg'
  k_cells Y'
  refine wpG_of ?_
  k_steps
  unfold Hold
  obtain ⟨nm, hnl, hne⟩ := name_of (n.fdiv 8)
  rw [hne]
  clear hne
  have hm0 : 0 ≤ (n.fdiv 8).fmod (2 ^ Int.toNat 200) * 7919 ∧ (n.fdiv 8).fmod (2 ^ Int.toNat 200) * 7919 < 115792089237316195423570985008687907853269984665640564039457584007913129639936 := by
    show 0 ≤ (n.fdiv 8).fmod (2 ^ 200) * 7919 ∧ (n.fdiv 8).fmod (2 ^ 200) * 7919 < _
    rw [Int.fmod_eq_emod_of_nonneg _ (by decide)]
    have a := Int.emod_nonneg (n.fdiv 8) (show (2 : Int) ^ 200 ≠ 0 by decide)
    have b := Int.emod_lt_of_pos (n.fdiv 8) (show (0 : Int) < 2 ^ 200 by decide)
    generalize (n.fdiv 8) % 2 ^ 200 = z at *
    have e : (2 : Int) ^ 200 = 1606938044258990275541962092341162602522202993782792835301376 := by decide +kernel
    omega
  obtain ⟨hm1, hm2⟩ := hm0
  k_steps
  all_goals (rename News _ _ _ _ => N7; rename Fr _ _ _ _ => F7; have nn := new_none N7 (by k_mem))
  · exact hret _ _ _ ⟨_, _, _, _, _, ScriptR.k0 nm hnl, rfl, nn.1, ⟨_, rfl⟩, nn.2⟩ (Fr.keep F7)
  · exact hret _ _ _ ⟨_, _, _, _, _, ScriptR.k1 nm hnl, rfl, nn.1, ⟨_, rfl⟩, nn.2⟩ (Fr.keep F7)
  · exact hret _ _ _ ⟨_, _, _, _, _, ScriptR.k2 _ _ (c23 _) (be_len _ _), rfl, nn.1, ⟨_, rfl⟩, nn.2⟩ (Fr.keep F7)
  · exact hret _ _ _ ⟨_, _, _, _, _, ScriptR.k3n _ _ hpt, rfl, nn.1, rfl, nn.2⟩ (Fr.keep F7)
  · exact hret _ _ _ ⟨_, _, _, _, _, ScriptR.k3 _ _ hpt, rfl, nn.1, ⟨_, rfl⟩, nn.2⟩ (Fr.keep F7)
  · exfalso
    have h5 : 0 ≤ ((n.fdiv 8).fdiv 16).fmod 5 := by rw [Int.fmod_eq_emod_of_nonneg _ (by decide)]; omega
    omega
  · exact hret _ _ _ ⟨_, _, _, _, _, ScriptR.k4 nm _ hnl (.head _), rfl, nn.1, rfl, nn.2⟩ (Fr.keep F7)
  · exact hret _ _ _ ⟨_, _, _, _, _, ScriptR.k4 nm _ hnl (.tail _ (.head _)), rfl, nn.1, rfl, nn.2⟩ (Fr.keep F7)
  · exact hret _ _ _ ⟨_, _, _, _, _, ScriptR.k4 nm _ hnl (.tail _ (.tail _ (.head _))), rfl, nn.1, rfl, nn.2⟩ (Fr.keep F7)
  · exact hret _ _ _ ⟨_, _, _, _, _, ScriptR.k4 nm _ hnl (.tail _ (.tail _ (.tail _ (.head _)))), rfl, nn.1, rfl, nn.2⟩ (Fr.keep F7)
  · exact hret _ _ _ ⟨_, _, _, _, _, ScriptR.k4 nm _ hnl (.tail _ (.tail _ (.tail _ (.tail _ (.head _))))), rfl, nn.1, rfl, nn.2⟩ (Fr.keep F7)
  · exact hret _ _ _ ⟨_, _, _, _, _, ScriptR.k4 nm _ hnl (.tail _ (.tail _ (.tail _ (.tail _ (.tail _ (.head _)))))), rfl, nn.1, rfl, nn.2⟩ (Fr.keep F7)
  · exact hret _ _ _ ⟨_, _, _, _, _, ScriptR.k4 nm _ hnl (.tail _ (.tail _ (.tail _ (.tail _ (.tail _ (.tail _ (.head _))))))), rfl, nn.1, rfl, nn.2⟩ (Fr.keep F7)
  · exact hret _ _ _ ⟨_, _, _, _, _, ScriptR.k4 nm _ hnl (.tail _ (.tail _ (.tail _ (.tail _ (.tail _ (.tail _ (.tail _ (.head _)))))))), rfl, nn.1, rfl, nn.2⟩ (Fr.keep F7)
  · exact hret _ _ _ ⟨_, _, _, _, _, ScriptR.k5 _ _ (lt300 _), rfl, nn.1, rfl, nn.2⟩ (Fr.keep F7)
end
-- X6
section
local macro_rules | `(tactic| walk_at "callWith ref") => `(tactic| (k_here; (with_reducible show wpAny _ _ (callWith _ (Value.ref _) _ (backTo _ (starEach (_ :: _) _)) (backToKw _ (keywordEach _ _))) _ _ _); k_dflt (refine' BW.callWith_boundK ?_)))
local macro_rules | `(tactic| walk_at "call ref") => `(tactic| (k_here; (with_reducible show wpAny _ _ (call (Value.ref _) [Value.bytes (List.toArray _) _] (List.zip _ _)) _ _ _); ((first | (with_reducible refine' BW.call_big ?ho ?hl ?_) | (k_dflt (refine' BW.call_big ?ho ?hl ?_))); k_dflt ((case ho => first | exact KFB.at_of (by k_asm) (by k_mem) | exact KFB.at_of (by assumption) (by news_mem)); (case hl => walk_at "M len"))); intro _ _))
local macro_rules | `(tactic| walk_at "call ref") => `(tactic| (k_here; (with_reducible show wpAny _ _ (call (Value.ref 672) [Value.int _ _] _) _ _ _); k_dflt (refine' use0 (s_y_of _ _ _ ?hx) ?HB ?B ?D ?F ?N ?hA ?hf ?hk ?hh ?hdp ?hun ?_ ?_; (case hx => assumption)); k_dflt (walk_at "M use"; (intro v' h' tk' hv' F' N'); obtain ⟨on', _, hv'⟩ := hv'; subst hv'; rotate_left 1; walk_at "M fly"; rotate_right 1)))
local macro_rules | `(tactic| walk_at "subscriptTail") => `(tactic| (k_here; (with_reducible show wpAny _ _ (subscriptTail _ (Expr.Slice _ _ none _) (Value.bytes (List.toArray _) _) (Value.ref _)) _ _ _); (with_reducible rename Fr _ _ _ _ => F'); (with_reducible rename News _ _ _ _ => N'); ((first | (with_reducible refine' BX.slice (s := ⟨_, _, _, _, _⟩) F' N' ?l ?u ?z ?_ ?hs ?ht) | (k_dflt (refine' BX.slice (s := ⟨_, _, _, _, _⟩) F' N' ?l ?u ?z ?_ ?hs ?ht))); k_dflt ((case l => constructor); (case u => constructor); (case z => walk_at "M len"); (case hs => with_unfolding_all rfl); (case ht => (intro _; with_unfolding_all rfl)))); intro _ _ _ F' N'; (try simp only [Option.elim, KBc.clip_lit, clipAt_nat, List.drop_zero, Nat.sub_zero]); (try simp (discharger := decide) only [clip1, slc, slcE, slc0, Int.reduceToNat, Nat.reduceSub])))
local macro_rules | `(tactic| walk_at "call ref") => `(tactic| (k_here; (with_reducible show wpAny _ _ (call (Value.ref 751) [Value.int _ _, Value.bytes (List.toArray _) _] _) _ _ _); k_dflt (refine' useC (s_dec _ _ _ _ _ ?hx1 ?hx2 ?hx) ?HB ?B ?D ?F ?N ?T ?hA ?hf ?hk ?hh ?hdp ?hun ?_ ?_; (case hx1 => omega); (case hx2 => omega); (case hx => walk_at "M len")); k_dflt (walk_at "M use"; (case T => first | assumption | exact KtsTurn.refl); (intro v' h' tk' gU hv' TU F' N' BU XU TopU DU); (obtain ⟨dr, dt, hdc, hv'⟩ := hv'; subst hv'); rotate_left 1; walk_at "M fly"; rotate_right 1)))
local macro_rules | `(tactic| walk_at "call builtin:len") => `(tactic| (k_here; (with_reducible show wpAny _ _ (call (Value.builtin "len") [Value.bytes (List.toArray _) _]) _ _ _); (first | refine' lenL (i := 25) hL rfl (by decide) ?_ | refine' lenL (i := 23) hL rfl (by decide) ?_ | refine' lenL (i := 35) hL rfl (by decide) ?_ | refine' lenL (i := 67) hL rfl (by decide) ?_); intro _ _))
local macro_rules | `(tactic| walk_at "storeName") => `(tactic| (k_here; (with_reducible show wpAny _ _ (storeName _ _ (Value.int (List.getD _ _ _) _)) _ _ _); (refine hold ?_)))
local macro_rules | `(tactic| walk_at "M len") => `(tactic| ((try simp only [List.length_append, List.length_cons, List.length_nil, List.length_take, List.length_drop, List.length_map, List.length_replicate, be_len, Int.reduceToNat]); omega))
local macro_rules | `(tactic| walk_at "M dec") => `(tactic| (first | omega | ((simp only [decide_eq_true_eq, decide_eq_false_iff_not, beq_iff_eq, bne_iff_ne, Bool.not_eq_true', Bool.not_eq_false', Bool.and_eq_true, Bool.not_eq_true]); omega)))
local macro_rules | `(tactic| walk_at "ite") => `(tactic| (k_here; k_openite; first
  | (refine ite_pos (by with_reducible assumption) ?_) | (refine ite_neg (by with_reducible assumption) ?_) | (refine ite_isFalse (by with_reducible assumption) ?_)
  | (refine' ite_pos ?hc ?_; (case hc => walk_at "M dec")) | (refine' ite_neg ?hc ?_; (case hc => walk_at "M dec"))
  | (refine' ite_own (fun hq' => ?_) (fun hq' => ?_) <;> (try simp only [decide_eq_true_eq, decide_eq_false_iff_not, beq_iff_eq, bne_iff_ne, Bool.not_eq_true', Bool.not_eq_false', Bool.and_eq_true, ne_eq, Bool.not_eq_true] at hq'))))
theorem lenL {prog : Program} {w : World} {A : Around} {E : Value → Shared → Prop} {s : Shared} {b : List UInt8} {n : Nat} {i : Int} {t : Tok} {Q : Value → Shared → Prop} (hL : b.length = n) (hi : (n : Int) = i) (hsz : n ≤ 1099511627776) (h : ∀ t' k, Q (.int i t') { s with toks := k }) :
    wpAny (model prog w) A (call (.builtin "len") [.bytes b.toArray t]) Q E s := by
  subst hi; subst hL
  exact BX.len hsz h
theorem s_open (W : Wd) (k : Int) (c : List UInt8) (t tc : Tok) (hk : -(2 ^ 256) < k) (hk' : k < 2 ^ 256) (hc : c.length ≤ 100000) : SpecC W 365 1650 830 ⟨[.int k t, .bytes c.toArray tc], []⟩ (fun v => OptB (decS k c) v) (fun _ => False) := by
  intro base l s R HB S hret hraise
  refine' enter0 (binds := [(PySem.Str.ofString "kind", .int k t), (PySem.Str.ofString "octets", .bytes c.toArray tc)]) HB S ?k6 ?k7 ?k8 ?k9 ?kB ?_ ?c2 ?c3 ?c4 ?c5
  walk_at "M enter"
  k_steps
  · exact hret _ _ _ (by rw [hdc]; exact ⟨_, rfl⟩) (Same.of_turn TU (Fr.keep F'))
  · walk_at "M catch"
    k_steps
    exact hret _ _ _ (by rw [hp']; rfl) (Same.of_turn TC (Fr.keep (by k_asm)))
def turn (b : List UInt8) (k : Nat) : List UInt8 := b.take k ++ [b.getD k 0 ^^^ 1] ++ b.drop (k + 1)
def places (n : Nat) : List Nat := if n = 25 then [0, 1, 2, 23, 24] else if n = 23 then [0, 1, 22] else if n = 35 then [0, 34] else if n = 67 then [0, 1, 66] else []
theorem xorA : ∀ n : Nat, n < 256 → Builtin.bitXor (n : Int) 1 = (((UInt8.ofNat n ^^^ 1).toNat : Nat) : Int) := by decide +kernel
theorem xorB (c : UInt8) : 0 ≤ Builtin.bitXor ((c.toNat : Nat) : Int) 1 ∧ Builtin.bitXor ((c.toNat : Nat) : Int) 1 < 256 := by
  rw [xorA _ (UInt8.toNat_lt c)]
  have := UInt8.toNat_lt (UInt8.ofNat c.toNat ^^^ 1)
  omega
theorem xorU (c : UInt8) : (Builtin.bitXor ((c.toNat : Nat) : Int) 1).toNat.toUInt8 = c ^^^ 1 := by
  rw [xorA _ (UInt8.toNat_lt c), Int.toNat_natCast, UInt8.ofNat_toNat]
  exact UInt8.ofNat_toNat
theorem idxL (l : List Int) (n : Int) (m : Int) (hm : 0 < m) (hl : m = l.length) : l.getD (n.fmod m).toNat 0 ∈ l := by
  have h : (n.fmod m).toNat < l.length := by
    rw [Int.fmod_eq_emod_of_nonneg _ (by omega)]
    have := Int.emod_lt_of_pos n hm
    have := Int.emod_nonneg n (show m ≠ 0 by omega)
    omega
  rw [List.getD_eq_getElem?_getD, List.getElem?_eq_getElem h]
  exact List.getElem_mem h
theorem memNat {z : Int} {l : List Nat} (h : z ∈ l.map (fun k : Nat => (k : Int))) : ∃ K : Nat, K ∈ l ∧ (K : Int) = z := List.mem_map.mp h
theorem turnE {b : List UInt8} {K : Nat} (h : K < b.length) : b.take K ++ [(Builtin.bitXor (((b.getD (Int.toNat (K : Int)) 0).toNat : Nat) : Int) 1).toNat.toUInt8] ++ List.take (b.length - clipAt b.length ((K : Int) + 1)) (b.drop (clipAt b.length ((K : Int) + 1))) = turn b K := by
  have e : clipAt b.length ((K : Int) + 1) = K + 1 := by
    rw [show (K : Int) + 1 = ((K + 1 : Nat) : Int) from rfl, clipAt_nat]
    exact Nat.min_eq_left h
  rw [e, xorU, Int.toNat_natCast]
  unfold turn
  have e2 : (b.drop (K + 1)).take (b.length - (K + 1)) = b.drop (K + 1) := List.take_of_length_le (by rw [List.length_drop]; exact Nat.le_refl _)
  rw [e2]
theorem s_turned (W : Wd) (n : Int) (b : List UInt8) (t tb : Tok) (hb : b.length = 25 ∨ b.length = 23 ∨ b.length = 35 ∨ b.length = 67) : Spec0 W 395 1950 875 ⟨[.int n t, .bytes b.toArray tb], []⟩ (fun v => ∃ k ∈ places b.length, ∃ t, v = .bytes (turn b k).toArray t) (fun _ => False) := by
  intro base l s R HB S hret hraise
  refine' enter0 (binds := [(PySem.Str.ofString "number", .int n t), (PySem.Str.ofString "octets", .bytes b.toArray tb)]) HB S ?k6 ?k7 ?k8 ?k9 ?kB ?_ ?c2 ?c3 ?c4 ?c5
  walk_at "M enter"
  rcases hb with hL | hL | hL | hL
  · k_steps
    unfold Hold
    obtain ⟨K, hK, e⟩ := memNat (l := [0, 1, 2, 23, 24]) (idxL [0, 1, 2, 23, 24] n 5 (by decide) rfl)
    have hK2 : K < 25 := by simp only [List.mem_cons, List.not_mem_nil, or_false] at hK; omega
    rw [← e]
    clear e
    have hx := xorB (b.getD (Int.toNat (K : Int)) 0)
    k_steps
    rw [turnE (by omega)]
    exact hret _ _ _ ⟨K, by rw [hL]; exact hK, _, rfl⟩ (Fr.keep (by k_asm))
  · k_steps
    unfold Hold
    obtain ⟨K, hK, e⟩ := memNat (l := [0, 1, 22]) (idxL [0, 1, 22] n 3 (by decide) rfl)
    have hK2 : K < 23 := by simp only [List.mem_cons, List.not_mem_nil, or_false] at hK; omega
    rw [← e]
    clear e
    have hx := xorB (b.getD (Int.toNat (K : Int)) 0)
    k_steps
    rw [turnE (by omega)]
    exact hret _ _ _ ⟨K, by rw [hL]; exact hK, _, rfl⟩ (Fr.keep (by k_asm))
  · k_steps
    unfold Hold
    obtain ⟨K, hK, e⟩ := memNat (l := [0, 34]) (idxL [0, 34] n 2 (by decide) rfl)
    have hK2 : K < 35 := by simp only [List.mem_cons, List.not_mem_nil, or_false] at hK; omega
    rw [← e]
    clear e
    have hx := xorB (b.getD (Int.toNat (K : Int)) 0)
    k_steps
    rw [turnE (by omega)]
    exact hret _ _ _ ⟨K, by rw [hL]; exact hK, _, rfl⟩ (Fr.keep (by k_asm))
  · k_steps
    unfold Hold
    obtain ⟨K, hK, e⟩ := memNat (l := [0, 1, 66]) (idxL [0, 1, 66] n 3 (by decide) rfl)
    have hK2 : K < 67 := by simp only [List.mem_cons, List.not_mem_nil, or_false] at hK; omega
    rw [← e]
    clear e
    have hx := xorB (b.getD (Int.toNat (K : Int)) 0)
    k_steps
    rw [turnE (by omega)]
    exact hret _ _ _ ⟨K, by rw [hL]; exact hK, _, rfl⟩ (Fr.keep (by k_asm))
end
-- X7
section
local macro_rules | `(tactic| walk_at "callWith ref") => `(tactic| (k_here; (with_reducible show wpAny _ _ (callWith _ (Value.ref _) _ (backTo _ (starEach (_ :: _) _)) (backToKw _ (keywordEach _ _))) _ _ _); k_dflt (refine' BW.callWith_boundK ?_)))
local macro_rules | `(tactic| walk_at "call ref") => `(tactic| (k_here; (with_reducible show wpAny _ _ (call (Value.ref _) [Value.bytes (List.toArray _) _] (List.zip _ _)) _ _ _); ((first | (with_reducible refine' BW.call_big ?ho ?hl ?_) | (k_dflt (refine' BW.call_big ?ho ?hl ?_))); k_dflt ((case ho => first | exact KFB.at_of (by k_asm) (by k_mem) | exact KFB.at_of (by assumption) (by news_mem)); (case hl => walk_at "M len"))); intro _ _))
local macro_rules | `(tactic| walk_at "call ref") => `(tactic| (k_here; (with_reducible show wpAny _ _ (call (Value.ref 672) [Value.int _ _] _) _ _ _); k_dflt (refine' use0 (s_y_of _ _ _ ?hx) ?HB ?B ?D ?F ?N ?hA ?hf ?hk ?hh ?hdp ?hun ?_ ?_; (case hx => assumption)); k_dflt (walk_at "M use"; (intro v' h' tk' hv' F' N'); obtain ⟨on', _, hv'⟩ := hv'; subst hv'; rotate_left 1; walk_at "M fly"; rotate_right 1)))
local macro_rules | `(tactic| walk_at "subscriptTail") => `(tactic| (k_here; (with_reducible show wpAny _ _ (subscriptTail _ (Expr.Slice _ _ none _) (Value.bytes (List.toArray _) _) (Value.ref _)) _ _ _); (with_reducible rename Fr _ _ _ _ => F'); (with_reducible rename News _ _ _ _ => N'); ((first | (with_reducible refine' BX.slice (s := ⟨_, _, _, _, _⟩) F' N' ?l ?u ?z ?_ ?hs ?ht) | (k_dflt (refine' BX.slice (s := ⟨_, _, _, _, _⟩) F' N' ?l ?u ?z ?_ ?hs ?ht))); k_dflt ((case l => constructor); (case u => constructor); (case z => walk_at "M len"); (case hs => with_unfolding_all rfl); (case ht => (intro _; with_unfolding_all rfl)))); intro _ _ _ F' N'; (try simp only [Option.elim, KBc.clip_lit, clipAt_nat, List.drop_zero, Nat.sub_zero]); (try simp (discharger := decide) only [clip1, slc, slcE, slc0, Int.reduceToNat, Nat.reduceSub])))
local macro_rules | `(tactic| walk_at "call ref") => `(tactic| (k_here; (with_reducible show wpAny _ _ (call (Value.ref 737) [Value.bytes (List.toArray _) _] _) _ _ _); k_dflt (refine' useC (s_comp _ _ _ ?hx) ?HB ?B ?D ?F ?N ?T ?hA ?hf ?hk ?hh ?hdp ?hun ?_ (fun _ _ _ _ _ x => x.elim); (case hx => walk_at "M len")); k_dflt (walk_at "M use"; (case T => first | assumption | exact KtsTurn.refl); (intro v' h' tk' gU hv' TU F' N' BU XU TopU DU); (refine hold ?_))))
local macro_rules | `(tactic| walk_at "call ref") => `(tactic| (k_here; (with_reducible show wpAny _ _ (call (Value.ref 751) [Value.int _ _, Value.bytes (List.toArray _) _] _) _ _ _); k_dflt (refine' useC (s_dec _ _ _ _ _ ?hx1 ?hx2 ?hx) ?HB ?B ?D ?F ?N ?T ?hA ?hf ?hk ?hh ?hdp ?hun ?_ ?_; (case hx1 => omega); (case hx2 => omega); (case hx => walk_at "M len")); k_dflt (walk_at "M use"; (case T => first | assumption | exact KtsTurn.refl); (intro v' h' tk' gU hv' TU F' N' BU XU TopU DU); (obtain ⟨dr, dt, hdc, hv'⟩ := hv'; subst hv'); rotate_left 1; walk_at "M fly"; rotate_right 1)))
local macro_rules | `(tactic| walk_at "call ref") => `(tactic| (k_here; (with_reducible show wpAny _ _ (call (Value.ref 830) [Value.int _ _, Value.bytes (List.toArray _) _] _) _ _ _); k_dflt (refine' useC (s_open _ _ _ _ _ ?hx1 ?hx2 ?hx) ?HB ?B ?D ?F ?N ?T ?hA ?hf ?hk ?hh ?hdp ?hun ?_ (fun _ _ _ _ _ x => x.elim); (case hx1 => first | omega | (simp only [fm1000]; omega)); (case hx2 => first | omega | (simp only [fm1000]; omega)); (case hx => walk_at "M len")); k_dflt (walk_at "M use"; (case T => first | assumption | exact KtsTurn.refl | exact KtsTurn.trans (by assumption) (by assumption)); (intro v' h' tk' gU hv' TU F' N' BU XU TopU DU); (refine hold ?_))))
local macro_rules | `(tactic| walk_at "call ref") => `(tactic| (k_here; (with_reducible show wpAny _ _ (call (Value.ref 875) [Value.int _ _, Value.bytes (List.toArray _) _] _) _ _ _); k_dflt (refine' use0n (s_turned _ _ _ _ _ ?hx) ?HB ?B ?D ?F ?N ?hA ?hf ?hk ?hh ?hdp ?hun ?_; (case hx => assumption)); k_dflt (walk_at "M use"; (intro v' h' tk' hv' F' N'); (obtain ⟨tk9, htk9, tt9, hv'⟩ := hv'; subst hv'); (have hlt9 := turn_len _ _ htk9))))
local macro_rules | `(tactic| walk_at "M len") => `(tactic| ((try simp only [List.length_append, List.length_cons, List.length_nil, List.length_take, List.length_drop, List.length_map, List.length_replicate, List.length_dropLast, be_len, Int.reduceToNat]); omega))
local macro_rules | `(tactic| walk_at "subscriptTail") => `(tactic| (k_here; (with_reducible show wpAny _ _ (subscriptTail _ (Expr.Slice _ _ none _) (Value.bytes (List.toArray _) _) (Value.ref _)) _ _ _); (with_reducible rename Fr _ _ _ _ => F'); (with_reducible rename News _ _ _ _ => N'); ((first | (with_reducible refine' BX.slice (s := ⟨_, _, _, _, _⟩) F' N' ?l ?u ?z ?_ ?hs ?ht) | (k_dflt (refine' BX.slice (s := ⟨_, _, _, _, _⟩) F' N' ?l ?u ?z ?_ ?hs ?ht))); k_dflt ((case l => constructor); (case u => constructor); (case z => walk_at "M len"); (case hs => with_unfolding_all rfl); (case ht => (intro _; with_unfolding_all rfl)))); intro _ _ _ F' N'; (try simp only [Option.elim, KBc.clip_lit, clipAt_nat, List.drop_zero, Nat.sub_zero]); (try simp (discharger := decide) only [clip1, slc, slcE, slc0, Int.reduceToNat, Nat.reduceSub]); (try simp only [Int.reduceToNat, slcM, slcM0])))
local macro_rules | `(tactic| walk_at "M dec") => `(tactic| (first | omega | ((simp only [decide_eq_true_eq, decide_eq_false_iff_not, beq_iff_eq, bne_iff_ne, Bool.not_eq_true', Bool.not_eq_false', Bool.and_eq_true, Bool.not_eq_true]); omega)))
local macro_rules | `(tactic| walk_at "ite") => `(tactic| (k_here; k_openite; first
  | (refine ite_pos (by with_reducible assumption) ?_) | (refine ite_neg (by with_reducible assumption) ?_) | (refine ite_isFalse (by with_reducible assumption) ?_)
  | (refine' ite_pos ?hc ?_; (case hc => walk_at "M dec")) | (refine' ite_neg ?hc ?_; (case hc => walk_at "M dec"))
  | (refine' ite_own (fun hq' => ?_) (fun hq' => ?_) <;> (try simp only [decide_eq_true_eq, decide_eq_false_iff_not, beq_iff_eq, bne_iff_ne, Bool.not_eq_true', Bool.not_eq_false', Bool.and_eq_true, ne_eq, Bool.not_eq_true] at hq'))))
theorem slcM (b : List UInt8) : (b.drop (min 1 b.length)).take (clipAt b.length (-1) - min 1 b.length) = (b.drop 1).dropLast := by
  have e : clipAt b.length (-1) = b.length - 1 := clipAt_neg b.length 1 (by decide)
  rw [e, List.dropLast_eq_take, List.length_drop]
  by_cases h : 1 ≤ b.length
  · rw [Nat.min_eq_left h]
  · rw [Nat.min_eq_right (by omega), List.drop_of_length_le (Nat.le_refl _), List.drop_of_length_le (show b.length ≤ 1 by omega), List.take_nil, List.take_nil]
theorem slcM0 (b : List UInt8) : b.take (clipAt b.length (-1)) = b.dropLast := by
  have e : clipAt b.length (-1) = b.length - 1 := clipAt_neg b.length 1 (by decide)
  rw [e, List.dropLast_eq_take]
theorem fm1000 (n : Int) : n.fmod 1000 = n % 1000 := Int.fmod_eq_emod_of_nonneg _ (by decide)
theorem turn_len (b : List UInt8) (k : Nat) (h : k ∈ places b.length) : (turn b k).length = b.length := by
  have hk : k < b.length := by
    unfold places at h
    split at h
    · simp only [List.mem_cons, List.not_mem_nil, or_false] at h; omega
    · split at h
      · simp only [List.mem_cons, List.not_mem_nil, or_false] at h; omega
      · split at h
        · simp only [List.mem_cons, List.not_mem_nil, or_false] at h; omega
        · split at h
          · simp only [List.mem_cons, List.not_mem_nil, or_false] at h; omega
          · cases h
  unfold turn
  simp only [List.length_append, List.length_take, List.length_drop, List.length_cons, List.length_nil]
  omega
theorem s_known (W : Wd) (n : Int) (o sh : List UInt8) (t t1 t2 : Tok) (ho : o.length = 25 ∨ o.length = 23 ∨ o.length = 35 ∨ o.length = 67) (hs0 : 1 ≤ sh.length) (hs : sh.length ≤ 100)
    (hd : decS ((sh.getD 0 0).toNat : Nat) (sh.drop 1) = some o) (hT : ∀ k ∈ places o.length, compS (turn o k) = none) (h1 : decS ((sh.getD 0 0).toNat : Nat) (sh.drop 1 ++ [0]) = none) (h2 : decS ((sh.getD 0 0).toNat : Nat) (sh.drop 1).dropLast = none) :
    SpecC W 360 1600 882 ⟨[.int n t, .bytes o.toArray t1, .bytes sh.toArray t2], []⟩ (fun v => v = .bool true) (fun _ => False) := by
  intro base l s R HB S hret hraise
  refine' enter0 (binds := [(PySem.Str.ofString "number", .int n t), (PySem.Str.ofString "octets", .bytes o.toArray t1), (PySem.Str.ofString "short", .bytes sh.toArray t2)]) HB S ?k6 ?k7 ?k8 ?k9 ?kB ?_ ?c2 ?c3 ?c4 ?c5
  walk_at "M enter"
  have hu8 := UInt8.toNat_lt (sh.getD 0 0)
  k_steps
  · exfalso
    rw [hd] at hdc
    exact hq' (Option.some.inj hdc).symm
  rotate_left 1
  · exfalso
    rw [hd] at hp'
    cases hp'
  unfold Hold
  have hv9 := hv'.2 (hT _ htk9)
  subst hv9
  k_steps
  unfold Hold
  rw [h1] at hv'
  have hv9 : v' = Value.none := hv'
  subst hv9
  k_steps
  unfold Hold
  rw [h2] at hv'
  have hv9 : v' = Value.none := hv'
  subst hv9
  k_steps
  unfold Hold
  have e6 : decS (6 + n.fmod 1000) (List.drop 1 sh) = none := by
    unfold decS
    rw [if_neg (by rw [fm1000]; omega)]
  rw [e6] at hv'
  have hv9 : v' = Value.none := hv'
  subst hv9
  k_steps
  unfold Hold
  have em : decS (-1) (List.drop 1 sh) = none := by
    unfold decS
    rw [if_neg (by omega)]
  rw [em] at hv'
  have hv9 : v' = Value.none := hv'
  subst hv9
  k_steps
  exact hret _ _ _ rfl (Same.of_turn TU (Fr.keep (by k_asm)))
end
end
-- GH
section
theorem new_ioK {W : Wd} {A : Around} {E : Value → Shared → Prop} {s : Shared} {g : Heap} {L : Addr} {m : PySem.Str → Option Value} {news : List (Addr × Obj)} {Q : Value → Shared → Prop} (F : Fr g L s.heap m) (N : News g L s.heap news) (X : (Mine.hd.heap_1_1 W.w.params).In g)
    (h : ∀ x D h', Fr g L h' m → News g L h' ((x, instObj 367 D) :: (D, emptyDict) :: news) → (∀ p ∈ news, p.1 < D) → @LT.lt Nat _ D x → Q (.ref x) { s with heap := h' }) : wpAny (model W.prog W.w) A (call (.builtin "object.__new__") [.ref 367]) Q E s := by
  refine wpAny_call (new_io (X.keeps F.keep) ?_)
  have N2 := (N.push F emptyDict).push (F.push _) (instObj 367 s.heap.objs.size)
  rw [Heap.size_push] at N2
  exact h _ s.heap.objs.size _ ((F.push _).push _) N2 (fun p hp => Heap.lt_size (N p hp).1) (Nat.lt_succ_self _)
theorem s_bytesio (W : Wd) (b : List UInt8) (t : Tok) (hb : b.length ≤ 100000) (base : Heap) (l : List Env) (s : Shared) (R : Result → Shared → Prop) (HB : Base W base) (S : Site base l s.heap)
    (hret : ∀ io D B k h' tk', (∀ y o, s.heap.get? y = some o → h'.get? y = some o) → (∀ q ∈ ioN W.w io D B b 0 k, h'.get? q.1 = some q.2 ∧ s.heap.get? q.1 = none) → @LT.lt Nat _ D io → @LT.lt Nat _ io B → R (.ok (.ret (.ref io))) { s with heap := h', toks := tk' }) :
    codeG (model W.prog W.w) (LV 340 1400 l) (.call (.ref 623) ⟨[.bytes b.toArray t], []⟩) R s := by
  refine' enterG (binds := [(PySem.Str.ofString "stream", .bytes b.toArray t)]) HB S ?k6 ?k7 ?k8 ?k9 ?kB ?_ ?c2 ?c3 ?c4 ?c5
  walk_at "M enter"
  refine wpG_execs_cons (wpG_of ?_)
  k_steps
  refine wpG_execs_cons (wpG_Return ?_)
  refine' callNameG (f := 367) ?F ?X ?T ?ex ?hkp ?_ rfl rfl (by decide) rfl rfl
  (case F => k_asm); (case X => k_asm); (case T => exact topRead_of (by assumption)); (case ex => k_is); (case hkp => k_is)
  k_steps
  refine typeCall_io (Frag.In.keeps X' (Fr.keep (by assumption))) ?_
  k_steps
  · rename News _ _ _ _ => N9
    exact News_at N9 (by k_mem)
  · rename Fr _ _ _ _ => F9
    rename News _ _ _ _ => N9
    have S9 := fun env h1 h2 => site_of (env := env) B' D' F9 h1 h2
    have g9 : ∀ a : Addr, s.heap.get? a = none → base.get? a = none := fun a hn => by
      cases q : base.get? a with
      | none => rfl
      | some o => rw [B'.stays a o q] at hn; cases hn
    have n9 : ∀ a : Addr, s.heap.get? a = none → a ≠ L' → a ∉ L' :: fr l := fun a hn hl hm => by
      rcases List.mem_cons.mp hm with e | e
      · exact hl e
      · obtain ⟨o, es, n, ho, _⟩ := D' _ e
        rw [hn] at ho; cases ho
    have i1 := N9 (x', instObj 367 D'') (by simp)
    have i2 := N9 (D'', emptyDict) (by simp)
    refine' wpG_call (codeG_le (A' := LV 350 1500 (_ :: l)) ?hh ?hd ?hf ?hg ?hu (s_init W x' D'' b t hb base _ _ _ HB ?S i1.1 i2.1 (g9 _ i1.2.2) (g9 _ i2.2.2) ?fx ?fD (by assumption) ?_))
    case hf => exact rfl
    case hh => exact rfl
    case hg => exact rfl
    case hd => exact Nat.le_of_ble_eq_true rfl
    case hu => exact Nat.le_of_ble_eq_true rfl
    case S => exact S9 _ rfl rfl
    case fx => rw [fr_cons rfl]; exact n9 _ i1.2.2 i1.2.1
    case fD => rw [fr_cons rfl]; exact n9 _ i2.2.2 i2.2.1
    intro Bb k hh tk' keep gD gB nB lt2
    refine ⟨rfl, ?_⟩
    have keep0 : ∀ y o, s.heap.get? y = some o → hh.get? y = some o := fun y o e => keep y o (fun q => by subst q; rw [i2.2.2] at e; cases e) (F9.keep y o e)
    refine hret x' D'' Bb k _ _ keep0 (fun q hq => ?_) (by assumption) lt2
    simp only [ioN, List.mem_cons, List.not_mem_nil, or_false] at hq
    rcases hq with rfl | rfl | rfl
    · exact ⟨keep _ _ (Nat.ne_of_gt l2') i1.1, i1.2.2⟩
    · exact ⟨gD, i2.2.2⟩
    · refine ⟨gB, ?_⟩
      cases q : s.heap.get? Bb with
      | none => rfl
      | some o => have := F9.keep _ _ q; rw [nB] at this; cases this
end
-- GI
section
theorem site_at {l : List Env} {base g h : Heap} {A₀ : Around} {L : Addr} {m : PySem.Str → Option Value} (s0 : Shared) (B : Below A₀ base l g) (D : KtsDicts (fr l) g) (F : Fr g L h m) (env : Env) (hf : env.frame = some L) (hk : env.scope.kind = .function) : Site base (env :: l) h :=
  site_of (s := { s0 with heap := h }) B D F hf hk
theorem s_parseB (W : Wd) (b : List UInt8) (bits : Int) (t tb : Tok) (hn : -(2 ^ 256) < bits) (hn' : bits < 2 ^ 256) (hb : b.length ≤ 100000) : SpecG W 330 1300 709 ⟨[.bytes b.toArray tb, .int bits t], []⟩
    (fun v => ∃ (n : Nat) (rest : List UInt8) (t : Tok), 1 ≤ bits ∧ bits ≤ 64 ∧ rd (2 ^ bits.toNat) 0 b = some (n, rest) ∧ v = .int n t) (fun C => C = .ref 44 ∧ ¬ (1 ≤ bits ∧ bits ≤ 64 ∧ (rd (2 ^ bits.toNat) 0 b).isSome = true)) := by
  intro base l s R HB S hret hraise
  refine' enterG (binds := [(PySem.Str.ofString "stream", .bytes b.toArray tb), (PySem.Str.ofString "bits", .int bits t)]) HB S ?k6 ?k7 ?k8 ?k9 ?kB ?_ ?c2 ?c3 ?c4 ?c5
  (case k6 => k_is); (case k7 => k_is)
  case k9 => (refine' binds_K (Frag.In.keeps HB.1 (Site.stays S)) rfl ?x ?s ?y ?z; (case x => k_is); (case s => exact rfl); (case y => exact rfl); (case z => exact rfl))
  (case k8 => decide); (case kB => exact locs rfl); (case c2 => exact rfl); (case c3 => exact rfl); (case c4 => exact rfl); (case c5 => decide)
  intro g' L' h' tk' hg' F' N' B' X' T' D'; subst hg'; (try k_fold)
  refine wpG_execs_cons (wpG_of ?_)
  k_steps
  rotate_left 1
  · exact hraise _ _ _ _ _ ⟨rfl, by omega⟩ (by assumption)
  refine wpG_execs_cons (wpG_Assign_Name ?_ rfl)
  rename Fr _ _ _ _ => F5
  refine' callNameG (f := 623) F5 ?X ?T ?ex ?hkp ?_ rfl rfl (by decide) rfl rfl
  (case X => k_asm); (case T => exact topRead_of (by assumption)); (case ex => k_is); (case hkp => k_is)
  k_steps
  rename Fr _ _ _ _ => F6
  have S9 := site_at s B' D' F6
  refine' wpG_call (codeG_le (A' := LV 340 1400 (_ :: l)) ?hh ?hd ?hf ?hg ?hu (s_bytesio W b tb hb base _ _ _ HB ?S ?_))
  case hf => exact rfl
  case hh => exact rfl
  case hg => exact rfl
  case hd => exact Nat.le_of_ble_eq_true rfl
  case hu => exact Nat.le_of_ble_eq_true rfl
  case S => exact S9 _ rfl rfl
  intro io D B ⟨t1, t2, t3, c⟩ h9 tk9 keep9 hq9 h1 h2
  have F7 : Fr s.heap L' h9 _ := F6.keeps keep9
  have N7 : News s.heap L' h9 (ioN W.w io D B b 0 ⟨t1, t2, t3, c⟩) := fun q hq => by
    obtain ⟨a1, a2⟩ := hq9 q hq
    refine ⟨a1, ?_, ?_⟩
    · intro e
      obtain ⟨oL, es, ep, hLo, _⟩ := F6.ns
      rw [e, hLo] at a2; cases a2
    · cases z : s.heap.get? q.1 with
      | none => rfl
      | some o => rw [F6.keep _ _ z] at a2; cases a2
  dsimp only [ioN, ioDict, ioBuf] at N7
  clear F6 hq9 S9
  refine wpG_of ?_
  k_steps
  refine wpG_of ?_
  k_steps
  unfold Hold
  refine' while_own (σ := PvSt) (fun x => ∃ num : Nat, x.num = num ∧ x.mv = ((2 ^ bits.toNat : Nat) : Int) - 1 ∧ num < 2 ^ bits.toNat ∧ x.p ≤ b.length ∧ rd (2 ^ bits.toNat) num (b.drop x.p) = rd (2 ^ bits.toNat) 0 b)
    (fun x y => if y = PySem.Str.ofString "number" then some (.int x.num x.tn) else if y = PySem.Str.ofString "max_value" then some (.int x.mv x.tm) else if y = PySem.Str.ofString "stream" then some (.ref io) else if y = PySem.Str.ofString "bits" then some (.int bits t) else if y = PySem.Str.ofString "byte" then x.ob else none)
    (fun x => ioN W.w io D B b (x.p : Int) ⟨x.t1, x.t2, x.t3, c⟩) (fun x => b.length - x.p) ⟨_, _, _, _, _, 0, t1, t2, t3⟩ (by assumption) ?N ?em ?J ?turn (by first | passes_own | with_unfolding_all passes_own)
  case em => exact em5 (by with_unfolding_all rfl) (by with_unfolding_all rfl) (by with_unfolding_all rfl) (by with_unfolding_all rfl) (by with_unfolding_all rfl) (fun y h1 h2 h3 h4 h5 => by simp only [lk2, if_neg h1, if_neg h2, if_neg h3, if_neg h4, if_neg h5])
  case N => assumption
  case J =>
    refine ⟨0, rfl, ?_, Nat.pos_of_ne_zero (by simp), Nat.zero_le _, rfl⟩
    show (1 : Int) * 2 ^ bits.toNat - 1 = _
    rw [Int.one_mul, Int.natCast_pow]; rfl
  case turn =>
    rintro ⟨num', tn, mv, tm, ob, q, u1, u2, u3⟩ h₁ tk₁ ⟨num, hm, hmv, hlt, hq, J₁⟩ F' N'
    dsimp only at hm hmv hq J₁ F'
    dsimp only [ioN, ioDict, ioBuf] at N'
    subst hm
    have hM : 2 ^ bits.toNat ≤ 2 ^ 64 := Nat.pow_le_pow_right (by decide) (by omega)
    generalize hMe : 2 ^ bits.toNat = M at *
    have hnb : num < 18446744073709551616 := by omega
    k_steps
    all_goals first
      | (have hq1 : q < b.length := by have e1 : Int.toNat 1 = 1 := rfl; omega
         obtain ⟨c0, hc, hce, st⟩ := rd_step M num b q hq1
         have e8 : Builtin.bitOr ((num : Int) * 2 ^ Int.toNat 7) (Builtin.bitAnd (c0 : Int) 127) = ((num * 128 + c0 % 128 : Nat) : Int) := by
           rw [bitAnd_m7]
           have e2 : (c0 : Int) % 128 = ((c0 % 128 : Nat) : Int) := by omega
           rw [e2]
           exact bor_shift num (c0 % 128) (by omega))
      | skip
    · rename Int.fdiv _ _ < _ => a1
      have h7 : M ≤ num * 128 + c0 % 128 := by
        have e1 : mv.fdiv (2 ^ Int.toNat 7) = mv.fdiv 128 := rfl
        rw [e1, Int.fdiv_eq_ediv_of_nonneg _ (by decide)] at a1; omega
      rw [if_pos h7, J₁] at st
      exact hraise _ _ _ _ _ ⟨rfl, fun h => by rw [st] at h; exact absurd h.2.2 (by decide)⟩ (by assumption)
    · rename mv < Builtin.bitOr _ _ => a1
      rw [hce, e8] at a1
      rw [if_pos (by omega), J₁] at st
      exact hraise _ _ _ _ _ ⟨rfl, fun h => by rw [st] at h; exact absurd h.2.2 (by decide)⟩ (by assumption)
    · rename Builtin.bitOr _ _ = mv => a1
      rename ¬ Builtin.bitAnd _ _ = 0 => a2
      rw [hce, e8] at a1
      rw [hce, band128 _ hc] at a2
      have h8 : ¬ c0 < 128 := fun h => a2 (if_pos h)
      rw [if_neg (by omega), if_neg h8, if_pos (by omega), J₁] at st
      exact hraise _ _ _ _ _ ⟨rfl, fun h => by rw [st] at h; exact absurd h.2.2 (by decide)⟩ (by assumption)
    · rename ¬ mv < Builtin.bitOr _ _ => a0
      rename ¬ Builtin.bitOr _ _ = mv => a1
      rename ¬ Builtin.bitAnd _ _ = 0 => a2
      rename Fr _ _ _ _ => F9
      rename News _ _ _ _ => N9
      rw [hce, e8] at a1 a0
      rw [hce, band128 _ hc] at a2
      have h8 : ¬ c0 < 128 := fun h => a2 (if_pos h)
      rw [if_neg (by omega), if_neg h8, if_neg (by omega), J₁] at st
      unfold Hold
      refine' wpost_next (x' := ⟨_, _, _, _, _, q + 1, _, _, _⟩) F9 ?N2 ?em2 ?hl2 ?J2
      case em2 => exact em5 (by with_unfolding_all rfl) (by with_unfolding_all rfl) (by with_unfolding_all rfl) (by with_unfolding_all rfl) (by with_unfolding_all rfl) (fun y h1 h2 h3 h4 h5 => by simp only [if_neg h1, if_neg h2, if_neg h3, if_neg h4, if_neg h5])
      case N2 => exact N9
      case hl2 => show b.length - (q + 1) < b.length - q; omega
      case J2 =>
        refine ⟨num * 128 + c0 % 128 + 1, ?_, hmv, by omega, by show q + 1 ≤ b.length; omega, st.symm⟩
        show Builtin.bitOr ((num : Int) * 2 ^ Int.toNat 7) (Builtin.bitAnd (((((List.drop q b).take (Int.toNat 1)).getD (Int.toNat 0) 0).toNat : Nat) : Int) 127) + 1 = _
        rw [hce, e8]; omega
    · rename ¬ mv < Builtin.bitOr _ _ => a0
      rename Builtin.bitAnd _ _ = 0 => a2
      rename Fr _ _ _ _ => F9
      rename News _ _ _ _ => N9
      rw [hce, e8] at a0
      rw [hce, band128 _ hc] at a2
      have h8 : c0 < 128 := by
        by_cases h : c0 < 128
        · exact h
        · rw [if_neg h] at a2; cases a2
      rw [if_neg (by omega), if_pos h8, J₁] at st
      unfold Hold
      exact hret _ _ _ ⟨_, _, _, by omega, by omega, st, congrArg (fun z => Value.int z _) (by rw [hce, e8])⟩ (Same.of_keeps F9.keep)
    · have st := rd_out M num b q hp'
      rw [J₁] at st
      exact hraise _ _ _ _ _ ⟨rfl, fun h => by rw [st] at h; exact absurd h.2.2 (by decide)⟩ (by assumption)
end
-- GJ
section
def numRead (b : List UInt8) (bits : Int) : Option Nat := if 1 ≤ bits ∧ bits ≤ 64 then (rd (2 ^ bits.toNat) 0 b).map (·.1) else none
theorem s_number_read (W : Wd) (b : List UInt8) (bits : Int) (t tb : Tok) (hn : -(2 ^ 256) < bits) (hn' : bits < 2 ^ 256) (hb : b.length ≤ 100000) : SpecG W 320 1200 802 ⟨[.bytes b.toArray tb, .int bits t], []⟩
    (fun v => (∀ n, numRead b bits = some n → ∃ t, v = .int (n : Nat) t) ∧ (numRead b bits = none → v = .none)) (fun _ => False) := by
  intro base l s R HB S hret hraise
  refine' enterG (binds := [(PySem.Str.ofString "octets", .bytes b.toArray tb), (PySem.Str.ofString "bits", .int bits t)]) HB S ?k6 ?k7 ?k8 ?k9 ?kB ?_ ?c2 ?c3 ?c4 ?c5
  walk_at "M enter"
  refine wpG_execs_cons (wpG_Try ?_)
  refine wpG_execs_cons (wpG_Return ?_)
  refine' callNameG (f := 709) F' ?X ?T ?ex ?hkp ?_ rfl rfl (by decide) rfl rfl
  (case X => k_asm); (case T => exact topRead_of (by assumption)); (case ex => k_is); (case hkp => k_is)
  k_steps
  refine' useG (s_parseB W b bits t tb hn hn' hb) HB B' D' (by assumption) (by assumption) KtsTurn.refl rfl rfl rfl rfl (Nat.le_of_ble_eq_true rfl) (Nat.le_of_ble_eq_true rfl) ?_ ?_
  · intro v h2 tk2 g2 hv T2 F2 N2 B2 X2 Top2 D2
    obtain ⟨n, rest, t2, a1, a2, a3, rfl⟩ := hv
    have e : numRead b bits = some n := by unfold numRead; rw [if_pos ⟨a1, a2⟩, a3]; rfl
    refine hret _ _ _ ⟨fun m hm => ?_, fun hm => ?_⟩ (Same.of_turn T2 F2.keep)
    · rw [e] at hm; cases hm; exact ⟨_, rfl⟩
    · rw [e] at hm; cases hm
  · intro e' C' a' h' tk' hx' fl'
    obtain ⟨rfl, hp'⟩ := hx'
    have e : numRead b bits = none := by
      unfold numRead
      split
      · rename_i hc
        cases hr : rd (2 ^ bits.toNat) 0 b with
        | none => rfl
        | some x => exact absurd ⟨hc.1, hc.2, by rw [hr]; rfl⟩ hp'
      · rfl
    walk_at "M catch"
    k_steps
    refine hret _ _ _ ⟨fun m hm => ?_, fun _ => rfl⟩ (Same.of_turn TC (Fr.keep (by k_asm)))
    rw [e] at hm; cases hm
end
section
local macro_rules | `(tactic| walk_at "call ref") => `(tactic| (k_here; (with_reducible show wpAny _ _ (call (Value.ref _) _ _) _ _ _); refine hold ?_))
local macro_rules | `(tactic| walk_at "call ref") => `(tactic| (k_here; (with_reducible show wpAny _ _ (call (Value.ref 644) [Value.int _ _] _) _ _ _); k_dflt (refine' use0n (s_is_integer _ _ _) ?HB ?B ?D ?F ?N ?hA ?hf ?hk ?hh ?hdp ?hun ?_); k_dflt (walk_at "M use0")))
local macro_rules | `(tactic| walk_at "call ref") => `(tactic| (k_here; (with_reducible show wpAny _ _ (call (Value.ref 637) [Value.int _ _] _) _ _ _); k_dflt (refine' use0n (s_message_text _ _ _ (shown (N := 2 ^ 256) (by omega) (by omega) (by decide))) ?HB ?B ?D ?F ?N ?hA ?hf ?hk ?hh ?hdp ?hun ?_); k_dflt (walk_at "M use"; intro v' h' tk' hv' F' N'; obtain ⟨_, xm, hv', hxm⟩ := hv'; subst hv'; (try dsimp only); (try k_sweep))))
local macro_rules | `(tactic| walk_at "call ref") => `(tactic| (k_here; (with_reducible show wpAny _ _ (call (Value.ref 693) [Value.int _ _] _) _ _ _); k_dflt (refine' use0 (s_assert_bits _ _ _ (by omega) (by omega)) ?HB ?B ?D ?F ?N ?hA ?hf ?hk ?hh ?hdp ?hun ?_ ?_); k_dflt (walk_at "M use0r")))
local macro_rules | `(tactic| walk_at "call ref") => `(tactic| (k_here; (with_reducible show wpAny _ _ (call (Value.ref 686) [Value.int _ _, Value.int _ _, Value.str _ _] _) _ _ _); k_dflt (refine' use0 (s_assert_unsigned _ _ _ _ _ _ _ (by omega) (by omega) (by omega) (by omega) (by decide)) ?HB ?B ?D ?F ?N ?hA ?hf ?hk ?hh ?hdp ?hun ?_ ?_); k_dflt (walk_at "M use0r"); (all_goals (try (simp only [show Int.toNat 64 = 64 from rfl] at hp')))))
local macro_rules | `(tactic| walk_at "call ref") => `(tactic| (k_here; (with_reducible show wpAny _ _ (call (Value.ref 701) [Value.int _ _, Value.int _ _] _) _ _ _); k_dflt (refine' use0 (s_serialize _ _ _ _ _ (by omega) (by omega) (by omega) (by omega)) ?HB ?B ?D ?F ?N ?hA ?hf ?hk ?hh ?hdp ?hun ?_ ?_); k_dflt (walk_at "M use0q")))
local macro_rules | `(tactic| walk_at "call ref") => `(tactic| (k_here; (with_reducible show wpAny _ _ (call (Value.ref 291) [Value.ref _, Value.int _ _] _) _ _ _); k_dflt (refine' useIO (s_read _ _ _ _ _ _ ⟨_, _, _, _⟩ _ _ ?n1 ?n2 ?n3) ?HB ?B ?D ?F ?N ?h1 ?h2 ?hA ?hf ?hk ?hh ?hdp ?hun ?_ (fun _ _ _ _ _ _ x => x.elim)); k_dflt (walk_at "M useIO"); k_dflt ((case n1 => omega); (case n2 => omega); (case n3 => omega); walk_at "M backIO"; obtain ⟨_, hv', hp'⟩ := hv'; (have hl9 := tk_len hv'); subst hv'; subst hp')))
local macro_rules | `(tactic| walk_at "call ref") => `(tactic| (k_here; (with_reducible show wpAny _ _ (call (Value.ref 630) [Value.ref _, Value.int _ _, Value.str _ _] _) _ _ _); k_dflt (refine' useIO (s_exactly _ _ _ _ _ _ ⟨_, _, _, _⟩ _ _ _ _ ?n1 ?n2 ?n3 ?n4 ?n5) ?HB ?B ?D ?F ?N ?h1 ?h2 ?hA ?hf ?hk ?hh ?hdp ?hun ?_ ?_); k_dflt (walk_at "M useIO"); k_dflt ((case n1 => omega); (case n2 => omega); (case n3 => omega); (case n4 => decide); (case n5 => omega)); k_dflt (walk_at "M backIO"; obtain ⟨_, hv', hq', hp'⟩ := hv'; (have hl9 := tk_len hv'); subst hv'; subst hp'; rotate_left 1; walk_at "M flyIO"; rotate_right 1)))
local macro_rules | `(tactic| walk_at "call ref") => `(tactic| (k_here; (with_reducible show wpAny _ _ (call (Value.ref 66) [Value.bytes (List.toArray _) _] _) _ _ _); k_dflt (refine' use0n (s_octets _ _ _) ?HB ?B ?D ?F ?N ?hA ?hf ?hk ?hh ?hdp ?hun ?_); k_dflt (walk_at "M use0")))
local macro_rules | `(tactic| walk_at "call ref") => `(tactic| (k_here; (with_reducible show wpAny _ _ (call (Value.ref 652) [Value.int _ _] _) _ _ _); k_dflt (refine' use0 (s_valid _ _ _ (by omega) (by omega)) ?HB ?B ?D ?F ?N ?hA ?hf ?hk ?hh ?hdp ?hun ?_ ?_); k_dflt (walk_at "M use"; (intro v' h' tk' hv' F' N'); obtain ⟨_, hv', _, _⟩ := hv'; subst hv'; rotate_left 1; walk_at "M fly"; rotate_right 1)))
local macro_rules | `(tactic| walk_at "call ref") => `(tactic| (k_here; (with_reducible show wpAny _ _ (call (Value.ref 716) [Value.int _ _] _) _ _ _); k_dflt (refine' use0 (s_compress _ _ _ (by omega) (by omega)) ?HB ?B ?D ?F ?N ?hA ?hf ?hk ?hh ?hdp ?hun ?_ ?_); k_dflt (walk_at "M use0q")))
local macro_rules | `(tactic| walk_at "call ref") => `(tactic| (k_here; (with_reducible show wpAny _ _ (call (Value.ref 723) [Value.int _ _] _) _ _ _); k_dflt (refine' use0 (s_decompress _ _ _ (by omega) (by omega)) ?HB ?B ?D ?F ?N ?hA ?hf ?hk ?hh ?hdp ?hun ?_ ?_); k_dflt (walk_at "M use0q")))
-- X8
section
local macro_rules | `(tactic| walk_at "callWith ref") => `(tactic| (k_here; (with_reducible show wpAny _ _ (callWith _ (Value.ref _) _ (backTo _ (starEach (_ :: _) _)) (backToKw _ (keywordEach _ _))) _ _ _); k_dflt (refine' BW.callWith_boundK ?_)))
local macro_rules | `(tactic| walk_at "call ref") => `(tactic| (k_here; (with_reducible show wpAny _ _ (call (Value.ref _) [Value.bytes (List.toArray _) _] (List.zip _ _)) _ _ _); ((first | (with_reducible refine' BW.call_big ?ho ?hl ?_) | (k_dflt (refine' BW.call_big ?ho ?hl ?_))); k_dflt ((case ho => first | exact KFB.at_of (by k_asm) (by k_mem) | exact KFB.at_of (by assumption) (by news_mem)); (case hl => walk_at "M len"))); intro _ _))
local macro_rules | `(tactic| walk_at "call ref") => `(tactic| (k_here; (with_reducible show wpAny _ _ (call (Value.ref 672) [Value.int _ _] _) _ _ _); k_dflt (refine' use0 (s_y_of _ _ _ ?hx) ?HB ?B ?D ?F ?N ?hA ?hf ?hk ?hh ?hdp ?hun ?_ ?_; (case hx => assumption)); k_dflt (walk_at "M use"; (intro v' h' tk' hv' F' N'); obtain ⟨on', _, hv'⟩ := hv'; subst hv'; rotate_left 1; walk_at "M fly"; rotate_right 1)))
local macro_rules | `(tactic| walk_at "subscriptTail") => `(tactic| (k_here; (with_reducible show wpAny _ _ (subscriptTail _ (Expr.Slice _ _ none _) (Value.bytes (List.toArray _) _) (Value.ref _)) _ _ _); (with_reducible rename Fr _ _ _ _ => F'); (with_reducible rename News _ _ _ _ => N'); ((first | (with_reducible refine' BX.slice (s := ⟨_, _, _, _, _⟩) F' N' ?l ?u ?z ?_ ?hs ?ht) | (k_dflt (refine' BX.slice (s := ⟨_, _, _, _, _⟩) F' N' ?l ?u ?z ?_ ?hs ?ht))); k_dflt ((case l => constructor); (case u => constructor); (case z => walk_at "M len"); (case hs => with_unfolding_all rfl); (case ht => (intro _; with_unfolding_all rfl)))); intro _ _ _ F' N'; (try simp only [Option.elim, KBc.clip_lit, clipAt_nat, List.drop_zero, Nat.sub_zero]); (try simp (discharger := decide) only [clip1, slc, slcE, slc0, Int.reduceToNat, Nat.reduceSub])))
local macro_rules | `(tactic| walk_at "call ref") => `(tactic| (k_here; (with_reducible show wpAny _ _ (call (Value.ref 730) [Value.bytes (List.toArray _) _] _) _ _ _); k_dflt (refine' useC (s_is_p2pk _ _ _ ?hx) ?HB ?B ?D ?F ?N ?T ?hA ?hf ?hk ?hh ?hdp ?hun ?_ (fun _ _ _ _ _ x => x.elim); (case hx => walk_at "M len")); k_dflt (walk_at "M use"; (case T => first | assumption | exact KtsTurn.refl); (intro v' h' tk' gU hv' TU F' N' BU XU TopU DU); subst hv')))
local macro_rules | `(tactic| walk_at "call ref") => `(tactic| (k_here; (with_reducible show wpAny _ _ (call (Value.ref 744) [Value.int _ _] _) _ _ _); k_dflt (refine' use0n (s_size _ _ _) ?HB ?B ?D ?F ?N ?hA ?hf ?hk ?hh ?hdp ?hun ?_); k_dflt (walk_at "M use0")))
local macro_rules | `(tactic| walk_at "call ref") => `(tactic| (k_here; (with_reducible show wpAny _ _ (call (Value.ref 751) [Value.int _ _, Value.bytes (List.toArray _) _] _) _ _ _); k_dflt (refine' useC (s_dec _ _ _ _ _ ?hx1 ?hx2 ?hx) ?HB ?B ?D ?F ?N ?T ?hA ?hf ?hk ?hh ?hdp ?hun ?_ ?_; (case hx1 => omega); (case hx2 => omega); (case hx => walk_at "M len")); k_dflt (walk_at "M use"; (case T => first | assumption | exact KtsTurn.refl); (intro v' h' tk' gU hv' TU F' N' BU XU TopU DU); (obtain ⟨dr, dt, hdc, hv'⟩ := hv'; subst hv'); rotate_left 1; walk_at "M fly"; rotate_right 1)))
local macro_rules | `(tactic| walk_at "M catch") => `(tactic| (refine' catch0 ?HB ?B ?D ?F ?N ?T ?fl ?ex (fun _ X => exc44 X) (fun _ X => exc44 X) ?hbase ?hb ?_ ?hk ?hx ?hd ?hE; (case fl => k_asm); (case HB => assumption); (case B => k_asm); (case D => k_asm); (case F => k_asm); (case N => k_asm); (case T => first | assumption | exact KtsTurn.refl); (case ex => k_is); (case hbase => decide); (case hb => decide); (case hk => rfl); (case hx => rfl); (case hd => decide); (case hE => first | passes_own | with_unfolding_all passes_own); intro hC gC TC FC NC BC XC TopC DC))
local macro_rules | `(tactic| walk_at "call ref") => `(tactic| (k_here; (with_reducible show wpAny _ _ (call (Value.ref 709) [Value.ref _, Value.int _ _] _) _ _ _); k_dflt (refine' useIO (s_parse _ _ _ _ _ 0 ⟨_, _, _, _⟩ _ _ ?n1 ?n2 ?n3 ?n4) ?HB ?B ?D ?F ?N ?h1 ?h2 ?hA ?hf ?hk ?hh ?hdp ?hun ?_ ?_); k_dflt (walk_at "M useIO"); k_dflt ((case n1 => omega); (case n2 => omega); (case n3 => omega); (case n4 => omega)); k_dflt (walk_at "M backIO"; obtain ⟨nS, rS, tS, _, _, hrS, hv', hp'⟩ := hv'; subst hv'; subst hp'; rotate_left 1; walk_at "M flyIO"; rotate_right 1)))
local macro_rules | `(tactic| walk_at "exec While Name") => `(tactic| (refine hold ?_))
local macro_rules | `(tactic| walk_at "M dec") => `(tactic| (first | omega | ((simp only [decide_eq_true_eq, decide_eq_false_iff_not, beq_iff_eq, bne_iff_ne, Bool.not_eq_true', Bool.not_eq_false', Bool.and_eq_true, Bool.not_eq_true]); omega)))
local macro_rules | `(tactic| walk_at "ite") => `(tactic| (k_here; k_openite; first
  | (refine ite_pos (by with_reducible assumption) ?_) | (refine ite_neg (by with_reducible assumption) ?_) | (refine ite_isFalse (by with_reducible assumption) ?_)
  | (refine' ite_pos ?hc ?_; (case hc => walk_at "M dec")) | (refine' ite_neg ?hc ?_; (case hc => walk_at "M dec"))
  | (refine' ite_own (fun hq' => ?_) (fun hq' => ?_) <;> (try simp only [decide_eq_true_eq, decide_eq_false_iff_not, beq_iff_eq, bne_iff_ne, Bool.not_eq_true', Bool.not_eq_false', Bool.and_eq_true, ne_eq, Bool.not_eq_true] at hq'))))
structure SkSt where
  sz : Int
  ts : Tok
  p : Nat
  oc : Option Value
  t1 : Tok
  t2 : Tok
  t3 : Tok
  c : Nat
def parseS (w : List UInt8) : Option (List UInt8) :=
  match rd (2 ^ 32) 0 w with
  | none => none
  | some (n, rest) =>
    if n < 6 then
      if (if n < 2 then 20 else 32) ≤ rest.length then some ((decS (n : Nat) (rest.take (if n < 2 then 20 else 32))).getD []) else none
    else if n - 6 ≤ rest.length then (if n - 6 ≤ 10000 then some (rest.take (n - 6)) else some [106]) else none
theorem s_parse_script (W : Wd) (b : List UInt8) (tb : Tok) (hb : b.length ≤ 100000) : SpecG W 320 1200 765 ⟨[.bytes b.toArray tb], []⟩
    (fun v => ∃ r t, parseS b = some r ∧ v = .bytes r.toArray t) (fun C => C = .ref 44 ∧ parseS b = none) := by
  intro base l s R HB S hret hraise
  refine' enterG (binds := [(PySem.Str.ofString "stream", .bytes b.toArray tb)]) HB S ?k6 ?k7 ?k8 ?k9 ?kB ?_ ?c2 ?c3 ?c4 ?c5
  walk_at "M enter"
  refine wpG_execs_cons (wpG_Assign_Name ?_ rfl)
  rename Fr _ _ _ _ => F5
  refine' callNameG (f := 623) F5 ?X ?T ?ex ?hkp ?_ rfl rfl (by decide) rfl rfl
  (case X => k_asm); (case T => exact topRead_of (by assumption)); (case ex => k_is); (case hkp => k_is)
  k_steps
  rename Fr _ _ _ _ => F6
  have S9 := site_at s B' D' F6
  refine' wpG_call (codeG_le (A' := LV 340 1400 (_ :: l)) ?hh ?hd ?hf ?hg ?hu (s_bytesio W b tb hb base _ _ _ HB ?S ?_))
  case hf => exact rfl
  case hh => exact rfl
  case hg => exact rfl
  case hd => exact Nat.le_of_ble_eq_true rfl
  case hu => exact Nat.le_of_ble_eq_true rfl
  case S => exact S9 _ rfl rfl
  intro io D B ⟨t1, t2, t3, c⟩ h9 tk9 keep9 hq9 h1 h2
  have F7 : Fr s.heap L' h9 _ := F6.keeps keep9
  have N7 : News s.heap L' h9 (ioN W.w io D B b ((0 : Nat) : Int) ⟨t1, t2, t3, c⟩) := fun q hq => by
    obtain ⟨a1, a2⟩ := hq9 q hq
    refine ⟨a1, ?_, ?_⟩
    · intro e
      obtain ⟨oL, es, ep, hLo, _⟩ := F6.ns
      rw [e, hLo] at a2; cases a2
    · cases z : s.heap.get? q.1 with
      | none => rfl
      | some o => rw [F6.keep _ _ z] at a2; cases a2
  dsimp only [ioN, ioDict, ioBuf] at N7
  clear F6 hq9 S9
  refine wpG_of ?_
  k_steps
  refine wpG_of ?_
  k_steps
  · rename News gU _ _ _ => N9
    rename Fr gU _ _ _ => F9
    have hr : rd (2 ^ 32) 0 b = some (nS, rS) := hrS
    obtain ⟨hs1, hs2⟩ := rd_suffix _ _ _ _ _ hr
    have e1 : (if (nS : Int) < 2 then (20 : Int) else 32).toNat = if nS < 2 then 20 else 32 := by split <;> (split <;> first | rfl | omega)
    refine hret _ _ _ ⟨dr, dt, ?_, rfl⟩ (Same.of_turn TU (Fr.keep F9))
    unfold parseS
    rw [hr]
    show (if nS < 6 then (if (if nS < 2 then 20 else 32) ≤ rS.length then some ((decS (nS : Nat) (rS.take (if nS < 2 then 20 else 32))).getD []) else none) else _) = _
    rw [e1] at hq' hdc
    rw [← hs1] at hdc
    rw [if_pos (by omega), if_pos (by omega), hdc]
    rfl
  · have hr : rd (2 ^ 32) 0 b = some (nS, rS) := hrS
    obtain ⟨hs1, hs2⟩ := rd_suffix _ _ _ _ _ hr
    have e1 : (if (nS : Int) < 2 then (20 : Int) else 32).toNat = if nS < 2 then 20 else 32 := by split <;> (split <;> first | rfl | omega)
    walk_at "M catch"
    k_steps
    refine hret _ _ _ ⟨[], _, ?_, rfl⟩ (Same.of_turn TC (Fr.keep (by k_asm)))
    unfold parseS
    rw [hr]
    show (if nS < 6 then (if (if nS < 2 then 20 else 32) ≤ rS.length then some ((decS (nS : Nat) (rS.take (if nS < 2 then 20 else 32))).getD []) else none) else _) = _
    rw [e1] at hq' hp'
    rw [← hs1] at hp'
    rw [if_pos (by omega), if_pos (by omega), hp']
    rfl
  · have hr : rd (2 ^ 32) 0 b = some (nS, rS) := hrS
    obtain ⟨hs1, hs2⟩ := rd_suffix _ _ _ _ _ hr
    have e1 : (if (nS : Int) < 2 then (20 : Int) else 32).toNat = if nS < 2 then 20 else 32 := by split <;> (split <;> first | rfl | omega)
    refine hraise _ _ _ _ _ ⟨rfl, ?_⟩ (by assumption)
    unfold parseS
    rw [hr]
    show (if nS < 6 then (if (if nS < 2 then 20 else 32) ≤ rS.length then some ((decS (nS : Nat) (rS.take (if nS < 2 then 20 else 32))).getD []) else none) else _) = _
    rw [e1] at hp'
    rw [if_pos (by omega), if_neg (by omega)]
  · have hr : rd (2 ^ 32) 0 b = some (nS, rS) := hrS
    obtain ⟨hs1, hs2⟩ := rd_suffix _ _ _ _ _ hr
    rename Fr _ _ _ _ => F9
    have e1 : ((nS : Int) - 6).toNat = nS - 6 := by omega
    refine hret _ _ _ ⟨_, _, ?_, rfl⟩ (Same.of_keeps (Fr.keep F9))
    unfold parseS
    rw [hr]
    show (if nS < 6 then _ else (if nS - 6 ≤ rS.length then (if nS - 6 ≤ 10000 then some (rS.take (nS - 6)) else some [106]) else none)) = _
    rw [e1, ← hs1]
    rw [if_neg (by omega), if_pos (by omega), if_pos (by omega)]
  · have hr : rd (2 ^ 32) 0 b = some (nS, rS) := hrS
    obtain ⟨hs1, hs2⟩ := rd_suffix _ _ _ _ _ hr
    refine hraise _ _ _ _ _ ⟨rfl, ?_⟩ (by assumption)
    unfold parseS
    rw [hr]
    show (if nS < 6 then _ else (if nS - 6 ≤ rS.length then (if nS - 6 ≤ 10000 then some (rS.take (nS - 6)) else some [106]) else none)) = _
    rw [if_neg (by omega), if_neg (by omega)]
  rotate_left 1
  · refine hraise _ _ _ _ _ ⟨rfl, ?_⟩ (by assumption)
    unfold parseS
    cases hr : rd (2 ^ 32) 0 b with
    | none => rfl
    | some x => exact absurd ⟨by decide, by decide, by show (rd (2 ^ 32) 0 b).isSome = true; rw [hr]; rfl⟩ hp'
  have hr : rd (2 ^ 32) 0 b = some (nS, rS) := hrS
  obtain ⟨hs1, hs2⟩ := rd_suffix _ _ _ _ _ hr
  have hlt := rd_lt _ _ _ _ _ hr
  unfold Hold
  rename Fr _ _ _ _ => F5
  rename News _ _ _ _ => N5
  refine' while_own (σ := SkSt) (fun x => ∃ sz : Nat, x.sz = sz ∧ x.p + sz = b.length - rS.length + (nS - 6) ∧ x.p ≤ b.length ∧ sz < 2 ^ 32)
    (fun x y => if y = PySem.Str.ofString "size" then some (.int x.sz x.ts) else if y = PySem.Str.ofString "stream" then some (.ref io) else if y = PySem.Str.ofString "chunk" then x.oc else none)
    (fun x => ioN W.w io D B b (x.p : Int) ⟨x.t1, x.t2, x.t3, x.c⟩) (fun x => x.sz.toNat) ⟨_, _, _, none, _, _, _, _⟩ F5 ?N ?em ?J ?turn (by first | passes_own | with_unfolding_all passes_own)
  case em => exact em3 (by with_unfolding_all rfl) (by with_unfolding_all rfl) (by with_unfolding_all rfl) (fun y h1 h2 h3 => by simp only [lk1, if_neg h1, if_neg h2, if_neg h3])
  case N => exact N5
  case J => exact ⟨nS - 6, by show (nS : Int) - 6 = _; omega, by show b.length - rS.length + (nS - 6) = _; rfl, by show b.length - rS.length ≤ b.length; omega, by omega⟩
  case turn =>
    rintro ⟨szi, ts, q, oc, u1, u2, u3, uc⟩ h₁ tk₁ ⟨sz, hm, htot, hq, hsz⟩ F' N'
    dsimp only at hm htot hq F'
    dsimp only [ioN, ioDict, ioBuf] at N'
    subst hm
    clear F5 N5
    k_steps
    · rename Fr _ _ _ _ => F9
      rename News _ _ _ _ => N9
      have hb0 : ¬ (sz : Int) = 0 := by simpa using hb
      unfold Hold
      refine' wpost_next (x' := ⟨_, _, _, _, _, _, _, _⟩) F9 ?N2 ?em2 ?hl2 ?J2
      case N2 => exact N9
      case em2 => exact em3 (by with_unfolding_all rfl) (by with_unfolding_all rfl) (by with_unfolding_all rfl) (fun y h1 h2 h3 => by simp only [if_neg h1, if_neg h2, if_neg h3])
      case hl2 => show ((sz : Int) - if 65536 < (sz : Int) then 65536 else (sz : Int)).toNat < ((sz : Int)).toNat; split <;> omega
      case J2 =>
        refine ⟨((sz : Int) - if 65536 < (sz : Int) then 65536 else (sz : Int)).toNat, ?_, ?_, ?_, ?_⟩
        · show ((sz : Int) - if 65536 < (sz : Int) then 65536 else (sz : Int)) = _; split <;> omega
        · show q + (if 65536 < (sz : Int) then 65536 else (sz : Int)).toNat + ((sz : Int) - if 65536 < (sz : Int) then 65536 else (sz : Int)).toNat = _; split <;> omega
        · show q + (if 65536 < (sz : Int) then 65536 else (sz : Int)).toNat ≤ b.length; exact hq'
        · split <;> omega
    · refine hraise _ _ _ _ _ ⟨rfl, ?_⟩ (by assumption)
      unfold parseS
      rw [hr]
      show (if nS < 6 then _ else (if nS - 6 ≤ rS.length then (if nS - 6 ≤ 10000 then some (rS.take (nS - 6)) else some [106]) else none)) = _
      have h9 : sz ≤ b.length - q → False := fun h9 => hp' (by split <;> omega)
      rw [if_neg (by omega), if_neg (by omega)]
    · rename Fr _ _ _ _ => F9
      have hb0 : (sz : Int) = 0 := by simpa using hb
      refine hret _ _ _ ⟨[106], _, ?_, rfl⟩ (Same.of_keeps (Fr.keep F9))
      unfold parseS
      rw [hr]
      show (if nS < 6 then _ else (if nS - 6 ≤ rS.length then (if nS - 6 ≤ 10000 then some (rS.take (nS - 6)) else some [106]) else none)) = _
      rw [if_neg (by omega), if_pos (by omega), if_neg (by omega)]
end
-- X9
section
local macro_rules | `(tactic| walk_at "M dec") => `(tactic| (first | omega | ((simp only [decide_eq_true_eq, decide_eq_false_iff_not, beq_iff_eq, bne_iff_ne, Bool.not_eq_true', Bool.not_eq_false', Bool.and_eq_true, Bool.not_eq_true]); omega)))
local macro_rules | `(tactic| walk_at "ite") => `(tactic| (k_here; k_openite; first
  | (refine ite_pos (by with_reducible assumption) ?_) | (refine ite_neg (by with_reducible assumption) ?_) | (refine ite_isFalse (by with_reducible assumption) ?_)
  | (refine' ite_pos ?hc ?_; (case hc => walk_at "M dec")) | (refine' ite_neg ?hc ?_; (case hc => walk_at "M dec"))
  | (refine' ite_own (fun hq' => ?_) (fun hq' => ?_) <;> (try simp only [decide_eq_true_eq, decide_eq_false_iff_not, beq_iff_eq, bne_iff_ne, Bool.not_eq_true', Bool.not_eq_false', Bool.and_eq_true, ne_eq, Bool.not_eq_true] at hq'))))
theorem s_script_read (W : Wd) (b : List UInt8) (tb : Tok) (hb : b.length ≤ 100000) : SpecG W 315 1150 823 ⟨[.bytes b.toArray tb], []⟩ (fun v => OptB (parseS b) v) (fun _ => False) := by
  intro base l s R HB S hret hraise
  refine' enterG (binds := [(PySem.Str.ofString "wire", .bytes b.toArray tb)]) HB S ?k6 ?k7 ?k8 ?k9 ?kB ?_ ?c2 ?c3 ?c4 ?c5
  walk_at "M enter"
  refine wpG_execs_cons (wpG_Try ?_)
  refine wpG_execs_cons (wpG_Return ?_)
  refine' callNameG (f := 765) F' ?X ?T ?ex ?hkp ?_ rfl rfl (by decide) rfl rfl
  (case X => k_asm); (case T => exact topRead_of (by assumption)); (case ex => k_is); (case hkp => k_is)
  k_steps
  refine' useG (s_parse_script W b tb hb) HB B' D' (by assumption) (by assumption) KtsTurn.refl rfl rfl rfl rfl (Nat.le_of_ble_eq_true rfl) (Nat.le_of_ble_eq_true rfl) ?_ ?_
  · intro v h2 tk2 g2 hv T2 F2 N2 B2 X2 Top2 D2
    obtain ⟨r, t2, e, rfl⟩ := hv
    exact hret _ _ _ (by rw [e]; exact ⟨_, rfl⟩) (Same.of_turn T2 F2.keep)
  · intro e' C' a' h' tk' hx' fl'
    obtain ⟨rfl, hp'⟩ := hx'
    walk_at "M catch"
    k_steps
    exact hret _ _ _ (by rw [hp']; rfl) (Same.of_turn TC (Fr.keep (by k_asm)))
end
-- XA
section
local macro_rules | `(tactic| walk_at "pyIter ref") => `(tactic| (refine hold ?_))
local macro_rules | `(tactic| walk_at "call ref") => `(tactic| (k_here; (with_reducible show wpAny _ _ (call (Value.ref 837) [Value.int (Nat.cast _) _] _) _ _ _); k_dflt (refine' use0n (s_law_short _ _ _ ?hx) ?HB ?B ?D ?F ?N ?hA ?hf ?hk ?hh ?hdp ?hun ?_; (case hx => omega)); k_dflt (walk_at "M use0")))
local macro_rules | `(tactic| walk_at "call ref") => `(tactic| (k_here; (with_reducible show wpAny _ _ (call (Value.ref 844) [Value.int _ _] _) _ _ _); k_dflt (refine' use0n (s_law_open _ _ _ ?hx) ?HB ?B ?D ?F ?N ?hA ?hf ?hk ?hh ?hdp ?hun ?_; (case hx => omega)); k_dflt (walk_at "M use0")))
local macro_rules | `(tactic| walk_at "call ref") => `(tactic| (k_here; (with_reducible show wpAny _ _ (call (Value.ref 809) [Value.int _ _] _) _ _ _); k_dflt (refine' useC (s_amount_short _ _ _ ?hx1 ?hx2) ?HB ?B ?D ?F ?N ?T ?hA ?hf ?hk ?hh ?hdp ?hun ?_ (fun _ _ _ _ _ x => x.elim); (case hx1 => omega); (case hx2 => omega)); k_dflt (walk_at "M use"; (case T => first | assumption | exact KtsTurn.refl); (intro v' h' tk' gU hv' TU F' N' BU XU TopU DU); (refine hold ?_))))
local macro_rules | `(tactic| walk_at "call ref") => `(tactic| (k_here; (with_reducible show wpAny _ _ (call (Value.ref 816) [Value.int _ _] _) _ _ _); k_dflt (refine' useC (s_amount_open _ _ _ ?hx1 ?hx2) ?HB ?B ?D ?F ?N ?T ?hA ?hf ?hk ?hh ?hdp ?hun ?_ (fun _ _ _ _ _ x => x.elim); (case hx1 => first | omega | decide); (case hx2 => first | omega | decide)); k_dflt (walk_at "M use"; (case T => first | assumption | exact KtsTurn.refl); (intro v' h' tk' gU hv' TU F' N' BU XU TopU DU); (refine hold ?_))))
local macro_rules | `(tactic| walk_at "storeName") => `(tactic| (k_here; (first | (with_reducible show wpAny _ _ (storeName _ (PySem.Str.ofString "amount") (Value.int _ _)) _ _ _) | (with_reducible show wpAny _ _ (storeName _ (PySem.Str.ofString "wide") (Value.int _ _)) _ _ _)); (fail_if_success (with_reducible show wpAny _ _ (storeName _ _ (Value.int (Nat.cast _) _)) _ _ _)); (refine hold ?_)))
local macro_rules | `(tactic| walk_at "call ref") => `(tactic| (k_here; (with_reducible show wpAny _ _ (call (Value.ref 716) [Value.int (Nat.cast _) _] _) _ _ _); k_dflt (refine' use0 (s_compress _ _ _ (by omega) (by omega)) ?HB ?B ?D ?F ?N ?hA ?hf ?hk ?hh ?hdp ?hun ?_ ?_); k_dflt (walk_at "M use"; (intro v' h' tk' hv' F' N'); (obtain ⟨m9, t9, e9, _, hv'⟩ := hv'; (have e8 := Int.ofNat_inj.mp e9); subst e8; subst hv'); rotate_left 1; walk_at "M fly"; rotate_right 1)))
local macro_rules | `(tactic| walk_at "call ref") => `(tactic| (k_here; (with_reducible show wpAny _ _ (call (Value.ref 723) [Value.int (Nat.cast _) _] _) _ _ _); k_dflt (refine' use0 (s_decompress _ _ _ (by omega) (by omega)) ?HB ?B ?D ?F ?N ?hA ?hf ?hk ?hh ?hdp ?hun ?_ ?_); k_dflt (walk_at "M use"; (intro v' h' tk' hv' F' N'); (obtain ⟨m9, t9, e9, _, hv'⟩ := hv'; (have e8 := Int.ofNat_inj.mp e9); subst e8; subst hv'); rotate_left 1; walk_at "M fly"; rotate_right 1)))
local macro_rules | `(tactic| walk_at "binaryOp Pow int int") => `(tactic| (k_here; (with_reducible show wpAny _ _ (binaryOp Operator.Pow (Value.int _ _) (Value.int _ _)) _ _ _); ((first | (with_reducible refine' pow_int_small ?kb1 ?kb2 ?kb3 ?_) | (k_dflt (refine' pow_int_small ?kb1 ?kb2 ?kb3 ?_))); k_dflt ((case kb1 => first | decide | omega); (case kb2 => first | decide | omega); (case kb3 => decide)))))
local macro_rules | `(tactic| walk_at "M dec") => `(tactic| (first | omega | ((simp only [decide_eq_true_eq, decide_eq_false_iff_not, beq_iff_eq, bne_iff_ne, Bool.not_eq_true', Bool.not_eq_false', Bool.and_eq_true, Bool.not_eq_true]); omega)))
local macro_rules | `(tactic| walk_at "ite") => `(tactic| (k_here; k_openite; first
  | (refine ite_pos (by with_reducible assumption) ?_) | (refine ite_neg (by with_reducible assumption) ?_) | (refine ite_isFalse (by with_reducible assumption) ?_)
  | (refine' ite_pos ?hc ?_; (case hc => walk_at "M dec")) | (refine' ite_neg ?hc ?_; (case hc => walk_at "M dec"))
  | (refine' ite_own (fun hq' => ?_) (fun hq' => ?_) <;> (try simp only [decide_eq_true_eq, decide_eq_false_iff_not, beq_iff_eq, bne_iff_ne, Bool.not_eq_true', Bool.not_eq_false', Bool.and_eq_true, ne_eq, Bool.not_eq_true] at hq'))))
theorem News.sub {g h : Heap} {L : Addr} {n1 n2 : List (Addr × Obj)} (N : News g L h n1) (hs : ∀ p ∈ n2, p ∈ n1) : News g L h n2 := fun p hp => N p (hs p hp)
theorem ints_mem {vs : List Value} {ns : List Int} (h : IntsAre vs ns) : ∀ v ∈ vs, ∃ z t, v = Value.int z t := by
  induction h with
  | nil => intro v hv; cases hv
  | cons n t _ ih =>
    intro v hv
    rcases List.mem_cons.mp hv with rfl | hv
    · exact ⟨n, t, rfl⟩
    · exact ih v hv
theorem ints_at {its : Array Value} {ns : List Int} {i : Nat} {v : Value} (h : IntsAre its.toList ns) (e : its[i]? = some v) : ∃ z t, v = Value.int z t :=
  ints_mem h v (by
    obtain ⟨hi, rfl⟩ := Array.getElem?_eq_some_iff.mp e
    exact Array.getElem_mem_toList hi)
theorem fmb (a m : Int) (hm : 0 < m) : 0 ≤ a.fmod m ∧ a.fmod m < m := by
  rw [Int.fmod_eq_emod_of_nonneg _ (by omega)]
  exact ⟨Int.emod_nonneg _ (by omega), Int.emod_lt_of_pos _ hm⟩
theorem Fr.one {g h : Heap} {L : Addr} {M : PySem.Str → Option Value} {a : PySem.Str} {v : Value} (F : Fr g L h M) (e : M a = some v) : Fr g L h (fun y => if y = a then some v else M y) := Fr.to F (fun y => by
  by_cases hy : y = a
  · subst hy; rw [if_pos rfl, e]
  · rw [if_neg hy])
theorem amt2 {x e : Int} (hx : 0 ≤ x ∧ x < 1000) (he : 0 ≤ e ∧ e < 13) : ∃ a : Nat, x * 10 ^ e.toNat = (a : Int) ∧ a ≤ 2100000000000000 := by
  obtain ⟨X, rfl⟩ := Int.eq_ofNat_of_zero_le hx.1
  refine ⟨X * 10 ^ e.toNat, by rw [Int.natCast_mul, Int.natCast_pow]; rfl, ?_⟩
  have h1 : 10 ^ e.toNat ≤ 10 ^ 12 := Nat.pow_le_pow_right (by decide) (by omega)
  have h2 : X * 10 ^ e.toNat ≤ 999 * 10 ^ 12 := Nat.mul_le_mul (by omega) h1
  omega
def oneL (a : PySem.Str) (v : Value) (m : PySem.Str → Option Value) : PySem.Str → Option Value := fun y => if y = a then some v else m y
theorem s_amounts (W : Wd) (Ls : Addr) (its : Array Value) (ns : List Int) (hI : IntsAre its.toList ns) (hz : its.size ≤ 63) (base : Heap) (l : List Env) (s : Shared) (R : Result → Shared → Prop) (HB : Base W base) (S : Site base l s.heap) (hl : s.heap.IsList Ls its)
    (hret : ∀ h' tk', Same (fr l) s.heap h' → R (.ok (.ret (.bool true))) { s with heap := h', toks := tk' }) :
    codeG (model W.prog W.w) (LV 310 1100 l) (.call (.ref 868) ⟨[.ref Ls], []⟩) R s := by
  refine' enterG (binds := [(PySem.Str.ofString "script", .ref Ls)]) HB S ?k6 ?k7 ?k8 ?k9 ?kB ?_ ?c2 ?c3 ?c4 ?c5
  walk_at "M enter"
  refine wpG_execs_cons (wpG_For ?_ (by with_unfolding_all (intro _; rfl)))
  k_steps
  unfold Hold
  rename Fr _ _ _ _ => F3
  rename News _ _ _ _ => N3
  dsimp only at N3 ⊢
  generalize h'.objs.size + 1 = D at N3 ⊢
  have hI6 : IntsAre (slicePick its none (some 6) none).toList (ns.take 6) := by
    have h := kmk_upto (vs := its.toList) (y := 6) hI (by decide)
    rw [Array.toArray_toList] at h
    exact h
  refine wpAny_pyIter_list (s := ⟨_, _, _, _, _⟩) (items := slicePick its none (some 6) none) ⟨_, (N3 _ (.head _)).1, rfl, 0, rfl⟩ ?_
  have N2 := News.push F3 N3 { cls := .type "list_iterator", data := .fields #[.ref D, .int 0 0] }
  have F2 := Fr.push F3 { cls := .type "list_iterator", data := .fields #[.ref D, .int 0 0] }
  refine forListG (W := W) (l := l) (A₀ := LV 310 1100 l) (base := base) (g₀ := s.heap) (s := s) (mf := oneL (PySem.Str.ofString "script") (.ref Ls)) (J := fun _ _ => True) (nf := fun _ => []) rfl ⟨rfl, rfl⟩ ?hap ?hbody ?hdone (by with_unfolding_all (intro _; rfl)) (m := fun _ => none) ⟨KtsTurn.refl, B', X', T', D'⟩ trivial ?F N2 ⟨rfl, rfl⟩
  case F => exact Fr.to F2 (fun y => lk1)
  case hap => intro _ p hp; rw [List.mem_singleton] at hp; subst hp; exact Nat.ne_of_lt (Heap.lt_size (N3 _ (.head _)).1)
  case hbody =>
    clear F2 N2 F3 N3 F' N' B' X' T' D'
    intro i v o g m h tk hi hv ho ⟨TU, BU, XU, TopU, DU⟩ _ F' N'
    obtain ⟨z, tz, rfl⟩ := ints_at hI6 hv
    unfold oneL at F'
    have f13 := fmb (z.fdiv 1000) 13 (by decide)
    have f1000 := fmb z 1000 (by decide)
    have f9 := fmb z 9 (by decide)
    have fA := fmb z 2100000000000001 (by decide)
    have fB := fmb z 21000001 (by decide)
    refine wpG_of ?_
    k_steps
    refine wpG_of ?_
    k_steps
    all_goals unfold Hold
    all_goals
      first
      | obtain ⟨a, ea, hle⟩ : ∃ a : Nat, z.fmod 2100000000000001 = (a : Int) ∧ a ≤ 2100000000000000 := ⟨(z.fmod 2100000000000001).toNat, by omega, by omega⟩; rw [ea]
      | obtain ⟨a, ea, hle⟩ : ∃ a : Nat, z.fmod 21000001 * 100000000 = (a : Int) ∧ a ≤ 2100000000000000 := ⟨(z.fmod 21000001 * 100000000).toNat, by omega, by omega⟩; rw [ea]
      | obtain ⟨a, ea, hle⟩ := amt2 f1000 f13; rw [ea]
      | obtain ⟨a, ea, hle⟩ : ∃ a : Nat, 2100000000000000 - z.fmod 9 = (a : Int) ∧ a ≤ 2100000000000000 := ⟨(2100000000000000 - z.fmod 9).toNat, by omega, by omega⟩; rw [ea]
    all_goals
      clear ea
      have hsa := shortA_le a
      have hoa := openA_shortA a hle
      k_steps
      unfold Hold
      obtain ⟨wd, ew, hwd⟩ : ∃ wd : Nat, z.fmod (2 ^ Int.toNat 64) = (wd : Int) ∧ wd < 2 ^ 64 := by
        have f := fmb z (2 ^ 64) (by decide)
        exact ⟨(z.fmod (2 ^ 64)).toNat, by show z.fmod (2 ^ 64) = _; omega, by omega⟩
      rw [ew]
      clear ew
      k_steps
      unfold Hold
      have hv9 := hv'.2 (by omega)
      subst hv9
      k_steps
      exact ⟨gU, _, _, _, rfl, ⟨TU, BU, XU, TopU, DU⟩, trivial, Fr.one F' (by with_unfolding_all rfl), News.sub N' (fun p hp => .tail _ hp)⟩
  case hdone =>
    clear F2 N2 F3 N3 F' N' B' X' T' D'
    intro g m h tk ⟨TU, BU, XU, TopU, DU⟩ _ F' N'
    unfold oneL at F'
    refine wpG_of ?_
    k_steps
    unfold Hold
    have hv9 := hv'.2 (by omega)
    subst hv9
    k_steps
    unfold Hold
    have hv9 := hv'.2 (by decide)
    subst hv9
    k_steps
    unfold Hold
    have hv9 := hv'.2 (by omega)
    subst hv9
    k_steps
    exact hret _ _ (Same.of_turn TU (Fr.keep F'))
end
-- XB
section
local macro_rules | `(tactic| walk_at "pyIter ref") => `(tactic| (refine hold ?_))
local macro_rules | `(tactic| walk_at "binaryOp Pow int int") => `(tactic| (k_here; (with_reducible show wpAny _ _ (binaryOp Operator.Pow (Value.int _ _) (Value.int _ _)) _ _ _); ((first | (with_reducible refine' pow_int_small ?kb1 ?kb2 ?kb3 ?_) | (k_dflt (refine' pow_int_small ?kb1 ?kb2 ?kb3 ?_))); k_dflt ((case kb1 => first | decide | omega); (case kb2 => first | decide | omega); (case kb3 => decide)))))
local macro_rules | `(tactic| walk_at "M dec") => `(tactic| (first | omega | ((simp only [decide_eq_true_eq, decide_eq_false_iff_not, beq_iff_eq, bne_iff_ne, Bool.not_eq_true', Bool.not_eq_false', Bool.and_eq_true, Bool.not_eq_true]); omega)))
local macro_rules | `(tactic| walk_at "ite") => `(tactic| (k_here; k_openite; first
  | (refine ite_pos (by with_reducible assumption) ?_) | (refine ite_neg (by with_reducible assumption) ?_) | (refine ite_isFalse (by with_reducible assumption) ?_)
  | (refine' ite_pos ?hc ?_; (case hc => walk_at "M dec")) | (refine' ite_neg ?hc ?_; (case hc => walk_at "M dec"))
  | (refine' ite_own (fun hq' => ?_) (fun hq' => ?_) <;> (try simp only [decide_eq_true_eq, decide_eq_false_iff_not, beq_iff_eq, bne_iff_ne, Bool.not_eq_true', Bool.not_eq_false', Bool.and_eq_true, ne_eq, Bool.not_eq_true] at hq'))))
def SpecGS (W : Wd) (d u : Nat) (f : Addr) (args : Args) (P : Heap → Value → Heap → Prop) : Prop :=
  ∀ (base : Heap) (l : List Env) (s : Shared) (R : Result → Shared → Prop), Base W base → Site base l s.heap →
    (∀ v h' tk', P s.heap v h' → Same (fr l) s.heap h' → R (.ok (.ret v)) { s with heap := h', toks := tk' }) →
    codeG (model W.prog W.w) (LV d u l) (.call (.ref f) args) R s
section
variable {W : Wd} {d u : Nat} {l : List Env} {base g g₀ : Heap} {A A₀ : Around} {E : Value → Shared → Prop} {s : Shared} {L : Addr} {m : PySem.Str → Option Value} {news : List (Addr × Obj)} {env : Env} {f : Addr} {vs : List Value} {kw : List (PySem.Str × Value)} {P : Heap → Value → Heap → Prop} {Q : Value → Shared → Prop}
theorem useGS (C : SpecGS W d u f ⟨vs, kw⟩ P) (HB : Base W base) (B : Below A₀ base l g) (D : KtsDicts (fr l) g) (F : Fr g L s.heap m) (N : News g L s.heap news) (T : KtsTurn (fr l) g₀ g) (hA : A.frames = some (env :: l)) (hf : env.frame = some L) (hk : env.scope.kind = .function)
    (hh : A.handled = none) (hdp : A.depth ≤ d) (hun : A.units ≤ u)
    (hret : ∀ v h' tk' g', P s.heap v h' → KtsTurn (fr l) g g' → Grd W l A₀ base g₀ g' → Fr g' L h' m → News g' L h' news → Q v { s with heap := h', toks := tk' }) :
    wpG (model W.prog W.w) A (call (.ref f) vs kw) Q E s := by
  refine wpG_call (codeG_le hh hdp hA.symm rfl hun (C base (env :: l) s _ HB (site_of B D F hf hk) (fun v h' tk' hp k => ?_)))
  obtain ⟨g', T', F', N', B', D', _⟩ := turned B D F N KtsTurn.refl hf k
  exact hret v h' tk' g' hp T' ⟨T.trans T', B', HB.1.keeps B'.stays, HB.2.keeps B'.stays, D'⟩ F' N'
end
theorem News_turn {g g' h h' : Heap} {fs : List Addr} {L D : Addr} {o : Obj} {m : PySem.Str → Option Value} {news : List (Addr × Obj)} (F : Fr g L h m) (T : KtsTurn fs g g') (N : News g' L h' news) (ho : h'.get? D = some o) (hn : h.get? D = none) : News g' L h' ((D, o) :: news) := fun q hq => by
  rcases List.mem_cons.mp hq with rfl | hq
  · refine ⟨ho, fun e => ?_, T.none_ _ ?_⟩
    · obtain ⟨oL, es, ep, hL, _⟩ := F.ns
      rw [show D = L from e, hL] at hn; cases hn
    · cases z : g.get? D with
      | none => rfl
      | some o2 => rw [F.keep _ _ z] at hn; cases hn
  · exact N q hq
theorem none_back {fs : List Addr} {g g' : Heap} (T : KtsTurn fs g g') {b : Addr} (h : g'.get? b = none) : g.get? b = none := by
  cases z : g.get? b with
  | none => rfl
  | some o => obtain ⟨sl, e⟩ := T.up z; rw [h] at e; cases e
theorem rd_at (mx num : Nat) (b : List UInt8) (i : Nat) (hi : i < b.length) : rd mx num (b.drop i) = (if mx ≤ num * 128 + (b.getD i 0).toNat % 128 then none
    else if (b.getD i 0).toNat < 128 then some (num * 128 + (b.getD i 0).toNat % 128, b.drop (i + 1)) else if mx ≤ num * 128 + (b.getD i 0).toNat % 128 + 1 then none else rd mx (num * 128 + (b.getD i 0).toNat % 128 + 1) (b.drop (i + 1))) := by
  have e : b.drop i = b.getD i 0 :: b.drop (i + 1) := by
    rw [List.drop_eq_getElem_cons hi, List.getD_eq_getElem?_getD, List.getElem?_eq_getElem hi]; rfl
  rw [e, rd]
def readP (mx : Nat) (b : List UInt8) (h : Heap) (v : Value) (h' : Heap) : Prop :=
  (∀ n rest, rd mx 0 b = some (n, rest) → ∃ D t1 t2, v = .ref D ∧ h'.get? D = some (tupObj #[.int (n : Nat) t1, .int ((b.length - rest.length : Nat) : Int) t2]) ∧ h.get? D = none) ∧ (rd mx 0 b = none → v = .none)
theorem iter_range {prog : Program} {w : World} {A : Around} {E : Value → Shared → Prop} {s : Shared} {g : Heap} {L r : Addr} {m : PySem.Str → Option Value} {news : List (Addr × Obj)} {n : Nat} {t u v : Tok} {Q : Value → Shared → Prop} (hn : n ≤ 100000) (hr : IsRange s.heap r 0 (n : Int) 1 t u v) (F : Fr g L s.heap m) (N : News g L s.heap news)
    (h : ∀ it o h', Fr g L h' m → News g L h' ((it, o) :: news) → isRIt 0 n 0 o → (∀ p ∈ news, @LT.lt Nat _ p.1 it) → Q (.ref it) { s with heap := h' }) : wpAny (model prog w) A (pyIter (.ref r)) Q E s := by
  have e : Builtin.Range.rangeSize 0 (n : Int) 1 = (n : Int) := by
    unfold Builtin.Range.rangeSize
    rw [if_pos (by decide)]
    split <;> omega
  refine wpAny_pyIter_range hr (small_one (by omega) (by omega) (by omega) (by omega)) ?_
  rw [e]
  refine h _ _ _ (Fr.push F _) (News.push F N _) ?_ (fun p hp => Heap.lt_size (N p hp).1)
  show _ = _
  rw [show (0 : Int) + ((0 : Nat) : Int) = 0 from rfl, show (n : Int) - ((0 : Nat) : Int) = n from by omega]
structure RdSt where
  num : Int
  tn : Tok
  ok : Option Value
theorem s_law_read (W : Wd) (b : List UInt8) (bits : Int) (t tb : Tok) (h1 : 1 ≤ bits) (h2 : bits ≤ 64) (hb : b.length ≤ 1000) : SpecGS W 390 1900 788 ⟨[.bytes b.toArray tb, .int bits t], []⟩ (readP (2 ^ bits.toNat) b) := by
  intro base l s R HB S hret
  refine' enterG (binds := [(PySem.Str.ofString "octets", .bytes b.toArray tb), (PySem.Str.ofString "bits", .int bits t)]) HB S ?k6 ?k7 ?k8 ?k9 ?kB ?_ ?c2 ?c3 ?c4 ?c5
  walk_at "M enter"
  refine wpG_execs_cons (wpG_of ?_)
  k_steps
  refine wpG_execs_cons (wpG_For ?_ (by with_unfolding_all (intro _; rfl)))
  k_steps
  unfold Hold
  rename IsRange _ _ _ _ _ _ _ _ => hR
  rename Fr _ _ _ _ => F3
  rename News _ _ _ _ => N3
  refine iter_range (s := ⟨_, _, _, _, _⟩) (show b.length ≤ 100000 by omega) hR F3 N3 ?_
  clear F3 N3 hR
  intro it o h9 F2 N2 ho hap
  have hpos : 0 < 2 ^ bits.toNat := Nat.pow_pos (by decide)
  refine forRangeG (W := W) (l := l) (A₀ := LV 390 1900 l) (base := base) (g₀ := s.heap) (s := s) (σ := RdSt) (J := fun i x => ∃ num : Nat, x.num = num ∧ rd (2 ^ bits.toNat) num (b.drop i) = rd (2 ^ bits.toNat) 0 b ∧ num < 2 ^ bits.toNat)
    (mf := fun x y => if y = PySem.Str.ofString "number" then some (.int x.num x.tn) else if y = PySem.Str.ofString "octets" then some (.bytes b.toArray tb) else if y = PySem.Str.ofString "bits" then some (.int bits t) else if y = PySem.Str.ofString "k" then x.ok else none) (nf := fun _ => []) rfl ?hap ?hbody ?hdone (by with_unfolding_all (intro _; rfl)) (m := ⟨0, ?tn0, none⟩) ⟨KtsTurn.refl, B', X', T', D'⟩ ⟨0, rfl, rfl, hpos⟩ ?F N2 ho
  case F => exact Fr.to F2 (em4 (by with_unfolding_all rfl) (by with_unfolding_all rfl) (by with_unfolding_all rfl) (by with_unfolding_all rfl) (fun y h1 h2 h3 h4 => by simp only [lk2, if_neg h1, if_neg h2, if_neg h3]))
  case hap => intro _ p hp; cases hp
  case hbody =>
    clear F2 N2 B' X' T' D' hap ho
    intro i tk0 o g ⟨numi, tn, ok⟩ h tk hi ho ⟨TU, BU, XU, TopU, DU⟩ ⟨num, hm, J₁, hlt⟩ F' N'
    dsimp only at hm F'
    subst hm
    have e0 : (0 + (i : Int)).toNat = i := by omega
    have eM : (2 : Int) ^ bits.toNat = ((2 ^ bits.toNat : Nat) : Int) := by rw [Int.natCast_pow]; rfl
    have f128 : ∀ c : Nat, (c : Int).fmod 128 = ((c % 128 : Nat) : Int) := fun c => by rw [Int.fmod_eq_emod_of_nonneg _ (by decide)]; omega
    have hst := rd_at (2 ^ bits.toNat) num b i hi
    have hM : 2 ^ bits.toNat ≤ 2 ^ 64 := Nat.pow_le_pow_right (by decide) (by omega)
    refine wpG_of ?_
    k_steps
    refine wpG_of ?_
    k_steps
    all_goals (simp only [e0, eM, f128] at *)
    all_goals (generalize hMM : 2 ^ bits.toNat = M at *)
    · rename Fr g _ _ _ => F9
      rw [if_pos (by omega)] at hst
      refine hret _ _ _ ⟨fun n rest h => ?_, fun _ => rfl⟩ (Same.of_turn TU (Fr.keep F9))
      rw [← J₁, hst] at h; cases h
    · rename Fr g _ _ _ => F9
      rename News g _ _ _ => N9
      rw [if_neg (by omega), if_pos (by omega)] at hst
      have nn := new_none N9 (by k_mem)
      refine hret _ _ _ ⟨fun n rest h => ?_, fun h => ?_⟩ (Same.of_turn TU (Fr.keep F9))
      · rw [← J₁, hst] at h; cases h
        have e1 : b.length - (b.drop (i + 1)).length = i + 1 := by rw [List.length_drop]; omega
        have e2 : (0 : Int) + (i : Int) + 1 = ((i + 1 : Nat) : Int) := by omega
        rw [e2] at nn
        rw [e1]
        exact ⟨_, _, _, rfl, nn.1, none_back TU nn.2⟩
      · rw [← J₁, hst] at h; cases h
    · rename Fr g _ _ _ => F9
      rw [if_neg (by omega), if_neg (by omega), if_pos (by omega)] at hst
      refine hret _ _ _ ⟨fun n rest h => ?_, fun _ => rfl⟩ (Same.of_turn TU (Fr.keep F9))
      rw [← J₁, hst] at h; cases h
    · rename Fr g _ _ _ => F9
      rename News g _ _ _ => N9
      rw [if_neg (by omega), if_neg (by omega), if_neg (by omega)] at hst
      exact ⟨g, ⟨_, _, _⟩, _, _, rfl, ⟨TU, BU, XU, TopU, DU⟩, ⟨num * 128 + (b.getD i 0).toNat % 128 + 1, rfl, hst.symm.trans J₁, by omega⟩, Fr.to F9 (em4 (by with_unfolding_all rfl) (by with_unfolding_all rfl) (by with_unfolding_all rfl) (by with_unfolding_all rfl) (fun y h1 h2 h3 h4 => by simp only [if_neg h1, if_neg h2, if_neg h3, if_neg h4])), N9⟩
  case hdone =>
    clear F2 N2 B' X' T' D' hap ho
    intro g ⟨numi, tn, ok⟩ h tk ⟨TU, BU, XU, TopU, DU⟩ ⟨num, hm, J₁, hlt⟩ F' N'
    refine wpG_of ?_
    k_steps
    refine hret _ _ _ ⟨fun n rest h => ?_, fun _ => rfl⟩ (Same.of_turn TU (Fr.keep F'))
    rw [← J₁, List.drop_of_length_le (Nat.le_refl _), rd] at h
    cases h
end
-- XC
section
local macro_rules | `(tactic| walk_at "subscriptTail") => `(tactic| (k_here; (with_reducible show wpAny _ _ (subscriptTail _ (Expr.Slice _ _ none _) (Value.bytes (List.toArray _) _) (Value.ref _)) _ _ _); (with_reducible rename Fr _ _ _ _ => F'); (with_reducible rename News _ _ _ _ => N'); ((first | (with_reducible refine' BX.slice (s := ⟨_, _, _, _, _⟩) F' N' ?slL ?slU ?slZ ?_ ?slS ?slT) | (k_dflt (refine' BX.slice (s := ⟨_, _, _, _, _⟩) F' N' ?slL ?slU ?slZ ?_ ?slS ?slT))); k_dflt ((case slL => constructor); (case slU => constructor); (case slZ => walk_at "M len"); (case slS => with_unfolding_all rfl); (case slT => (intro _; with_unfolding_all rfl)))); intro _ _ _ F' N'; (try simp only [Option.elim, KBc.clip_lit, clipAt_nat, List.drop_zero, Nat.sub_zero]); (try simp (discharger := decide) only [clip1, slc, slcE, slc0, Int.reduceToNat, Nat.reduceSub]); (try simp only [Int.reduceToNat, slcM, slcM0])))
local macro_rules | `(tactic| walk_at "pyIter ref") => `(tactic| (refine hold ?_))
local macro_rules | `(tactic| walk_at "subscriptTail") => `(tactic| (k_here; (with_reducible show wpAny _ _ (subscriptTail _ _ (Value.ref Ls) (Value.int _ _)) _ _ _); ((first | (with_reducible refine' itemLs ?F hlg hx (by omega) (by omega) ?_ ?hs ?ht) | (k_dflt (refine' itemLs ?F hlg hx (by omega) (by omega) ?_ ?hs ?ht))); k_dflt ((case F => k_asm); (case hs => with_unfolding_all rfl); (case ht => (intro _; with_unfolding_all rfl))))))
local macro_rules | `(tactic| walk_at "subscriptTail Name Name ref int") => `(tactic| (k_here; (with_reducible show wpAny _ _ (subscriptTail _ _ (Value.ref Ls) (Value.int _ _)) _ _ _); ((first | (with_reducible refine' itemLs ?F hlg hx (by omega) (by omega) ?_ ?hs ?ht) | (k_dflt (refine' itemLs ?F hlg hx (by omega) (by omega) ?_ ?hs ?ht))); k_dflt ((case F => k_asm); (case hs => with_unfolding_all rfl); (case ht => (intro _; with_unfolding_all rfl))))))
local macro_rules | `(tactic| walk_at "binaryOp Pow int int") => `(tactic| (k_here; (with_reducible show wpAny _ _ (binaryOp Operator.Pow (Value.int _ _) (Value.int _ _)) _ _ _); ((first | (with_reducible refine' pow_int_small ?kb1 ?kb2 ?kb3 ?_) | (k_dflt (refine' pow_int_small ?kb1 ?kb2 ?kb3 ?_))); k_dflt ((case kb1 => first | decide | omega); (case kb2 => first | decide | omega); (case kb3 => decide)))))
local macro_rules | `(tactic| walk_at "subscriptTail") => `(tactic| (k_here; (with_reducible show wpAny _ _ (subscriptTail (PySem.Expr.List _ _) _ (Value.ref _) (Value.int (Int.fmod _ _) _)) _ _ _); (refine hold ?_)))
local macro_rules | `(tactic| walk_at "M dec") => `(tactic| (first | omega | ((simp only [decide_eq_true_eq, decide_eq_false_iff_not, beq_iff_eq, bne_iff_ne, Bool.not_eq_true', Bool.not_eq_false', Bool.and_eq_true, Bool.not_eq_true]); omega) | (simp; done)))
local macro_rules | `(tactic| walk_at "call ref") => `(tactic| (k_here; (with_reducible show wpAny _ _ (call (Value.ref 781) [Value.int (Nat.cast _) _] _) _ _ _); k_dflt (refine' use0n (s_written _ _ _ ?hx) ?HB ?B ?D ?F ?N ?hA ?hf ?hk ?hh ?hdp ?hun ?_; (case hx => omega)); k_dflt (walk_at "M use0")))
local macro_rules | `(tactic| walk_at "call ref") => `(tactic| (k_here; (with_reducible show wpAny _ _ (call (Value.ref 795) [Value.int _ _, Value.int _ _] _) _ _ _); k_dflt (refine' useC (s_number_written _ _ _ _ _ ?hx1 ?hx2 ?hx3 ?hx4) ?HB ?B ?D ?F ?N ?T ?hA ?hf ?hk ?hh ?hdp ?hun ?_ (fun _ _ _ _ _ x => x.elim); (case hx1 => omega); (case hx2 => omega); (case hx3 => omega); (case hx4 => omega)); k_dflt (walk_at "M use"; (case T => first | assumption | exact KtsTurn.refl); (intro v' h' tk' gU hv' TU F' N' BU XU TopU DU); (refine hold ?_))))
local macro_rules | `(tactic| walk_at "storeName") => `(tactic| (k_here; (with_reducible show wpAny _ _ (storeName _ (PySem.Str.ofString "number") (Value.int (Int.fmod _ _) _)) _ _ _); (refine hold ?_)))
local macro_rules | `(tactic| walk_at "call ref") => `(tactic| (k_here; (with_reducible show wpAny _ _ (call (Value.ref 701) [Value.int _ _] _) _ _ _); k_dflt (refine' use0 (s_serialize1 _ _ _ (by omega) (by omega)) ?HB ?B ?D ?F ?N ?hA ?hf ?hk ?hh ?hdp ?hun ?_ ?_); k_dflt (walk_at "M use"; (intro v' h' tk' hv' F' N'); (obtain ⟨m9, t9, e9, _, _, _, hv'⟩ := hv'; subst hv'); (have hl9 := enc_len (n := m9) (by omega)); (have hm9 := enc_mono n m9 (by omega)); rotate_left 1; walk_at "M fly"; rotate_right 1)))
local macro_rules | `(tactic| walk_at "M useG") => `(tactic| ((case F => assumption); (case N => assumption); (case hA => exact rfl); (case hf => exact rfl); (case hk => exact rfl); (case hh => exact rfl); (case hdp => exact Nat.le_of_ble_eq_true rfl); (case hun => exact Nat.le_of_ble_eq_true rfl)))
local macro_rules | `(tactic| walk_at "binaryOp FloorDiv int int") => `(tactic| (k_here; (with_reducible show wpAny _ _ (binaryOp Operator.FloorDiv (Value.int _ _) (Value.int (HPow.hPow (256 : Int) _) _)) _ _ _); (refine PyProof.Rows.floordiv_int (Int.ne_of_gt (Int.pow_pos (by decide))) ?_ (Or.inl (PyProof.noPylong_of_log2 (pow256_log (by omega)))))))
local macro_rules | `(tactic| walk_at "storeName") => `(tactic| (k_here; (with_reducible show wpAny _ _ (storeName _ _ (Value.bytes (byteArr _) _)) _ _ _); (refine hold ?_)))
local macro_rules | `(tactic| walk_at "call ref") => `(tactic| (k_here; (with_reducible show wpAny _ _ (call (Value.ref 701) [Value.int (Nat.cast _) _, Value.int _ _] _) _ _ _); k_dflt (refine' use0 (s_serialize _ _ _ _ _ (by omega) (by omega) (by omega) (by omega)) ?HB ?B ?D ?F ?N ?hA ?hf ?hk ?hh ?hdp ?hun ?_ ?_); k_dflt (walk_at "M use"; (intro v' h' tk' hv' F' N'); (obtain ⟨m9, t9, e9, _, _, _, hv'⟩ := hv'; (have e8 := Int.ofNat_inj.mp e9); subst e8; subst hv'); rotate_left 1; walk_at "M fly"; rotate_right 1)))
local macro_rules | `(tactic| walk_at "M dec") => `(tactic| (first | omega | ((simp only [decide_eq_true_eq, decide_eq_false_iff_not, beq_iff_eq, bne_iff_ne, Bool.not_eq_true', Bool.not_eq_false', Bool.and_eq_true, Bool.not_eq_true]); omega)))
local macro_rules | `(tactic| walk_at "ite") => `(tactic| (k_here; k_openite; first
  | (refine ite_pos (by with_reducible assumption) ?_) | (refine ite_neg (by with_reducible assumption) ?_) | (refine ite_isFalse (by with_reducible assumption) ?_)
  | (refine' ite_pos ?hc ?_; (case hc => walk_at "M dec")) | (refine' ite_neg ?hc ?_; (case hc => walk_at "M dec"))
  | (refine' ite_own (fun hq' => ?_) (fun hq' => ?_) <;> (try simp only [decide_eq_true_eq, decide_eq_false_iff_not, beq_iff_eq, bne_iff_ne, Bool.not_eq_true', Bool.not_eq_false', Bool.and_eq_true, ne_eq, Bool.not_eq_true] at hq'))))
theorem list_turn {fs : List Addr} {g g' : Heap} {a : Addr} {its : Array Value} (D : KtsDicts fs g) (T : KtsTurn fs g g') (hl : g.IsList a its) : g'.IsList a its := by
  obtain ⟨o, ho, hc, n, hd⟩ := hl
  refine ⟨o, T.other a o ho fun hm => ?_, hc, n, hd⟩
  obtain ⟨o2, es, k, ho2, hd2⟩ := D a hm
  rw [ho] at ho2
  cases ho2
  rw [hd] at hd2
  cases hd2
theorem itemLs {prog : Program} {w : World} {A : Around} {E : Value → Shared → Prop} {s : Shared} {g : Heap} {L Ls : Addr} {m : PySem.Str → Option Value} {its : Array Value} {i : Nat} {k : Int} {u : Tok} {v : Value} {value slice : PySem.Expr} {Q : Value → Shared → Prop} (F : Fr g L s.heap m) (hl : g.IsList Ls its) (hx : its[i]? = some v) (hk : k = i) (hf : k < 2 ^ 63) (h : Q v s)
    (hs : subscripted slice false (.ref Ls) (.int k u) = operate [.ref Ls, .int k u] (getItem (.ref Ls) (.int k u))) (ht : ∀ r, letTemporaryGo value (.ref Ls) r = pure ()) : wpAny (model prog w) A (subscriptTail value slice (.ref Ls) (.int k u)) Q E s := by
  subst hk
  have hi : i < its.size := (Array.getElem?_eq_some_iff.mp hx).1
  obtain ⟨o, ho, hc, hd⟩ := hl
  exact PyProof.Rows.item_list ⟨o, F.keep _ _ ho, hc, hd⟩ (by omega) hf (by rw [Int.toNat_natCast]; exact hx) h hs ht
theorem litem {prog : Program} {w : World} {A : Around} {E : Value → Shared → Prop} {s : Shared} {g : Heap} {L D : Addr} {news : List (Addr × Obj)} {vs : List Value} {n : Nat} {k : Int} {u : Tok} {value slice : PySem.Expr} {Q : Value → Shared → Prop} (N : News g L s.heap news) (hm : (D, PySem.W.listOf vs.toArray n) ∈ news) (h0 : 0 ≤ k) (c : Nat) (hc : vs.length = c) (h1 : k < c) (hz : c ≤ 1000)
    (hs : subscripted slice false (.ref D) (.int k u) = operate [.ref D, .int k u] (getItem (.ref D) (.int k u))) (h : ∀ v, v ∈ vs → Q v s) : wpAny (model prog w) A (subscriptTail value slice (.ref D) (.int k u)) Q E s := by
  have hk : k.toNat < vs.length := by omega
  have hl : s.heap.IsList D vs.toArray := ⟨_, (N _ hm).1, rfl, n, rfl⟩
  exact tail_any hl.typeIs slot_list_getitem.lookup (wpAny_getItem_list hl h0 (by omega) (by rw [List.getElem?_toArray, List.getElem?_eq_getElem hk]) (h _ (List.getElem_mem hk))) hs
theorem bitsOf {a b c d e f g : Tok} {v : Value} (h : v ∈ [Value.int 64 a, Value.int 32 b, Value.int 1 c, Value.int 7 d, Value.int 8 e, Value.int 13 f, Value.int 63 g]) : ∃ bits t, v = Value.int bits t ∧ 1 ≤ bits ∧ bits ≤ 64 := by
  simp only [List.mem_cons, List.not_mem_nil, or_false] at h
  rcases h with rfl | rfl | rfl | rfl | rfl | rfl | rfl <;> exact ⟨_, _, rfl, by decide, by decide⟩
theorem widthOf {a b c d e f g : Tok} {v : Value} (h : v ∈ [Value.int 64 a, Value.int 80 b, Value.int 20 c, Value.int 8 d, Value.int 14 e, Value.int 32 f, Value.int 40 g]) : ∃ bits t, v = Value.int bits t ∧ 8 ≤ bits ∧ bits ≤ 80 := by
  simp only [List.mem_cons, List.not_mem_nil, or_false] at h
  rcases h with rfl | rfl | rfl | rfl | rfl | rfl | rfl <;> exact ⟨_, _, rfl, by decide, by decide⟩
section
variable {W : Wd} {l : List Env} {base g₀ : Heap} {A₀ A : Around} {L : Addr} {s s0 : Shared} {env : Env} {st : Stmt} {rest : List Stmt} {Q : Flow → Shared → Prop} {E : Value → Shared → Prop}
theorem cutG (Mid : Shared → Prop) (h1 : wpG (model W.prog W.w) A (exec st env) (fun f s' => f = .next ∧ Mid s') (fun _ _ => False) s) (h2 : ∀ s', Mid s' → wpG (model W.prog W.w) A (execs rest env) Q E s') : wpG (model W.prog W.w) A (execs (st :: rest) env) Q E s :=
  wpG_execs_cons (wpG_mono h1 (fun f s' h => by obtain ⟨rfl, h⟩ := h; exact h2 s' h) fun _ _ x => x.elim)
theorem cutF {g h : Heap} {tk : Nat} {m : PySem.Str → Option Value} {news : List (Addr × Obj)} (G : Grd W l A₀ base g₀ g) (F : Fr g L h m) (N : News g L h news)
    (h1 : wpG (model W.prog W.w) A (exec st env) (fun f s' => f = .next ∧ LSt (σ := Unit) W l A₀ base g₀ L (fun _ => True) (fun _ => m) (fun _ => news) s s') (fun _ _ => False) { s with heap := h, toks := tk })
    (h2 : ∀ g' h' tk', Grd W l A₀ base g₀ g' → Fr g' L h' m → News g' L h' news → wpG (model W.prog W.w) A (execs rest env) Q E { s with heap := h', toks := tk' }) :
    wpG (model W.prog W.w) A (execs (st :: rest) env) Q E { s with heap := h, toks := tk } :=
  cutG _ h1 fun s' ⟨g', _, h', tk', e, G', _, F', N'⟩ => by rw [e]; exact h2 g' h' tk' G' F' N'
end
theorem Fr.three {g h : Heap} {L : Addr} {M : PySem.Str → Option Value} {a b c : PySem.Str} {va vb vc : Value} (F : Fr g L h M) (ea : M a = some va) (eb : M b = some vb) (ec : M c = some vc) : Fr g L h (fun y => if y = a then some va else if y = b then some vb else if y = c then some vc else M y) := Fr.to F (fun y => by
  by_cases h1 : y = a
  · subst h1; rw [if_pos rfl, ea]
  · rw [if_neg h1]
    by_cases h2 : y = b
    · subst h2; rw [if_pos rfl, eb]
    · rw [if_neg h2]
      by_cases h3 : y = c
      · subst h3; rw [if_pos rfl, ec]
      · rw [if_neg h3])
theorem Fr.threeT {g h : Heap} {L : Addr} {M : PySem.Str → Option Value} (F : Fr g L h M) (a b c : PySem.Str) (fa fb fc : Tok → Value) (ea : ∃ t, M a = some (fa t)) (eb : ∃ t, M b = some (fb t)) (ec : ∃ t, M c = some (fc t)) :
    ∃ (ta tb tc : Tok) (m' : PySem.Str → Option Value), Fr g L h (fun y => if y = a then some (fa ta) else if y = b then some (fb tb) else if y = c then some (fc tc) else m' y) := by
  obtain ⟨ta, ea⟩ := ea
  obtain ⟨tb, eb⟩ := eb
  obtain ⟨tc, ec⟩ := ec
  exact ⟨ta, tb, tc, M, Fr.three F ea eb ec⟩
theorem callNameXG {M : Model} {A : Around} {E : Value → Shared → Prop} {s : Shared} {env : Env} {f : Addr} {K : Frag} {x : PySem.Str} {np pos : Pos} {e : Expr} {rest : List Expr} {Q : Value → Shared → Prop}
    (hn : ∀ (Q' : Value → Shared → Prop), Q' (.ref f) s → wpAny M A (eval (.Name x np) env) Q' E s) (hkp : keepIn K (.ref f) = true)
    (h : wpAny M A (spliced (backTo pos (starEach (e :: rest) env))) (fun vs s₁ => K.In s₁.heap ∧ wpG M A (call (.ref f) vs) Q E s₁) E s)
    (he : starEach (e :: rest) env = (false, eval e env) :: starEach rest env) (hplain : (backTo pos (starEach rest env)).any (·.1) = false) :
    wpG M A (eval (.Call (.Name x np) (e :: rest) [] pos) env) Q E s := by
  rw [arm_eval_Call_Name']
  refine wpG_bind (wpG_of (hn _ ?_))
  show wpG M A (callWith pos (.ref f) [] (backTo pos (starEach (e :: rest) env)) []) Q E s
  rw [he] at h ⊢
  refine callWith_ofG (by show ((false || (backTo pos (starEach rest env)).any (·.1)) || false) = false; rw [hplain]; rfl) (keeps_K hkp) (wpG_of (evalArgs_plain h))
theorem ifCmpG {M : Model} {A : Around} {E : Value → Shared → Prop} {s : Shared} {env : Env} {l r : Expr} {op : CmpOp} {pos pos' : Pos} {body orelse : List Stmt} {Q : Flow → Shared → Prop} (hm : ∀ x, markedBehindIn op r x = x)
    (h : wpG M A (eval l env) (fun a s₁ => wpAny M A (eval r env) (fun b s₂ => wpAny M A (compareOp op a b) (fun c s₃ => wpAny M A (truthy c) (fun t s₄ => if t = true then wpAny M A (execs body env) Q E s₄ else wpAny M A (execs orelse env) Q E s₄) E s₃) E s₂) E s₁) E s) :
    wpG M A (exec (.If (.Compare l [op] [r] pos') body orelse pos) env) Q E s :=
  wpG_If (wpG_isTrue_Compare1 (wpG_mono h (fun a s₁ h₁ => wpG_of (wpAny_mono h₁ (fun b s₂ h₂ => wpG_of (wpAny_mono h₂ (fun c s₃ h₃ => wpG_of (wpAny_mono h₃ (fun t s₄ h₄ => by
    cases t with
    | true => exact wpG_of h₄
    | false => exact wpG_of h₄) fun _ _ x => x)) fun _ _ x => x)) fun _ _ x => x)) fun _ _ x => x) hm)
theorem num_enc (n : Nat) (bits : Int) (h1 : 1 ≤ bits) (h2 : bits ≤ 64) : numRead (enc n) bits = if n < 2 ^ bits.toNat then some n else none := by
  unfold numRead
  rw [if_pos ⟨h1, h2⟩]
  have h := rd_enc (2 ^ bits.toNat) n [] (Nat.pow_pos (by decide))
  rw [List.append_nil] at h
  rw [h]
  split <;> rfl
theorem pow256_log {k : Int} (h : k < 20) : (((256 : Int) ^ k.toNat).natAbs).log2 < 9000 := by
  have e : (256 : Int) ^ k.toNat = ((256 ^ k.toNat : Nat) : Int) := by rw [Int.natCast_pow]; rfl
  rw [e, Int.natAbs_natCast]
  have h1 : 256 ^ k.toNat ≤ 256 ^ 20 := Nat.pow_le_pow_right (by decide) (by omega)
  have h2 : (256 : Nat) ^ 20 < 2 ^ 9000 := by decide +kernel
  have h3 : 256 ^ k.toNat ≠ 0 := Nat.ne_of_gt (Nat.pow_pos (by decide))
  exact (Nat.log2_lt h3).mpr (Nat.lt_of_le_of_lt h1 h2)
theorem drawn_of (f : Int → Int) (m : Nat) : ∃ dr : List UInt8, dr.length = m ∧ byteArr (List.map f (rangeKs 0 m)) = dr.toArray := ⟨_, by rw [List.length_map, List.length_map, rangeKs_length], rfl⟩
section
variable {M : Model} {A : Around} {E : Value → Shared → Prop} {s : Shared} {env : Env} {Q : Flow → Shared → Prop}
theorem cut4 {a b c d : Stmt} {rest : List Stmt} (Mid : Shared → Prop)
    (h1 : wpG M A (exec a env) (fun f s₁ => f = .next ∧ wpG M A (exec b env) (fun f s₂ => f = .next ∧ wpG M A (exec c env) (fun f s₃ => f = .next ∧ wpG M A (exec d env) (fun f s₄ => f = .next ∧ Mid s₄) (fun _ _ => False) s₃) (fun _ _ => False) s₂) (fun _ _ => False) s₁) (fun _ _ => False) s)
    (h2 : ∀ s', Mid s' → wpG M A (execs rest env) Q E s') : wpG M A (execs (a :: b :: c :: d :: rest) env) Q E s :=
  wpG_execs_cons (wpG_mono h1 (fun f s₁ h => by
    obtain ⟨rfl, h⟩ := h
    exact wpG_execs_cons (wpG_mono h (fun f s₂ h => by
      obtain ⟨rfl, h⟩ := h
      exact wpG_execs_cons (wpG_mono h (fun f s₃ h => by
        obtain ⟨rfl, h⟩ := h
        exact wpG_execs_cons (wpG_mono h (fun f s₄ h => by obtain ⟨rfl, h⟩ := h; exact h2 s₄ h) fun _ _ x => x.elim)) fun _ _ x => x.elim)) fun _ _ x => x.elim)) fun _ _ x => x.elim)
theorem ifOr2G {l1 r1 l2 r2 : Expr} {op1 op2 : CmpOp} {pos pos1 pos2 posb : Pos} {body orelse : List Stmt} (hm1 : ∀ x, markedBehindIn op1 r1 x = x) (hm2 : ∀ x, markedBehindIn op2 r2 x = x)
    (h : wpG M A (eval l1 env) (fun a s₁ => wpAny M A (eval r1 env) (fun b s₂ => wpAny M A (compareOp op1 a b) (fun c s₃ => wpAny M A (truthy c) (fun t s₄ => if t = true then wpAny M A (execs body env) Q E s₄ else
      wpG M A (eval l2 env) (fun a s₁ => wpAny M A (eval r2 env) (fun b s₂ => wpAny M A (compareOp op2 a b) (fun c s₃ => wpAny M A (truthy c) (fun t s₄ => if t = true then wpAny M A (execs body env) Q E s₄ else wpAny M A (execs orelse env) Q E s₄) E s₃) E s₂) E s₁) E s₄) E s₃) E s₂) E s₁) E s) :
    wpG M A (exec (.If (.BoolOp .Or [.Compare l1 [op1] [r1] pos1, .Compare l2 [op2] [r2] pos2] posb) body orelse pos) env) Q E s := by
  refine wpG_If (wpG_isTrue_Or (wpG_isTrue_Compare1 (wpG_mono h (fun a s₁ h₁ => wpG_of (wpAny_mono h₁ (fun b s₂ h₂ => wpG_of (wpAny_mono h₂ (fun c s₃ h₃ => wpG_of (wpAny_mono h₃ (fun t s₄ h₄ => ?_) fun _ _ x => x)) fun _ _ x => x)) fun _ _ x => x)) fun _ _ x => x) hm1))
  cases t with
  | true => exact wpG_of h₄
  | false =>
    refine wpG_allTrue_Or (wpG_isTrue_Compare1 (wpG_mono h₄ (fun a s₁ h₁ => wpG_of (wpAny_mono h₁ (fun b s₂ h₂ => wpG_of (wpAny_mono h₂ (fun c s₃ h₃ => wpG_of (wpAny_mono h₃ (fun t s₄ h₄ => ?_) fun _ _ x => x)) fun _ _ x => x)) fun _ _ x => x)) fun _ _ x => x) hm2)
    cases t with
    | true => exact wpG_of h₄
    | false => exact wpG_allTrue_nil (wpG_of h₄)
end
theorem w65 {a b : Tok} {v : Value} (h : v ∈ [Value.int 0 a, Value.int 65 b]) : ∃ bits t, v = Value.int bits t ∧ ¬ (1 ≤ bits ∧ bits ≤ 64) ∧ 0 ≤ bits ∧ bits ≤ 65 := by
  simp only [List.mem_cons, List.not_mem_nil, or_false] at h
  rcases h with rfl | rfl <;> exact ⟨_, _, rfl, by decide, by decide, by decide⟩
structure NuSt where
  m : PySem.Str → Option Value
  ok : Obj
theorem s_numbers (W : Wd) (Ls : Addr) (its : Array Value) (ns : List Int) (hI : IntsAre its.toList ns) (hz : its.size ≤ 63) (base : Heap) (l : List Env) (s : Shared) (R : Result → Shared → Prop) (HB : Base W base) (S : Site base l s.heap) (hl : s.heap.IsList Ls its)
    (hret : ∀ h' tk', Same (fr l) s.heap h' → R (.ok (.ret (.bool true))) { s with heap := h', toks := tk' }) :
    codeG (model W.prog W.w) (LV 310 1100 l) (.call (.ref 861) ⟨[.ref Ls], []⟩) R s := by
  refine' enterCG (binds := [(PySem.Str.ofString "script", .ref Ls)]) HB S ?k6 ?k7 ?k8 ?k9 ?kB ?kD ?_ ?c2 ?c3 ?c4
  (case k6 => k_is); (case k7 => k_is); (case k8 => decide); (case k9 => exact BindsTo.of_eq rfl); (case kB => exact rfl); (case kD => decide); (case c2 => exact rfl); (case c3 => exact rfl); (case c4 => exact rfl)
  intro g' L' h' tk' cells hg' F' N' Y' B' X' T' D'; subst hg'
  k_cells Y'
  rename_i oK oS d1 d2
  refine wpG_execs_cons (wpG_For ?_ (by with_unfolding_all (intro _; rfl)))
  k_steps
  unfold Hold
  rename IsRange _ _ _ _ _ _ _ _ => hR
  rename Fr _ _ _ _ => F3
  rename News _ _ _ _ => N3
  have e6 : (if 6 < (its.size : Int) then (6 : Int) else (its.size : Int)) = ((min its.size 6 : Nat) : Int) := by split <;> omega
  rw [e6] at hR
  refine iter_range (s := ⟨_, _, _, _, _⟩) (show min its.size 6 ≤ 100000 by omega) hR F3 N3 ?_
  clear F3 N3 hR F' e6
  intro it o h9 F2 N2 ho hap
  have hlt1 := hap _ (.head _)
  have hlt2 := hap _ (.tail _ (.head _))
  dsimp only at hlt1 hlt2
  refine' forRangeG (W := W) (l := l) (A₀ := LV 310 1100 l) (base := base) (g₀ := s.heap) (s := s) (σ := NuSt) (J := fun i x => ∃ w, x.ok.data = Data.cell w)
    (mf := NuSt.m) (nf := fun x => [(L' + 1 + 1, x.ok), (L' + 1, oS)]) rfl ?hap ?hbody ?hdone (by with_unfolding_all (intro _; rfl)) (m := ⟨?m0, ?ok0⟩) ⟨KtsTurn.refl, B', X', T', D'⟩ ⟨_, d1⟩ F2 N2 ho
  case hap =>
    intro x p hp
    simp only [List.mem_cons, List.not_mem_nil, or_false] at hp
    rcases hp with rfl | rfl
    · exact Nat.ne_of_lt hlt1
    · exact Nat.ne_of_lt hlt2
  case hbody =>
    clear F2 N2 B' X' T' hap ho d1
    intro i tk0 o g ⟨m, ok⟩ h tk hi ho ⟨TU, BU, XU, TopU, DU⟩ ⟨w, d1⟩ F' N'
    dsimp only at d1 F' N'
    have hlg := list_turn D' TU hl
    obtain ⟨v9, hx⟩ : ∃ v9, its[i]? = some v9 := ⟨_, Array.getElem?_eq_getElem (show i < its.size by omega)⟩
    obtain ⟨z, tz, rfl⟩ := ints_at hI hx
    refine wpG_of ?_
    k_steps
    rename_i hC oC FC NC dk
    have f7 := fmb z 7 (by decide)
    have f7i := fmb (0 + (i : Int)) 7 (by decide)
    refine wpG_execs_cons (wpG_of ?_)
    k_steps
    unfold Hold
    refine litem (by assumption) (by k_mem) f7.1 7 rfl f7.2 (by decide) (by with_unfolding_all rfl) ?_
    intro v hv
    obtain ⟨bits, tb, rfl, hb1, hb2⟩ := bitsOf hv
    clear hv
    k_steps
    refine wpG_execs_cons (wpG_of ?_)
    k_steps
    unfold Hold
    refine litem (by assumption) (by k_mem) f7i.1 7 rfl f7i.2 (by decide) (by with_unfolding_all rfl) ?_
    intro v hv
    obtain ⟨wd, tw, rfl, hw1, hw2⟩ := widthOf hv
    clear hv
    k_steps
    unfold Hold
    obtain ⟨n, en, hn80⟩ : ∃ n : Nat, (z.fdiv 7).fmod (2 ^ wd.toNat) = (n : Int) ∧ n < 2 ^ 80 := by
      have hp : (0 : Int) < 2 ^ wd.toNat := Int.pow_pos (by decide)
      have f := fmb (z.fdiv 7) (2 ^ wd.toNat) hp
      have h80 : (2 : Int) ^ wd.toNat ≤ 2 ^ 80 := by
        have : 2 ^ wd.toNat ≤ 2 ^ 80 := Nat.pow_le_pow_right (by decide) (by omega)
        exact_mod_cast this
      exact ⟨((z.fdiv 7).fmod (2 ^ wd.toNat)).toNat, by omega, by omega⟩
    rw [en]
    clear en
    k_steps
    refine wpG_execs_cons (wpG_of ?_)
    k_steps
    rename Fr _ _ _ _ => F9
    rename News _ _ _ _ => N9
    obtain ⟨tn, to, tb', m', F9⟩ := Fr.threeT F9 (PySem.Str.ofString "number") (PySem.Str.ofString "octets") (PySem.Str.ofString "bits") (fun t => .int (n : Int) t) (fun t => .bytes (enc n).toArray t) (fun t => .int bits t) ⟨_, by with_unfolding_all rfl⟩ ⟨_, by with_unfolding_all rfl⟩ ⟨_, by with_unfolding_all rfl⟩
    have N9 := News.sub (n2 := [(it, o), (L' + 1 + 1, oC), (L' + 1, oS)]) N9 (fun p hp => .tail _ (.tail _ hp))
    have hpb : 2 ^ bits.toNat ≤ 2 ^ 64 := Nat.pow_le_pow_right (by decide) (by omega)
    have eM : (2 : Int) ^ bits.toNat = ((2 ^ bits.toNat : Nat) : Int) := by rw [Int.natCast_pow]; rfl
    have hvok : varOk n bits ↔ n < 2 ^ bits.toNat := by unfold varOk; rw [eM]; omega
    have hel := enc_len (n := n) (by omega)
    -- S4
    refine cutF (A₀ := LV 310 1100 l) (W := W) (base := base) (g₀ := s.heap) ⟨TU, BU, XU, TopU, DU⟩ F9 N9 ?_ ?_
    · refine wpG_of ?_
      k_steps
      unfold Hold
      by_cases hc : n < 2 ^ bits.toNat
      · obtain ⟨t9, hv9⟩ := hv'.1 (hvok.mpr hc)
        rw [Int.toNat_natCast] at hv9
        subst hv9
        have hcI : (n : Int) < 2 ^ bits.toNat := by rw [eM]; omega
        k_steps
        exact ⟨gU, (), _, _, rfl, ⟨TU, BU, XU, TopU, DU⟩, trivial, F', N'⟩
      · have hv9 := hv'.2 (fun h => hc (hvok.mp h))
        subst hv9
        have hcI : ¬ (n : Int) < 2 ^ bits.toNat := by rw [eM]; omega
        k_steps
        exact ⟨gU, (), _, _, rfl, ⟨TU, BU, XU, TopU, DU⟩, trivial, F', N'⟩
    clear F9 N9 TU BU XU TopU DU
    intro g h tk ⟨TU, BU, XU, TopU, DU⟩ F9 N9
    -- S5
    refine cutF (A₀ := LV 310 1100 l) (W := W) (base := base) (g₀ := s.heap) ⟨TU, BU, XU, TopU, DU⟩ F9 N9 ?_ ?_
    · refine ifCmpG (by intro _; rfl) ?_
      refine' callNameXG (f := 802) (K := Mine.hd.heap_1_1 W.w.params) ?hn ?hkp ?_ rfl rfl
      case hn =>
        intro Q' hq
        k_steps
        exact hq
      case hkp => k_is
      k_steps
      refine' useG (s_number_read W (enc n) bits tb' to (by omega) (by omega) (by omega)) HB BU DU ?F ?N TU ?hA ?hf ?hk ?hh ?hdp ?hun ?_ ?_
      walk_at "M useG"
      rotate_left 1
      · intro _ _ _ _ _ x; exact x.elim
      intro v h2 tk2 g2 hv T2 F2 N2 B2 X2 Top2 D2
      rw [num_enc n bits hb1 hb2] at hv
      by_cases hc : n < 2 ^ bits.toNat
      · obtain ⟨t9, hv9⟩ := hv.1 n (if_pos hc)
        subst hv9
        have hcI : (n : Int) < 2 ^ bits.toNat := by rw [eM]; omega
        k_steps
        exact ⟨g2, (), _, _, rfl, ⟨T2, B2, X2, Top2, D2⟩, trivial, F2, N2⟩
      · have hv9 := hv.2 (if_neg hc)
        subst hv9
        have hcI : ¬ (n : Int) < 2 ^ bits.toNat := by rw [eM]; omega
        k_steps
        exact ⟨g2, (), _, _, rfl, ⟨T2, B2, X2, Top2, D2⟩, trivial, F2, N2⟩
    clear F9 N9 TU BU XU TopU DU
    intro g h tk ⟨TU, BU, XU, TopU, DU⟩ F9 N9
    -- S6
    refine cutF (A₀ := LV 310 1100 l) (W := W) (base := base) (g₀ := s.heap) ⟨TU, BU, XU, TopU, DU⟩ F9 N9 ?_ ?_
    · refine wpG_of ?_
      k_steps
      · exact ⟨g, (), _, _, rfl, ⟨TU, BU, XU, TopU, DU⟩, trivial, F', N'⟩
      · exfalso
        have hq9 : (n : Int) < 2 ^ 63 := hq'
        exact hp' ⟨by decide, by decide, by omega, by show (n : Int) + 1 < 2 ^ 64; omega⟩
      · rename Fr g _ _ _ => F8
        rename News g _ _ _ => N8
        exact ⟨g, (), _, _, rfl, ⟨TU, BU, XU, TopU, DU⟩, trivial, F8, N8⟩
    clear F9 N9 TU BU XU TopU DU hlg
    intro g h tk ⟨TU, BU, XU, TopU, DU⟩ F9 N9
    have hlg := list_turn D' TU hl
    -- S7
    refine wpG_execs_cons (wpG_of ?_)
    k_steps
    unfold Hold
    have f12 := fmb (0 + (i : Int)) 12 (by decide)
    have e12 : (1 + (0 + (i : Int)).fmod 12 - 0).toNat ≤ 12 := by omega
    obtain ⟨dr, hdl, hde⟩ := drawn_of (fun k' => (z.fdiv (256 ^ k'.toNat)).fmod 256) (1 + (0 + (i : Int)).fmod 12 - 0).toNat
    rw [hde]
    clear hde
    have hdr : dr.length ≤ 12 := by omega
    clear hdl e12 f12
    k_steps
    clear F9 N9
    rename Fr g _ _ _ => F9
    rename News g _ _ _ => N9
    have N9 := News.sub (n2 := [(it, o), (L' + 1 + 1, oC), (L' + 1, oS)]) N9 (fun p hp => .tail _ hp)
    -- S8 to S11
    refine cut4 (LSt (σ := PySem.Str → Option Value) W l (LV 310 1100 l) base s.heap L' (fun _ => True) (fun m y => if y = PySem.Str.ofString "number" then some (.int (n : Int) tn) else if y = PySem.Str.ofString "octets" then some (.bytes (enc n).toArray to) else if y = PySem.Str.ofString "bits" then some (.int bits tb') else m y) (fun _ => [(it, o), (L' + 1 + 1, oC), (L' + 1, oS)]) s) ?_ ?_
    · refine wpG_Assign_Name ?_ rfl
      refine' callNameXG (f := 788) (K := Mine.hd.heap_1_1 W.w.params) ?hn ?hkp ?_ rfl rfl
      case hn =>
        intro Q' hq
        k_steps
        exact hq
      case hkp => k_is
      k_steps
      refine' useGS (s_law_read W dr bits tb' _ hb1 hb2 (by omega)) HB BU DU ?F ?N TU ?hA ?hf ?hk ?hh ?hdp ?hun ?_
      walk_at "M useG"
      intro v h2 tk2 g2 hP T2 ⟨TU2, BU2, XU2, TopU2, DU2⟩ F2 N2
      cases hr : rd (2 ^ bits.toNat) 0 dr with
      | none =>
        have hv9 := hP.2 hr
        subst hv9
        clear F9 N9 TU BU XU TopU DU T2 hP hlg
        have enr : numRead dr bits = none := by unfold numRead; rw [if_pos ⟨hb1, hb2⟩, hr]; rfl
        refine wpG_of ?_
        k_steps
        all_goals (try exact trivial)
        refine wpG_Assign_Name ?_ rfl
        refine' callNameXG (f := 802) (K := Mine.hd.heap_1_1 W.w.params) ?hn ?hkp ?_ rfl rfl
        case hn =>
          intro Q' hq
          k_steps
          exact hq
        case hkp => k_is
        k_steps
        refine' useG (s_number_read W dr bits tb' _ (by omega) (by omega) (by omega)) HB BU2 DU2 ?F ?N TU2 ?hA ?hf ?hk ?hh ?hdp ?hun ?_ ?_
        walk_at "M useG"
        rotate_left 1
        · intro _ _ _ _ _ x; exact x.elim
        intro v h2 tk2 g3 hv T3 F3 N3 B3 X3 Top3 D3
        have hv9 := hv.2 enr
        subst hv9
        refine wpG_of ?_
        k_steps
        all_goals (try exact trivial)
        refine wpG_of ?_
        k_steps
        all_goals (try exact trivial)
        refine wpG_of ?_
        k_steps
        exact ⟨g3, _, _, _, rfl, ⟨T3, B3, X3, Top3, D3⟩, trivial, Fr.three (by assumption) (by with_unfolding_all rfl) (by with_unfolding_all rfl) (by with_unfolding_all rfl), (by assumption)⟩
      | some x =>
        obtain ⟨mv, rest⟩ := x
        obtain ⟨D, ta, tb2, rfl, hgD, hnD⟩ := hP.1 mv rest hr
        have N2 := News_turn F9 T2 N2 hgD hnD
        clear F9 N9 TU BU XU TopU DU T2 hP hlg hgD hnD
        have enr : numRead dr bits = some mv := by unfold numRead; rw [if_pos ⟨hb1, hb2⟩, hr]; rfl
        have hback := rd_back _ _ _ _ _ hr
        have hmlt := rd_lt _ _ _ _ _ hr
        rw [P_zero, List.nil_append] at hback
        have hlen : dr.length = (enc mv).length + rest.length := by rw [hback, List.length_append]
        have htk : List.take (dr.length - rest.length) dr = enc mv := by
          rw [show dr.length - rest.length = (enc mv).length from by omega, hback, List.take_left]
        refine wpG_of ?_
        k_steps
        all_goals (try exact trivial)
        refine wpG_Assign_Name ?_ rfl
        refine' callNameXG (f := 802) (K := Mine.hd.heap_1_1 W.w.params) ?hn ?hkp ?_ rfl rfl
        case hn =>
          intro Q' hq
          k_steps
          exact hq
        case hkp => k_is
        k_steps
        refine' useG (s_number_read W dr bits tb' _ (by omega) (by omega) (by omega)) HB BU2 DU2 ?F ?N TU2 ?hA ?hf ?hk ?hh ?hdp ?hun ?_ ?_
        walk_at "M useG"
        rotate_left 1
        · intro _ _ _ _ _ x; exact x.elim
        intro v h2 tk2 g3 hv T3 F3 N3 B3 X3 Top3 D3
        obtain ⟨t8, hv9⟩ := hv.1 mv enr
        subst hv9
        refine wpG_of ?_
        k_steps
        all_goals (try exact trivial)
        refine wpG_of ?_
        k_steps
        all_goals (try exact trivial)
        refine wpG_of ?_
        k_steps
        · exact absurd htk.symm hq'
        · exact absurd htk.symm hq'
        · exact ⟨g3, _, _, _, rfl, ⟨T3, B3, X3, Top3, D3⟩, trivial, Fr.three (by assumption) (by with_unfolding_all rfl) (by with_unfolding_all rfl) (by with_unfolding_all rfl), News.sub (by assumption) (fun p hp => .tail _ hp)⟩
    clear F9 N9 TU BU XU TopU DU hlg
    rintro s9 ⟨g, m9, h, tk, rfl, ⟨TU, BU, XU, TopU, DU⟩, _, F9, N9⟩
    -- S12
    refine cutF (A₀ := LV 310 1100 l) (W := W) (base := base) (g₀ := s.heap) ⟨TU, BU, XU, TopU, DU⟩ F9 N9 ?_ ?_
    · refine ifOr2G (by intro _; rfl) (by intro _; rfl) ?_
      refine' callNameXG (f := 802) (K := Mine.hd.heap_1_1 W.w.params) ?hn ?hkp ?_ rfl rfl
      case hn =>
        intro Q' hq
        k_steps
        exact hq
      case hkp => k_is
      k_steps
      have hdl : (enc n).dropLast.length ≤ 15 := by rw [List.length_dropLast]; omega
      refine' useG (s_number_read W (enc n).dropLast 64 _ _ (by decide) (by decide) (by omega)) HB BU DU ?F ?N TU ?hA ?hf ?hk ?hh ?hdp ?hun ?_ ?_
      walk_at "M useG"
      rotate_left 1
      · intro _ _ _ _ _ x; exact x.elim
      intro v h2 tk2 g3 hv T3 F3 N3 B3 X3 Top3 D3
      have hv9 := hv.2 (by unfold numRead; rw [if_pos ⟨by decide, by decide⟩, rd_cut]; rfl)
      subst hv9
      k_steps
      refine wpG_of ?_
      k_steps
      unfold Hold
      have hv9 := hv'.2 (fun h => absurd h.2.2.1 (by omega))
      subst hv9
      k_steps
      exact ⟨gU, (), _, _, rfl, ⟨TU, BU, XU, TopU, DU⟩, trivial, F', N'⟩
    clear F9 N9 TU BU XU TopU DU
    intro g h tk ⟨TU, BU, XU, TopU, DU⟩ F9 N9
    -- S13
    refine cutF (A₀ := LV 310 1100 l) (W := W) (base := base) (g₀ := s.heap) ⟨TU, BU, XU, TopU, DU⟩ F9 N9 ?_ ?_
    · refine ifOr2G (by intro _; rfl) (by intro _; rfl) ?_
      have f2i := fmb (0 + (i : Int)) 2 (by decide)
      refine wpG_of ?_
      k_steps
      unfold Hold
      refine litem (by assumption) (by k_mem) f2i.1 2 rfl f2i.2 (by decide) (by with_unfolding_all rfl) ?_
      intro v hv
      obtain ⟨bt, tbt, rfl, hbt, hbt0, hbt1⟩ := w65 hv
      clear hv
      k_steps
      unfold Hold
      have hv9 := hv'.2 (fun h => hbt ⟨h.1, h.2.1⟩)
      subst hv9
      k_steps
      refine' callNameXG (f := 802) (K := Mine.hd.heap_1_1 W.w.params) ?hn ?hkp ?_ rfl rfl
      case hn =>
        intro Q' hq
        k_steps
        exact hq
      case hkp => k_is
      k_steps
      unfold Hold
      refine litem (by assumption) (by k_mem) f2i.1 2 rfl f2i.2 (by decide) (by with_unfolding_all rfl) ?_
      intro v hv
      obtain ⟨bt2, tbt2, rfl, hbt2, hbt20, hbt21⟩ := w65 hv
      clear hv
      k_steps
      refine' useG (s_number_read W [5] bt2 _ _ (by omega) (by omega) (by decide)) HB BU DU ?F ?N TU ?hA ?hf ?hk ?hh ?hdp ?hun ?_ ?_
      walk_at "M useG"
      rotate_left 1
      · intro _ _ _ _ _ x; exact x.elim
      intro v h2 tk2 g3 hv T3 F3 N3 B3 X3 Top3 D3
      have hv9 := hv.2 (by unfold numRead; rw [if_neg hbt2])
      subst hv9
      k_steps
      exact ⟨g3, (), _, _, rfl, ⟨T3, B3, X3, Top3, D3⟩, trivial, F3, News.sub N3 (fun p hp => .tail _ (.tail _ hp))⟩
    clear F9 N9 TU BU XU TopU DU
    intro g h tk ⟨TU, BU, XU, TopU, DU⟩ F9 N9
    refine wpG_execs_nil ?_
    exact ⟨g, ⟨_, oC⟩, _, _, rfl, ⟨TU, BU, XU, TopU, DU⟩, ⟨_, dk⟩, F9, N9⟩
  case hdone =>
    clear F2 N2 B' X' T' hap ho d1
    intro g ⟨m, ok⟩ h tk ⟨TU, BU, XU, TopU, DU⟩ ⟨w, d1⟩ F' N'
    refine wpG_of ?_
    k_steps
    exact hret _ _ (Same.of_turn TU (Fr.keep F'))
end
-- ML
section
theorem gd (a tl : List UInt8) (i j : Nat) (h : a.length = i) : (a ++ tl).getD (i + j) 0 = tl.getD j 0 := by
  rw [List.getD_eq_getElem?_getD, List.getD_eq_getElem?_getD, List.getElem?_append_right (by omega)]
  congr 2
  omega
theorem turn_getD (b : List UInt8) (k i : Nat) (hk : k < b.length) : (turn b k).getD i 0 = if i = k then b.getD k 0 ^^^ 1 else b.getD i 0 := by
  unfold turn
  have hl : (b.take k).length = k := by rw [List.length_take]; omega
  by_cases h1 : i < k
  · rw [if_neg (by omega), List.append_assoc, List.getD_eq_getElem?_getD, List.getElem?_append_left (by omega), List.getElem?_take, if_pos h1, ← List.getD_eq_getElem?_getD]
  · by_cases h2 : i = k
    · subst h2
      rw [if_pos rfl, List.append_assoc]
      exact gd (b.take i) ([b.getD i 0 ^^^ 1] ++ b.drop (i + 1)) i 0 hl
    · rw [if_neg h2, List.append_assoc]
      obtain ⟨j, rfl⟩ : ∃ j, i = k + (j + 1) := ⟨i - k - 1, by omega⟩
      rw [gd (b.take k) ([b.getD k 0 ^^^ 1] ++ b.drop (k + 1)) k (j + 1) hl]
      show (b.drop (k + 1)).getD j 0 = _
      rw [List.getD_eq_getElem?_getD, List.getD_eq_getElem?_getD, List.getElem?_drop]
      congr 2
      omega
theorem comp25 (b : List UInt8) (hl : b.length = 25) (h : ¬ ((b.getD 0 0).toNat = 118 ∧ (b.getD 1 0).toNat = 169 ∧ (b.getD 2 0).toNat = 20 ∧ (b.getD 23 0).toNat = 136 ∧ (b.getD 24 0).toNat = 172)) : compS b = none := by
  unfold compS
  rw [if_neg (by omega), if_neg (by omega), if_neg (by omega), if_neg (by omega)]
theorem comp23 (b : List UInt8) (hl : b.length = 23) (h : ¬ ((b.getD 0 0).toNat = 169 ∧ (b.getD 1 0).toNat = 20 ∧ (b.getD 22 0).toNat = 135)) : compS b = none := by
  unfold compS
  rw [if_neg (by omega), if_neg (by omega), if_neg (by omega), if_neg (by omega)]
theorem comp35 (b : List UInt8) (hl : b.length = 35) (h : ¬ ((b.getD 0 0).toNat = 33 ∧ (b.getD 34 0).toNat = 172 ∧ ((b.getD 1 0).toNat = 2 ∨ (b.getD 1 0).toNat = 3))) : compS b = none := by
  unfold compS
  rw [if_neg (by omega), if_neg (by omega), if_neg (by omega), if_neg (by omega)]
theorem comp67 (b : List UInt8) (hl : b.length = 67) (h : (b.getD 0 0).toNat = 65 → (b.getD 66 0).toNat = 172 → (b.getD 1 0).toNat = 4 → pointP ((b.drop 1).take 65) = none) : compS b = none := by
  unfold compS
  rw [if_neg (by omega), if_neg (by omega), if_neg (by omega), if_neg (fun ⟨_, h0, h66, h1, hp⟩ => by rw [h h0 h66 h1] at hp; cases hp)]
theorem compO (b : List UInt8) (h1 : b.length ≠ 25) (h2 : b.length ≠ 23) (h3 : b.length ≠ 35) (h4 : b.length ≠ 67) : compS b = none := by
  unfold compS
  rw [if_neg (by omega), if_neg (by omega), if_neg (by omega), if_neg (by omega)]
/-- what the law needs of a script -/
structure Good (o : List UInt8) (sh : Option (List UInt8)) : Prop where
  len : o.length ≤ 300
  comp : compS o = sh
  serlen : (serS o).length ≤ 400
  parse : parseS (serS o) = some o
  cut : 1 < (serS o).length → parseS (serS o).dropLast = none
  known : ∀ r, sh = some r → (o.length = 25 ∨ o.length = 23 ∨ o.length = 35 ∨ o.length = 67) ∧ 1 ≤ r.length ∧ r.length ≤ 100 ∧ decS ((r.getD 0 0).toNat : Nat) (r.drop 1) = some o ∧ (∀ k ∈ places o.length, compS (turn o k) = none) ∧
    decS ((r.getD 0 0).toNat : Nat) (r.drop 1 ++ [0]) = none ∧ decS ((r.getD 0 0).toNat : Nat) (r.drop 1).dropLast = none
theorem dec_len (k : Int) (c : List UInt8) (h : c.length ≠ if k < 2 then 20 else 32) : decS k c = none := by
  unfold decS
  rw [if_neg (fun hh => h hh.2.2)]
theorem good_none {o : List UInt8} (hl : o.length ≤ 300) (hc : compS o = none) : Good o none := by
  have hs : serS o = enc (o.length + 6) ++ o := by unfold serS; rw [hc]
  have hel := enc_len (n := o.length + 6) (by omega)
  have hp : ∀ t, rd (2 ^ 32) 0 (enc (o.length + 6) ++ t) = some (o.length + 6, t) := fun t => by rw [rd_enc _ _ _ (by decide), if_pos (by omega)]
  refine ⟨hl, hc, by rw [hs, List.length_append]; omega, ?_, fun h1 => ?_, fun r h => by cases h⟩
  · unfold parseS
    rw [hs, hp]
    show (if o.length + 6 < 6 then _ else (if o.length + 6 - 6 ≤ o.length then (if o.length + 6 - 6 ≤ 10000 then some (o.take (o.length + 6 - 6)) else some [106]) else none)) = _
    rw [if_neg (by omega), if_pos (by omega), if_pos (by omega), Nat.add_sub_cancel, List.take_length]
  · rw [hs] at h1 ⊢
    by_cases ho : o = []
    · subst ho
      exact absurd h1 (by
        have e : enc (([] : List UInt8).length + 6) = [6] := by unfold enc; rw [show (([] : List UInt8).length + 6) / 128 = 0 from rfl, P_zero]; rfl
        rw [e]; decide)
    · rw [List.dropLast_append_of_ne_nil ho]
      unfold parseS
      rw [hp]
      have : 0 < o.length := List.length_pos_iff.mpr ho
      show (if o.length + 6 < 6 then _ else (if o.length + 6 - 6 ≤ o.dropLast.length then _ else none)) = _
      rw [if_neg (by omega), if_neg (by rw [List.length_dropLast]; omega)]
theorem good_some {o c : List UInt8} {k : UInt8} (hl : o.length = 25 ∨ o.length = 23 ∨ o.length = 35 ∨ o.length = 67) (hc : compS o = some (k :: c)) (hk : k.toNat < 6) (hcl : c.length = if k.toNat < 2 then 20 else 32) (hd : decS (k.toNat : Nat) c = some o)
    (ht : ∀ j ∈ places o.length, compS (turn o j) = none) : Good o (some (k :: c)) := by
  have hs : serS o = k :: c := by unfold serS; rw [hc]
  have hcl2 : c.length = if (((k.toNat : Nat) : Int)) < 2 then 20 else 32 := by rw [hcl]; split <;> split <;> first | rfl | omega
  have hc1 : 20 ≤ c.length ∧ c.length ≤ 32 := by rw [hcl]; split <;> omega
  have hp : ∀ t, rd (2 ^ 32) 0 (k :: t) = some (k.toNat, t) := fun t => by
    rw [rd, if_neg (by omega), if_pos (by omega)]
    congr 2
    omega
  refine ⟨by omega, hc, by rw [hs, List.length_cons]; omega, ?_, fun _ => ?_, fun r h => ?_⟩
  · unfold parseS
    rw [hs, hp]
    show (if k.toNat < 6 then (if (if k.toNat < 2 then 20 else 32) ≤ c.length then some ((decS (k.toNat : Nat) (c.take (if k.toNat < 2 then 20 else 32))).getD []) else none) else _) = _
    rw [if_pos hk, ← hcl, if_pos (Nat.le_refl _), List.take_length, hd]
    rfl
  · rw [hs]
    have hne : c ≠ [] := fun e => by rw [e] at hc1; exact absurd hc1.1 (by decide)
    rw [List.dropLast_cons_of_ne_nil hne]
    unfold parseS
    rw [hp]
    show (if k.toNat < 6 then (if (if k.toNat < 2 then 20 else 32) ≤ c.dropLast.length then _ else none) else _) = _
    rw [if_pos hk, ← hcl, if_neg (by rw [List.length_dropLast]; omega)]
  · cases h
    refine ⟨hl, by rw [List.length_cons]; omega, by rw [List.length_cons]; omega, hd, ht, dec_len _ _ ?_, dec_len _ _ ?_⟩
    · show (c ++ [0]).length ≠ if (((k.toNat : Nat) : Int)) < 2 then 20 else 32
      rw [← hcl2, List.length_append]
      show c.length + 1 ≠ c.length
      omega
    · show c.dropLast.length ≠ if (((k.toNat : Nat) : Int)) < 2 then 20 else 32
      rw [← hcl2, List.length_dropLast]
      omega
end
-- MM
section
theorem not_turn {v w : UInt8} (h : v = w) (m : Nat) (hm : (w ^^^ 1).toNat ≠ m) : (v ^^^ 1).toNat ≠ m := by rw [h]; exact hm
theorem good_k0 (nm : List UInt8) (hn : nm.length = 20) : Good (118 :: 169 :: 20 :: (nm ++ [136, 172])) (some (0 :: nm)) := by
  have hl : (118 :: 169 :: 20 :: (nm ++ [136, 172]) : List UInt8).length = 25 := by simp only [List.length_cons, List.length_append, List.length_nil]; omega
  have g23 : (118 :: 169 :: 20 :: (nm ++ [136, 172]) : List UInt8).getD 23 0 = 136 := gd nm [136, 172] 20 0 hn
  have g24 : (118 :: 169 :: 20 :: (nm ++ [136, 172]) : List UInt8).getD 24 0 = 172 := gd nm [136, 172] 20 1 hn
  have g0 : (118 :: 169 :: 20 :: (nm ++ [136, 172]) : List UInt8).getD 0 0 = 118 := rfl
  have g1 : (118 :: 169 :: 20 :: (nm ++ [136, 172]) : List UInt8).getD 1 0 = 169 := rfl
  have g2 : (118 :: 169 :: 20 :: (nm ++ [136, 172]) : List UInt8).getD 2 0 = 20 := rfl
  refine good_some (.inl hl) ?_ (by decide) (by rw [hn]; rfl) ?_ ?_
  · unfold compS
    rw [if_pos ⟨hl, by rw [g0]; rfl, by rw [g1]; rfl, by rw [g2]; rfl, by rw [g23]; rfl, by rw [g24]; rfl⟩]
    show some (0 :: (nm ++ [136, 172]).take 20) = _
    rw [← hn, List.take_left]
  · unfold decS
    rw [if_pos ⟨by decide, by decide, by rw [hn]; rfl⟩, if_pos (by decide)]
    rfl
  · intro j hj
    rw [hl] at hj
    generalize (118 :: 169 :: 20 :: (nm ++ [136, 172]) : List UInt8) = b at *
    have hj2 : j < b.length := by rw [hl]; unfold places at hj; simp only [if_true, List.mem_cons, List.not_mem_nil, or_false] at hj; omega
    have hq : ∀ i, (turn b j).getD i 0 = if i = j then b.getD j 0 ^^^ 1 else b.getD i 0 := fun i => turn_getD b j i hj2
    refine comp25 _ (by rw [turn_len b j (by rw [hl]; exact hj), hl]) ?_
    rintro ⟨a0, a1, a2, a3, a4⟩
    rw [hq] at a0 a1 a2 a3 a4
    unfold places at hj
    simp only [if_true, List.mem_cons, List.not_mem_nil, or_false] at hj
    rcases hj with rfl | rfl | rfl | rfl | rfl
    · rw [if_pos rfl, g0] at a0; exact absurd a0 (by decide)
    · rw [if_pos rfl, g1] at a1; exact absurd a1 (by decide)
    · rw [if_pos rfl, g2] at a2; exact absurd a2 (by decide)
    · rw [if_pos rfl, g23] at a3; exact absurd a3 (by decide)
    · rw [if_pos rfl, g24] at a4; exact absurd a4 (by decide)
theorem good_k1 (nm : List UInt8) (hn : nm.length = 20) : Good (169 :: 20 :: (nm ++ [135])) (some (1 :: nm)) := by
  have hl : (169 :: 20 :: (nm ++ [135]) : List UInt8).length = 23 := by simp only [List.length_cons, List.length_append, List.length_nil]; omega
  have g22 : (169 :: 20 :: (nm ++ [135]) : List UInt8).getD 22 0 = 135 := gd nm [135] 20 0 hn
  have g0 : (169 :: 20 :: (nm ++ [135]) : List UInt8).getD 0 0 = 169 := rfl
  have g1 : (169 :: 20 :: (nm ++ [135]) : List UInt8).getD 1 0 = 20 := rfl
  refine good_some (.inr (.inl hl)) ?_ (by decide) (by rw [hn]; rfl) ?_ ?_
  · unfold compS
    rw [if_neg (by omega), if_pos ⟨hl, by rw [g0]; rfl, by rw [g1]; rfl, by rw [g22]; rfl⟩]
    show some (1 :: (nm ++ [135]).take 20) = _
    rw [← hn, List.take_left]
  · unfold decS
    rw [if_pos ⟨by decide, by decide, by rw [hn]; rfl⟩, if_neg (by decide), if_pos (by decide)]
    rfl
  · intro j hj
    rw [hl] at hj
    generalize (169 :: 20 :: (nm ++ [135]) : List UInt8) = b at *
    have hp : places 23 = [0, 1, 22] := rfl
    rw [hp] at hj
    simp only [List.mem_cons, List.not_mem_nil, or_false] at hj
    have hj2 : j < b.length := by rw [hl]; omega
    have hq : ∀ i, (turn b j).getD i 0 = if i = j then b.getD j 0 ^^^ 1 else b.getD i 0 := fun i => turn_getD b j i hj2
    refine comp23 _ (by rw [turn_len b j (by rw [hl, hp]; simp only [List.mem_cons, List.not_mem_nil, or_false]; exact hj), hl]) ?_
    rintro ⟨a0, a1, a2⟩
    rw [hq] at a0 a1 a2
    rcases hj with rfl | rfl | rfl
    · rw [if_pos rfl, g0] at a0; exact absurd a0 (by decide)
    · rw [if_pos rfl, g1] at a1; exact absurd a1 (by decide)
    · rw [if_pos rfl, g22] at a2; exact absurd a2 (by decide)
theorem good_k2 (c : UInt8) (x : List UInt8) (hc : c = 2 ∨ c = 3) (hn : x.length = 32) : Good (33 :: c :: (x ++ [172])) (some (c :: x)) := by
  have hl : (33 :: c :: (x ++ [172]) : List UInt8).length = 35 := by simp only [List.length_cons, List.length_append, List.length_nil]; omega
  have g34 : (33 :: c :: (x ++ [172]) : List UInt8).getD 34 0 = 172 := gd x [172] 32 0 hn
  have g0 : (33 :: c :: (x ++ [172]) : List UInt8).getD 0 0 = 33 := rfl
  have g1 : (33 :: c :: (x ++ [172]) : List UInt8).getD 1 0 = c := rfl
  have hc2 : c.toNat = 2 ∨ c.toNat = 3 := by rcases hc with rfl | rfl <;> decide
  refine good_some (.inr (.inr (.inl hl))) ?_ (by omega) (by rw [hn, if_neg (by omega)]) ?_ ?_
  · unfold compS
    rw [if_neg (by omega), if_neg (by omega), if_pos ⟨hl, by rw [g0]; rfl, by rw [g34]; rfl, by rw [g1]; exact hc2⟩]
    show some (c :: (x ++ [172]).take 32) = _
    rw [← hn, List.take_left]
  · unfold decS
    rw [if_pos ⟨by omega, by omega, by rw [hn, if_neg (by omega)]⟩, if_neg (by omega), if_neg (by omega), if_pos (by omega), Int.toNat_natCast]
    rw [show c.toNat.toUInt8 = c from UInt8.ofNat_toNat]
    rfl
  · intro j hj
    rw [hl] at hj
    generalize (33 :: c :: (x ++ [172]) : List UInt8) = b at *
    have hp : places 35 = [0, 34] := rfl
    rw [hp] at hj
    simp only [List.mem_cons, List.not_mem_nil, or_false] at hj
    have hj2 : j < b.length := by rw [hl]; omega
    have hq : ∀ i, (turn b j).getD i 0 = if i = j then b.getD j 0 ^^^ 1 else b.getD i 0 := fun i => turn_getD b j i hj2
    refine comp35 _ (by rw [turn_len b j (by rw [hl, hp]; simp only [List.mem_cons, List.not_mem_nil, or_false]; exact hj), hl]) ?_
    rintro ⟨a0, a1, a2⟩
    rw [hq] at a0 a1
    rcases hj with rfl | rfl
    · rw [if_pos rfl, g0] at a0; exact absurd a0 (by decide)
    · rw [if_pos rfl, g34] at a1; exact absurd a1 (by decide)
end
-- MN
section
theorem pts_off : ∀ q ∈ pts, ((q.2 + 1) % pP ≠ evenY q.1 ∧ (q.2 + 1) % pP ≠ pP - evenY q.1) ∧ ((pP - q.2 + 1) % pP ≠ evenY q.1 ∧ (pP - q.2 + 1) % pP ≠ pP - evenY q.1) := by decide +kernel
theorem evenY_even (x : Nat) : evenY x % 2 = 0 := by
  unfold evenY
  have := root_lt x
  have hP := pP_eq
  split <;> omega
/-- a listed point, in plain numbers -/
theorem pt_nat {x y : Int} (h : onPt x y) : ∃ X Y : Nat, x = (X : Int) ∧ y = (Y : Int) ∧ X < pP ∧ Y < pP ∧ onC X ∧ (Y = evenY X ∨ Y = pP - evenY X) ∧ (Y + 1) % pP ≠ evenY X ∧ (Y + 1) % pP ≠ pP - evenY X := by
  obtain ⟨q, hq, rfl, hy⟩ := h
  obtain ⟨a1, a2, a3, a4, a5, _⟩ := pts_on q hq
  obtain ⟨b1, b2⟩ := pts_off q hq
  have hE := evenY_le q.1
  rcases hy with rfl | rfl
  · exact ⟨q.1, q.2, rfl, rfl, a1, a2, a4, a5, b1⟩
  · refine ⟨q.1, pP - q.2, rfl, by omega, a1, by omega, a4, ?_, b2⟩
    rcases a5 with e | e
    · exact .inr (by rw [e])
    · exact .inl (by omega)
theorem side_of {X Y : Nat} (h : Y = evenY X ∨ Y = pP - evenY X) (hY : Y < pP) : sideY (Y % 2) X = Y := by
  have h1 := evenY_even X
  have h2 := evenY_le X
  have hP := pP_eq
  unfold sideY
  rcases h with e | e
  · rw [if_pos (by omega)]; omega
  · by_cases he : evenY X % 2 = Y % 2
    · rw [if_pos he]; omega
    · rw [if_neg he]; omega
theorem pw32 : (256 : Nat) ^ 32 = 115792089237316195423570985008687907853269984665640564039457584007913129639936 := by decide +kernel
theorem beVal_be32 {n : Nat} (h : n < pP + 100) : beVal (be 32 n) = n := beVal_be 32 n (by rw [pw32]; have hP := pP_eq; omega)
theorem be_last (n : Nat) (t : List UInt8) : (be 32 n ++ t).getD 31 0 = UInt8.ofNat (n % 256) := by
  rw [be_succ 31 n, List.append_assoc]
  exact gd (be 31 (n / 256)) ([UInt8.ofNat (n % 256)] ++ t) 31 0 (be_len _ _)
section
variable (X Y : List UInt8) (hX : X.length = 32) (hY : Y.length = 32)
include hX hY
theorem sh_len : (65 :: 4 :: (X ++ Y ++ [172]) : List UInt8).length = 67 := by simp only [List.length_cons, List.length_append, List.length_nil]; omega
theorem sh_66 : (65 :: 4 :: (X ++ Y ++ [172]) : List UInt8).getD 66 0 = 172 := gd (X ++ Y) [172] 64 0 (by rw [List.length_append]; omega)
theorem sh_65 : (65 :: 4 :: (X ++ Y ++ [172]) : List UInt8).getD 65 0 = (Y ++ [172]).getD 31 0 := by
  show (X ++ Y ++ [172]).getD (32 + 31) 0 = _
  rw [List.append_assoc]
  exact gd X (Y ++ [172]) 32 31 hX
theorem sh_key : ((65 :: 4 :: (X ++ Y ++ [172]) : List UInt8).drop 1).take 65 = 4 :: (X ++ Y) := by
  show (4 :: (X ++ Y ++ [172])).take 65 = _
  rw [List.take_succ_cons, show 64 = (X ++ Y).length from by rw [List.length_append]; omega, List.take_left]
theorem sh_point : pointP (4 :: (X ++ Y)) = if onC (beVal X) ∧ (beVal Y = evenY (beVal X) ∨ beVal Y = pP - evenY (beVal X)) then some (beVal X, beVal Y) else none := by
  have e1 : ((4 :: (X ++ Y) : List UInt8).drop 1).take 32 = X := by show (X ++ Y).take 32 = X; rw [← hX, List.take_left]
  have e2 : (4 :: (X ++ Y) : List UInt8).drop 33 = Y := by show (X ++ Y).drop 32 = Y; rw [← hX, List.drop_left]
  have hl : (4 :: (X ++ Y) : List UInt8).length = 65 := by rw [List.length_cons, List.length_append]; omega
  have h4 : ((4 :: (X ++ Y) : List UInt8).getD 0 0).toNat = 4 := rfl
  unfold pointP
  rw [e1, e2, if_neg (by omega)]
  by_cases hc : onC (beVal X) ∧ (beVal Y = evenY (beVal X) ∨ beVal Y = pP - evenY (beVal X))
  · rw [if_pos hc, if_pos ⟨hl, h4, hc.1, hc.2⟩]
  · rw [if_neg hc, if_neg (fun h => hc ⟨h.2.2.1, h.2.2.2⟩)]
end
theorem take32 (X T : List UInt8) (h : X.length = 32) : List.take 32 (X ++ T) = X := by rw [← h, List.take_left]
theorem good_k3 (x y : Int) (h : onPt x y) : Good (65 :: 4 :: (be 32 x.toNat ++ be 32 y.toNat ++ [172])) (some ((4 + y.fmod 2).toNat.toUInt8 :: List.take 32 (be 32 x.toNat ++ be 32 y.toNat))) := by
  obtain ⟨X, Y, rfl, rfl, hX, hY, hon, hev, _⟩ := pt_nat h
  rw [Int.toNat_natCast, Int.toNat_natCast, fm2n]
  have ek : (4 + ((Y % 2 : Nat) : Int)).toNat = 4 + Y % 2 := by omega
  rw [ek]
  have lx := be_len 32 X
  have ly := be_len 32 Y
  have hl := sh_len _ _ lx ly
  have g66 := sh_66 _ _ lx ly
  have hkey := sh_key _ _ lx ly
  have hpt := sh_point _ _ lx ly
  have vx : beVal (be 32 X) = X := beVal_be32 (by omega)
  have vy : beVal (be 32 Y) = Y := beVal_be32 (by omega)
  rw [vx, vy, if_pos ⟨hon, hev⟩] at hpt
  have g0 : (65 :: 4 :: (be 32 X ++ be 32 Y ++ [172]) : List UInt8).getD 0 0 = 65 := rfl
  have g1 : (65 :: 4 :: (be 32 X ++ be 32 Y ++ [172]) : List UInt8).getD 1 0 = 4 := rfl
  have g65 : (65 :: 4 :: (be 32 X ++ be 32 Y ++ [172]) : List UInt8).getD 65 0 = UInt8.ofNat (Y % 256) := by
    rw [sh_65 _ _ lx ly]
    exact be_last Y [172]
  have etk : List.take 32 (be 32 X ++ be 32 Y) = be 32 X := take32 _ _ lx
  rw [etk]
  have hku : ((4 + Y % 2).toUInt8).toNat = 4 + Y % 2 := u8 _ (by omega)
  refine good_some (.inr (.inr (.inr hl))) ?_ (by rw [hku]; omega) (by rw [hku, lx, if_neg (by omega)]) ?_ ?_
  · unfold compS
    rw [if_neg (by omega), if_neg (by omega), if_neg (by omega), if_pos ⟨hl, by rw [g0]; rfl, by rw [g66]; rfl, by rw [g1]; rfl, by rw [hkey, hpt]; rfl⟩, g65, u8 _ (Nat.mod_lt _ (by decide))]
    have e2 : Y % 256 % 2 = Y % 2 := by omega
    rw [e2]
    show some (_ :: (be 32 X ++ be 32 Y ++ [172]).take 32) = _
    rw [List.append_assoc, take32 _ _ lx]
  · unfold decS
    rw [hku, if_pos ⟨by omega, by omega, by rw [lx, if_neg (by omega)]⟩, if_neg (by omega), if_neg (by omega), if_neg (by omega), vx, if_pos hon]
    have e3 : ((4 + Y % 2 : Nat) : Int).toNat - 4 = Y % 2 := by omega
    rw [e3, side_of hev hY]
    simp only [List.cons_append, List.nil_append]
  · intro j hj
    rw [hl] at hj
    generalize (65 :: 4 :: (be 32 X ++ be 32 Y ++ [172]) : List UInt8) = b at *
    have hp : places 67 = [0, 1, 66] := rfl
    rw [hp] at hj
    simp only [List.mem_cons, List.not_mem_nil, or_false] at hj
    have hj2 : j < b.length := by rw [hl]; omega
    have hq : ∀ i, (turn b j).getD i 0 = if i = j then b.getD j 0 ^^^ 1 else b.getD i 0 := fun i => turn_getD b j i hj2
    refine comp67 _ (by rw [turn_len b j (by rw [hl, hp]; simp only [List.mem_cons, List.not_mem_nil, or_false]; exact hj), hl]) (fun a0 a66 a1 => ?_)
    rw [hq] at a0 a66 a1
    rcases hj with rfl | rfl | rfl
    · rw [if_pos rfl, g0] at a0; exact absurd a0 (by decide)
    · rw [if_pos rfl, g1] at a1; exact absurd a1 (by decide)
    · rw [if_pos rfl, g66] at a66; exact absurd a66 (by decide)
theorem good_k3n (x y : Int) (h : onPt x y) : Good (65 :: 4 :: (be 32 x.toNat ++ be 32 ((y + 1).fmod 115792089237316195423570985008687907853269984665640564039457584007908834671663).toNat ++ [172])) none := by
  obtain ⟨X, Y, rfl, rfl, hX, hY, hon, hev, n1, n2⟩ := pt_nat h
  have ez : (((Y : Int) + 1).fmod 115792089237316195423570985008687907853269984665640564039457584007908834671663).toNat = (Y + 1) % pP := by
    rw [Int.fmod_eq_emod_of_nonneg _ (by decide)]
    show (((Y + 1 : Nat) : Int) % ((pP : Nat) : Int)).toNat = _
    rw [← Int.natCast_emod, Int.toNat_natCast]
  rw [Int.toNat_natCast, ez]
  have lx := be_len 32 X
  have ly := be_len 32 ((Y + 1) % pP)
  have hl := sh_len _ _ lx ly
  refine good_none (by omega) (comp67 _ hl fun _ _ _ => ?_)
  rw [sh_key _ _ lx ly, sh_point _ _ lx ly, beVal_be32 (by omega), beVal_be32 (by have := Nat.mod_lt (Y + 1) (show 0 < pP by decide); omega), if_neg (fun h => h.2.elim n1 n2)]
theorem good_k4 (nm o : List UInt8) (hn : nm.length = 20) (h : o ∈ kind4 nm) : Good o none := by
  have L : ∀ l : List UInt8, l.length = 12 → (nm ++ l).length = 32 := fun l hl => by rw [List.length_append]; omega
  unfold kind4 at h
  simp only [List.mem_cons, List.not_mem_nil, or_false] at h
  rcases h with rfl | rfl | rfl | rfl | rfl | rfl | rfl | rfl
  · have hl : (118 :: 169 :: 20 :: (nm ++ [136, 173]) : List UInt8).length = 25 := by simp only [List.length_cons, List.length_append, List.length_nil]; omega
    have g : (118 :: 169 :: 20 :: (nm ++ [136, 173]) : List UInt8).getD 24 0 = 173 := gd nm [136, 173] 20 1 hn
    exact good_none (by omega) (comp25 _ hl (fun h => by rw [g] at h; exact absurd h.2.2.2.2 (by decide)))
  · have hl : (118 :: 169 :: 19 :: (nm ++ [136, 172]) : List UInt8).length = 25 := by simp only [List.length_cons, List.length_append, List.length_nil]; omega
    exact good_none (by omega) (comp25 _ hl (fun h => absurd (show (19 : UInt8).toNat = 20 from h.2.2.1) (by decide)))
  · have hl : (169 :: 20 :: (nm ++ [136]) : List UInt8).length = 23 := by simp only [List.length_cons, List.length_append, List.length_nil]; omega
    have g : (169 :: 20 :: (nm ++ [136]) : List UInt8).getD 22 0 = 136 := gd nm [136] 20 0 hn
    exact good_none (by omega) (comp23 _ hl (fun h => by rw [g] at h; exact absurd h.2.2 (by decide)))
  · have hl : (170 :: 20 :: (nm ++ [135]) : List UInt8).length = 23 := by simp only [List.length_cons, List.length_append, List.length_nil]; omega
    exact good_none (by omega) (comp23 _ hl (fun h => absurd (show (170 : UInt8).toNat = 169 from h.1) (by decide)))
  · have hl : (33 :: 4 :: (nm ++ List.replicate 12 0 ++ [172]) : List UInt8).length = 35 := by simp only [List.length_cons, List.length_append, List.length_nil, List.length_replicate]; omega
    exact good_none (by omega) (comp35 _ hl (fun h => by
      have h1 : (4 : UInt8).toNat = 2 ∨ (4 : UInt8).toNat = 3 := h.2.2
      exact absurd h1 (by decide)))
  · have hl : (33 :: 2 :: (nm ++ List.replicate 12 0 ++ [173]) : List UInt8).length = 35 := by simp only [List.length_cons, List.length_append, List.length_nil, List.length_replicate]; omega
    have g : (33 :: 2 :: (nm ++ List.replicate 12 0 ++ [173]) : List UInt8).getD 34 0 = 173 := gd (nm ++ List.replicate 12 0) [173] 32 0 (L _ List.length_replicate)
    exact good_none (by omega) (comp35 _ hl (fun h => by rw [g] at h; exact absurd h.2.1 (by decide)))
  · have hl : (65 :: 5 :: (List.replicate 64 0 ++ [172]) : List UInt8).length = 67 := rfl
    exact good_none (by omega) (comp67 _ hl (fun _ _ h => absurd (show (5 : UInt8).toNat = 4 from h) (by decide)))
  · have hl : (65 :: 4 :: (List.replicate 64 0 ++ [172]) : List UInt8).length = 67 := rfl
    refine good_none (by omega) (comp67 _ hl (fun _ _ _ => ?_))
    have e : (65 :: 4 :: (List.replicate 64 0 ++ [172]) : List UInt8) = 65 :: 4 :: (List.replicate 32 0 ++ List.replicate 32 0 ++ [172]) := rfl
    rw [e, sh_key _ _ rfl rfl, sh_point _ _ rfl rfl, if_neg]
    intro h
    exact zero_off (by have e0 : beVal (List.replicate 32 0) = 0 := by decide +kernel
                       rw [e0] at h; exact h.1)
theorem k5_at (m : Int) (n i : Nat) (hi : i < n) : ((((List.map (fun k' => (m + k' * k').fmod 256) (rangeKs 0 n)).map fun n : Int => n.toNat.toUInt8).getD i 0).toNat : Int) = (m + (i : Int) * i) % 256 := by
  have e : (rangeKs 0 n)[i]? = some (i : Int) := by
    unfold rangeKs
    rw [List.getElem?_map, List.getElem?_range hi]
    show some ((0 : Int) + (i : Int)) = _
    rw [Int.zero_add]
  rw [List.getD_eq_getElem?_getD, List.getElem?_map, List.getElem?_map, e]
  show (((((m + (i : Int) * i).fmod 256).toNat.toUInt8).toNat : Nat) : Int) = _
  rw [Int.fmod_eq_emod_of_nonneg _ (by decide), show ((m + (i : Int) * i) % 256).toNat.toUInt8.toNat = ((m + (i : Int) * i) % 256).toNat from u8 _ (by omega)]
  omega
theorem good_k5 (m : Int) (n : Nat) (hn : n < 300) : Good ((List.map (fun k' => (m + k' * k').fmod 256) (rangeKs 0 n)).map fun n : Int => n.toNat.toUInt8) none := by
  have hl : ((List.map (fun k' => (m + k' * k').fmod 256) (rangeKs 0 n)).map fun n : Int => n.toNat.toUInt8).length = n := by rw [List.length_map, List.length_map, rangeKs_length]
  have hat := k5_at m n
  generalize ((List.map (fun k' => (m + k' * k').fmod 256) (rangeKs 0 n)).map fun n : Int => n.toNat.toUInt8) = b at *
  refine good_none (by omega) ?_
  by_cases h1 : n = 25
  · refine comp25 _ (by omega) (fun h => ?_)
    have a := hat 0 (by omega)
    have c := hat 1 (by omega)
    simp only [Int.natCast_zero, Int.natCast_one] at a c
    omega
  · by_cases h2 : n = 23
    · refine comp23 _ (by omega) (fun h => ?_)
      have a := hat 0 (by omega)
      have c := hat 1 (by omega)
      simp only [Int.natCast_zero, Int.natCast_one] at a c
      omega
    · by_cases h3 : n = 35
      · refine comp35 _ (by omega) (fun h => ?_)
        have a := hat 0 (by omega)
        have c : ((b.getD 34 0).toNat : Int) = (m + 34 * 34) % 256 := hat 34 (by omega)
        simp only [Int.natCast_zero] at a
        omega
      · by_cases h4 : n = 67
        · refine comp67 _ (by omega) (fun a0 _ a1 => ?_)
          have a := hat 0 (by omega)
          have c := hat 1 (by omega)
          simp only [Int.natCast_zero, Int.natCast_one] at a c
          omega
        · exact compO _ (by omega) (by omega) (by omega) (by omega)
theorem good {o : List UInt8} {sh : Option (List UInt8)} (h : ScriptR o sh) : Good o sh := by
  cases h with
  | k0 nm h => exact good_k0 nm h
  | k1 nm h => exact good_k1 nm h
  | k2 c x hc hn => exact good_k2 c x hc hn
  | k3 x y h => exact good_k3 x y h
  | k3n x y h => exact good_k3n x y h
  | k4 nm o hn h => exact good_k4 nm o hn h
  | k5 m n hn => exact good_k5 m n hn
end
-- MO
section
theorem rd_low {k : UInt8} (hk : k.toNat < 128) (t : List UInt8) : rd (2 ^ 32) 0 (k :: t) = some (k.toNat, t) := by
  have hp : (2 : Nat) ^ 32 = 4294967296 := by decide
  rw [rd, if_neg (by omega), if_pos (by omega)]
  congr 2
  omega
theorem side8 {sd : Nat} (h : sd < 2) : ((4 + (sd : Int)).toNat.toUInt8).toNat = 4 + sd := by
  have : (4 + (sd : Int)).toNat = 4 + sd := by omega
  rw [this]
  exact u8 _ (by omega)
theorem dec_side {X sd : Nat} (hX : X < 115792089237316195423570985008687907853269984665640564039457584007913129639936) (h : sd < 2) :
    decS (4 + (sd : Int)) (be 32 X) = if onC X then some ([65] ++ ([4] ++ be 32 X ++ be 32 (sideY sd X)) ++ [172]) else none := by
  have hb : beVal (be 32 X) = X := beVal_be 32 X (by rw [pw32]; exact hX)
  unfold decS
  have e1 : (4 + (sd : Int)).toNat - 4 = sd := by omega
  rw [hb, be_len, if_pos ⟨by omega, by omega, by rw [if_neg (by omega)]⟩, if_neg (by omega), if_neg (by omega), if_neg (by omega), e1]
theorem parse_side {X sd : Nat} (hX : X < 115792089237316195423570985008687907853269984665640564039457584007913129639936) (h : sd < 2) :
    parseS ((4 + (sd : Int)).toNat.toUInt8 :: be 32 X) = some (if onC X then ([65] ++ ([4] ++ be 32 X ++ be 32 (sideY sd X)) ++ [172]) else []) := by
  unfold parseS
  rw [rd_low (by rw [side8 h]; omega), side8 h]
  show (if 4 + sd < 6 then (if (if 4 + sd < 2 then 20 else 32) ≤ (be 32 X).length then some ((decS ((4 + sd : Nat) : Int) ((be 32 X).take (if 4 + sd < 2 then 20 else 32))).getD []) else none) else _) = _
  have hd := dec_side hX h
  have e2 : ((4 + sd : Nat) : Int) = 4 + (sd : Int) := by omega
  have e3 : (be 32 X).take 32 = be 32 X := List.take_of_length_le (by rw [be_len]; exact Nat.le_refl _)
  rw [if_pos (by omega), if_neg (by omega : ¬ 4 + sd < 2), be_len, if_pos (Nat.le_refl _), e2, e3, hd]
  split <;> rfl
theorem sideY_pos {X sd : Nat} (h : sd < 2) (hs : root X % 2 = sd) : sideY sd X = root X := by
  have hr := root_lt X
  have hP := pP_eq
  unfold sideY evenY
  (repeat' split) <;> omega
theorem sideY_neg {X sd : Nat} (h : sd < 2) (hs : root X % 2 ≠ sd) : sideY sd X = pP - root X := by
  have hr := root_lt X
  have hP := pP_eq
  unfold sideY evenY
  (repeat' split) <;> omega
theorem great_off : ¬ onC 115792089237316195423570985008687907853269984665640564039457584007908834671664 := fun h => absurd h.1 (by have := pP_eq; omega)
theorem parse_great : parseS ([4] ++ be 32 115792089237316195423570985008687907853269984665640564039457584007908834671664) = some [] := by
  have h := parse_side (X := 115792089237316195423570985008687907853269984665640564039457584007908834671664) (sd := 0) (by omega) (by decide)
  rw [if_neg great_off] at h
  exact h
theorem comp_great (y : Nat) : compS ([65, 4] ++ be 32 115792089237316195423570985008687907853269984665640564039457584007908834671664 ++ be 32 y ++ [172]) = none := by
  have e : (([65, 4] ++ be 32 115792089237316195423570985008687907853269984665640564039457584007908834671664 ++ be 32 y ++ [172] : List UInt8).drop 1).take 65 = [4] ++ be 32 115792089237316195423570985008687907853269984665640564039457584007908834671664 ++ be 32 y := by
    show (List.drop 1 (65 :: ([4] ++ be 32 115792089237316195423570985008687907853269984665640564039457584007908834671664 ++ be 32 y ++ [172]))).take 65 = _
    rw [List.drop_succ_cons, List.drop_zero]
    exact List.take_left' (by simp only [List.length_append, be_len, List.length_cons, List.length_nil])
  have hl : ([65, 4] ++ be 32 115792089237316195423570985008687907853269984665640564039457584007908834671664 ++ be 32 y ++ [172] : List UInt8).length = 67 := by simp only [List.length_append, be_len, List.length_cons, List.length_nil]
  have hp : pointP ([4] ++ be 32 115792089237316195423570985008687907853269984665640564039457584007908834671664 ++ be 32 y) = none := by
    have hb : beVal (be 32 115792089237316195423570985008687907853269984665640564039457584007908834671664) = 115792089237316195423570985008687907853269984665640564039457584007908834671664 := beVal_be 32 _ (by rw [pw32]; omega)
    have e2 : (([4] ++ be 32 115792089237316195423570985008687907853269984665640564039457584007908834671664 ++ be 32 y : List UInt8).drop 1).take 32 = be 32 115792089237316195423570985008687907853269984665640564039457584007908834671664 := by
      show (List.drop 1 (4 :: (be 32 115792089237316195423570985008687907853269984665640564039457584007908834671664 ++ be 32 y))).take 32 = _
      rw [List.drop_succ_cons, List.drop_zero]
      exact List.take_left' (be_len _ _)
    unfold pointP
    rw [if_neg (fun h => by have h1 := h.1; simp only [List.length_append, be_len, List.length_cons, List.length_nil] at h1; omega), e2, hb, if_neg (fun h => great_off h.2.2.1)]
  unfold compS
  rw [if_neg (fun h => by rw [hl] at h; exact absurd h.1 (by decide)), if_neg (fun h => by rw [hl] at h; exact absurd h.1 (by decide)), if_neg (fun h => by rw [hl] at h; exact absurd h.1 (by decide)), e, hp, if_neg (fun h => absurd h.2.2.2.2 (by simp))]
theorem rd_ten (n : Nat) (hn : n < 2 ^ 32) (t : List UInt8) : rd (2 ^ 32) 0 (enc n ++ t) = some (n, t) := by rw [rd_enc _ _ _ (by decide), if_pos hn]
theorem parse_ten (n m : Nat) (h6 : 6 ≤ n) (hn : n < 2 ^ 32) : parseS (enc n ++ List.replicate m 0) = if n - 6 ≤ m then (if n - 6 ≤ 10000 then some (List.replicate (n - 6) 0) else some [106]) else none := by
  unfold parseS
  rw [rd_ten n hn]
  show (if n < 6 then _ else (if n - 6 ≤ (List.replicate m (0 : UInt8)).length then (if n - 6 ≤ 10000 then some ((List.replicate m (0 : UInt8)).take (n - 6)) else some [106]) else none)) = _
  rw [if_neg (by omega), List.length_replicate]
  by_cases h : n - 6 ≤ m
  · rw [if_pos h, if_pos h, List.take_replicate, Nat.min_eq_left h]
  · rw [if_neg h, if_neg h]
theorem cmp_pos {X sd : Nat} (h : sd < 2) (hs : ((root X : Nat) : Int).fmod 2 = (sd : Int)) : 65 :: 4 :: (be 32 X ++ be 32 (sideY sd X) ++ [172]) = 65 :: 4 :: be 32 X ++ be 32 (root X) ++ [172] := by
  rw [fm2n] at hs
  rw [sideY_pos h (by omega)]
  rfl
theorem cmp_neg {X sd : Nat} (h : sd < 2) (hs : ¬ ((root X : Nat) : Int).fmod 2 = (sd : Int)) : 65 :: 4 :: (be 32 X ++ be 32 (sideY sd X) ++ [172]) = 65 :: 4 :: be 32 X ++ be 32 (115792089237316195423570985008687907853269984665640564039457584007908834671663 - ((root X : Nat) : Int)).toNat ++ [172] := by
  rw [fm2n] at hs
  have hr := root_lt X
  have hP := pP_eq
  have e : (115792089237316195423570985008687907853269984665640564039457584007908834671663 - ((root X : Nat) : Int)).toNat = pP - root X := by omega
  rw [sideY_neg h (by omega), e]
  rfl
end
-- XL
section
local macro_rules | `(tactic| walk_at "M dec") => `(tactic| (first | omega | ((simp only [decide_eq_true_eq, decide_eq_false_iff_not, beq_iff_eq, bne_iff_ne, Bool.not_eq_true', Bool.not_eq_false', Bool.and_eq_true, Bool.not_eq_true]); omega)))
local macro_rules | `(tactic| walk_at "ite") => `(tactic| (k_here; k_openite; first
  | (refine ite_pos (by with_reducible assumption) ?_) | (refine ite_neg (by with_reducible assumption) ?_) | (refine ite_isFalse (by with_reducible assumption) ?_)
  | (refine' ite_pos ?hc ?_; (case hc => walk_at "M dec")) | (refine' ite_neg ?hc ?_; (case hc => walk_at "M dec"))
  | (refine' ite_own (fun hq' => ?_) (fun hq' => ?_) <;> (try simp only [decide_eq_true_eq, decide_eq_false_iff_not, beq_iff_eq, bne_iff_ne, Bool.not_eq_true', Bool.not_eq_false', Bool.and_eq_true, ne_eq, Bool.not_eq_true] at hq'))))
local macro_rules | `(tactic| walk_at "M useG") => `(tactic| ((case F => assumption); (case N => assumption); (case hA => exact rfl); (case hf => exact rfl); (case hk => exact rfl); (case hh => exact rfl); (case hdp => exact Nat.le_of_ble_eq_true rfl); (case hun => exact Nat.le_of_ble_eq_true rfl)))
/-- a contract of a def that takes the script and answers True -/
def SpecL (W : Wd) (d u : Nat) (f : Addr) : Prop :=
  ∀ (Ls : Addr) (its : Array Value) (ns : List Int), IntsAre its.toList ns → its.size ≤ 63 → ∀ (base : Heap) (l : List Env) (s : Shared) (R : Result → Shared → Prop), Base W base → Site base l s.heap → s.heap.IsList Ls its →
    (∀ h' tk', Same (fr l) s.heap h' → R (.ok (.ret (.bool true))) { s with heap := h', toks := tk' }) → codeG (model W.prog W.w) (LV d u l) (.call (.ref f) ⟨[.ref Ls], []⟩) R s
section
variable {W : Wd} {d u : Nat} {l : List Env} {base g g₀ : Heap} {A A₀ : Around} {E : Value → Shared → Prop} {s : Shared} {L : Addr} {m : PySem.Str → Option Value} {news : List (Addr × Obj)} {env : Env} {f Ls : Addr} {its : Array Value} {ns : List Int} {Q : Value → Shared → Prop}
theorem useL (C : SpecL W d u f) (hI : IntsAre its.toList ns) (hz : its.size ≤ 63) (hl : g.IsList Ls its) (HB : Base W base) (B : Below A₀ base l g) (D : KtsDicts (fr l) g) (F : Fr g L s.heap m) (N : News g L s.heap news) (T : KtsTurn (fr l) g₀ g) (hA : A.frames = some (env :: l)) (hf : env.frame = some L) (hk : env.scope.kind = .function)
    (hh : A.handled = none) (hdp : A.depth ≤ d) (hun : A.units ≤ u)
    (hret : ∀ h' tk' g', g'.IsList Ls its → KtsTurn (fr l) g₀ g' → Fr g' L h' m → News g' L h' news → Below A₀ base l g' → (Mine.hd.heap_1_1 W.w.params).In g' → Top W.p W.loose W.mean W.mg W.mb g' → KtsDicts (fr l) g' → Q (.bool true) { s with heap := h', toks := tk' }) :
    wpG (model W.prog W.w) A (call (.ref f) [.ref Ls]) Q E s := by
  have hls : s.heap.IsList Ls its := by
    obtain ⟨o, ho, hc, hd⟩ := hl
    exact ⟨o, F.keep _ _ ho, hc, hd⟩
  refine wpG_call (codeG_le hh hdp hA.symm rfl hun (C Ls its ns hI hz base (env :: l) s _ HB (site_of B D F hf hk) hls (fun h' tk' k => ?_)))
  obtain ⟨g', T', F', N', B', D', up⟩ := turned B D F N T hf k
  refine hret h' tk' g' ?_ T' F' N' B' (HB.1.keeps B'.stays) (HB.2.keeps B'.stays) D'
  obtain ⟨o, ho, hc, n, hd⟩ := hl
  obtain ⟨sl, hs⟩ := up _ _ ho (fun vs q => by rw [hd] at q; cases q)
  exact ⟨_, hs, hc, n, hd⟩
theorem wpG_andT {M : Model} {pos : Pos} {x y : Sem Value} {rest : List (Sem Value)} (h : wpG M A x (fun v s₁ => v = .bool true ∧ wpG M A (boolOp pos .And (y :: rest)) Q E s₁) E s) : wpG M A (boolOp pos .And (x :: y :: rest)) Q E s := by
  unfold boolOp
  refine wpG_bind (wpG_mono h (fun v s₁ h₁ => ?_) fun _ _ x => x)
  obtain ⟨rfl, h₂⟩ := h₁
  refine wpG_bind (wpG_standAt (wpG_bind (wpG_holding (wpG_of (wpAny_truthy_bool ?_)))))
  exact h₂
end
theorem s_law (W : Wd) (h1 : SpecL W 310 1100 861) (h2 : SpecL W 310 1100 868) (h3 : SpecL W 310 1100 889) : SpecL W 301 4 896 := by
  intro Ls its ns hI hz base l s R HB S hl hret
  refine' enterG (binds := [(PySem.Str.ofString "script", .ref Ls)]) HB S ?k6 ?k7 ?k8 ?k9 ?kB ?_ ?c2 ?c3 ?c4 ?c5
  walk_at "M enter"
  refine wpG_execs_cons (wpG_Return ?_)
  rw [arm_eval_BoolOp]
  refine wpG_andT ?_
  refine' callNameG (f := 861) (by assumption) ?X ?T ?ex ?hkp ?_ rfl rfl (by decide) rfl rfl
  (case X => k_asm); (case T => exact topRead_of (by assumption)); (case ex => k_is); (case hkp => k_is)
  k_steps
  refine' useL h1 hI hz hl HB B' D' ?F ?N KtsTurn.refl ?hA ?hf ?hk ?hh ?hdp ?hun ?_
  walk_at "M useG"
  intro h6 tk6 g6 hl6 T6 F6 N6 B6 X6 Top6 D6
  refine ⟨rfl, wpG_andT ?_⟩
  clear F' N' B' X' T' D'
  refine' callNameG (f := 868) (by assumption) ?X ?T ?ex ?hkp ?_ rfl rfl (by decide) rfl rfl
  (case X => k_asm); (case T => exact topRead_of (by assumption)); (case ex => k_is); (case hkp => k_is)
  k_steps
  refine' useL h2 hI hz hl6 HB B6 D6 ?F ?N T6 ?hA ?hf ?hk ?hh ?hdp ?hun ?_
  walk_at "M useG"
  intro h7 tk7 g7 hl7 T7 F7 N7 B7 X7 Top7 D7
  refine ⟨rfl, ?_⟩
  clear F6 N6 B6 X6 T6 D6 Top6
  show wpG _ _ (eval _ _) _ _ _
  refine' callNameG (f := 889) (by assumption) ?X ?T ?ex ?hkp ?_ rfl rfl (by decide) rfl rfl
  (case X => k_asm); (case T => exact topRead_of (by assumption)); (case ex => k_is); (case hkp => k_is)
  k_steps
  refine' useL h3 hI hz hl7 HB B7 D7 ?F ?N T7 ?hA ?hf ?hk ?hh ?hdp ?hun ?_
  walk_at "M useG"
  intro h8 tk8 g8 hl8 T8 F8 N8 B8 X8 Top8 D8
  exact hret _ _ (Same.of_turn T8 F8.keep)
end
-- HJ
section
theorem ints_len {vs : List Value} {ns : List Int} (h : IntsAre vs ns) : vs.length = ns.length := by
  induction h with
  | nil => rfl
  | cons n t _ ih => rw [List.length_cons, List.length_cons, ih]
theorem join (h1 : ∀ W, SpecL W 310 1100 861) (h2 : ∀ W, SpecL W 310 1100 868) (h3 : ∀ W, SpecL W 310 1100 889) : PySem.Challenge.rw_fc0028_01.Holds := by
  refine holdsG (fun d hd => ?_)
  intro w s₀ s₁ mg mb G Y a o pm cd doc dV kV ho hdd hcd hD hmg hg args vals as hpre hlay hrd hwl hlo
  refine Ground.open G ?_
  intro T B D TE TW
  have hdn := defOf_name hd
  have ha : a = 896 := by
    have q := mg_of (n := PySem.Str.ofString "law") (v := .ref 896) Y T.g (by k_is)
    rw [hdn] at hmg
    rw [hmg] at q
    exact Value.ref.inj (Option.some.inj q)
  subst ha
  wrow_args hpre hlay hrd hwl hlo
  rename s₁.heap.IsList _ _ => hL
  rename IntsAre _ _ => hI
  rename ¬ (_ : Int) < _ => hz
  refine wpG_call (codeG_le (A' := LV 301 4 []) rfl (by decide) rfl rfl (Nat.le_refl _) (s_law ⟨Challenge.rw_fc0028_01.row.prog, w, Mine.hd.view_1_2, looseW Mine.hd.view_1_2 loose0, ExcName.means s₀.heap, mg, mb⟩ (h1 _) (h2 _) (h3 _) _ _ _ (by first | exact hI | simpa using hI) ?hsz s₁.heap [] s₁ _ ⟨Y, T⟩ ⟨fun _ _ e => e, trivial, fun b hb => nomatch hb⟩ hL ?hret))
  case hsz =>
    rw [List.size_toArray, ints_len hI]
    omega
  case hret =>
    intro h' tk' hs
    refine GoodW.toG ⟨.inl ⟨.bool true, .bool true, [], rfl, fun _ => rfl, ReadsW.bool _, ?_, fun _ => ⟨List.nodup_nil, fun _ h => nomatch h⟩⟩, fun b o e => hs.1 b o e (fun h => nomatch h), rfl, hg⟩
    refine' postW_of ?ps1 ?ps2 ?ps3
    (case ps1 => o_shape)
    (case ps2 => wtm_val)
    (case ps3 => w_fin)
end
-- XD
section
local macro_rules | `(tactic| walk_at "subscriptTail") => `(tactic| (k_here; (with_reducible show wpAny _ _ (subscriptTail _ (Expr.Slice _ _ none _) (Value.bytes (List.toArray _) _) (Value.ref _)) _ _ _); (with_reducible rename Fr _ _ _ _ => F'); (with_reducible rename News _ _ _ _ => N'); ((first | (with_reducible refine' BX.slice (s := ⟨_, _, _, _, _⟩) F' N' ?slL ?slU ?slZ ?_ ?slS ?slT) | (k_dflt (refine' BX.slice (s := ⟨_, _, _, _, _⟩) F' N' ?slL ?slU ?slZ ?_ ?slS ?slT))); k_dflt ((case slL => constructor); (case slU => constructor); (case slZ => walk_at "M len"); (case slS => with_unfolding_all rfl); (case slT => (intro _; with_unfolding_all rfl)))); intro _ _ _ F' N'; (try simp only [Option.elim, KBc.clip_lit, clipAt_nat, List.drop_zero, Nat.sub_zero]); (try simp (discharger := decide) only [clip1, slc, slcE, slc0, Int.reduceToNat, Nat.reduceSub]); (try simp only [Int.reduceToNat, slcM, slcM0])))
local macro_rules | `(tactic| walk_at "call ref") => `(tactic| (k_here; (with_reducible show wpAny _ _ (call (Value.ref 737) [Value.bytes (List.toArray _) _] _) _ _ _); k_dflt (refine' useC (s_comp _ _ _ ?hx) ?HB ?B ?D ?F ?N ?T ?hA ?hf ?hk ?hh ?hdp ?hun ?_ (fun _ _ _ _ _ x => x.elim); (case hx => walk_at "M len")); k_dflt (walk_at "M use"; (case T => first | assumption | exact KtsTurn.refl); (intro v' h' tk' gU hv' TU F' N' BU XU TopU DU); (refine hold ?_))))
local macro_rules | `(tactic| walk_at "pyIter ref") => `(tactic| (refine hold ?_))
local macro_rules | `(tactic| walk_at "M dec") => `(tactic| (first | omega | ((simp only [decide_eq_true_eq, decide_eq_false_iff_not, beq_iff_eq, bne_iff_ne, Bool.not_eq_true', Bool.not_eq_false', Bool.and_eq_true, Bool.not_eq_true]); omega) | (simp; done)))
local macro_rules | `(tactic| walk_at "M useG") => `(tactic| ((case F => assumption); (case N => assumption); (case hA => exact rfl); (case hf => exact rfl); (case hk => exact rfl); (case hh => exact rfl); (case hdp => exact Nat.le_of_ble_eq_true rfl); (case hun => exact Nat.le_of_ble_eq_true rfl)))
local macro_rules | `(tactic| walk_at "call ref") => `(tactic| (k_here; (with_reducible show wpAny _ _ (call (Value.ref 758) [Value.bytes (List.toArray _) _] _) _ _ _); k_dflt (refine' useC (s_ser _ _ _ ?hx) ?HB ?B ?D ?F ?N ?T ?hA ?hf ?hk ?hh ?hdp ?hun ?_ (fun _ _ _ _ _ x => x.elim); (case hx => omega)); k_dflt (walk_at "M use"; (case T => first | assumption | exact KtsTurn.refl); (intro v' h' tk' gU hv' TU F' N' BU XU TopU DU); (obtain ⟨tS, hv'⟩ := hv'; subst hv'); (try simp only [hS]))))
local macro_rules | `(tactic| walk_at "call ref") => `(tactic| (k_here; (with_reducible show wpAny _ _ (call (Value.ref 781) [Value.int _ _] _) _ _ _); k_dflt (refine' use0n (s_writtenI _ _ _ ?hx0 ?hx1) ?HB ?B ?D ?F ?N ?hA ?hf ?hk ?hh ?hdp ?hun ?_; (case hx0 => omega); (case hx1 => omega)); k_dflt (walk_at "M use"; (intro v' h' tk' hv' F' N'); (obtain ⟨tW, hv'⟩ := hv'; subst hv'); (try simp only [eW6]))))
local macro_rules | `(tactic| walk_at "call ref") => `(tactic| (k_here; (with_reducible show wpAny _ _ (call (Value.ref 882) [Value.int _ _, Value.bytes (List.toArray _) _, Value.bytes (List.toArray _) _] _) _ _ _); k_dflt (refine' useC (s_known _ _ _ _ _ _ _ ?kn1 ?kn2 ?kn3 ?kn4 ?kn5 ?kn6 ?kn7) ?HB ?B ?D ?F ?N ?T ?hA ?hf ?hk ?hh ?hdp ?hun ?_ (fun _ _ _ _ _ x => x.elim); (case kn1 => exact hK1); (case kn2 => exact hK2); (case kn3 => exact hK3); (case kn4 => exact hK4); (case kn5 => exact hK5); (case kn6 => exact hK6); (case kn7 => exact hK7)); k_dflt (walk_at "M use"; (case T => first | assumption | exact KtsTurn.refl); (intro v' h' tk' gU hv' TU F' N' BU XU TopU DU); subst hv')))

local macro_rules | `(tactic| walk_at "binaryOp Pow int int") => `(tactic| (k_here; (with_reducible show wpAny _ _ (binaryOp Operator.Pow (Value.int _ _) (Value.int _ _)) _ _ _); ((first | (with_reducible refine' powBig ?kb1 ?kb2 ?kb3 ?_) | (k_dflt (refine' powBig ?kb1 ?kb2 ?kb3 ?_))); k_dflt ((case kb1 => first | decide | omega); (case kb2 => first | decide | omega); (case kb3 => first | assumption | omega | decide)))))
local macro_rules | `(tactic| walk_at "call builtin:pow") => `(tactic| (k_here; (with_reducible show wpAny _ _ (call (Value.builtin "pow") [Value.int _ _, Value.int _ _, Value.int _ _]) _ _ _); ((first | (with_reducible refine' BP.pow3I ?ha ?he ?hm ?_) | (k_dflt (refine' BP.pow3I ?ha ?he ?hm ?_))); k_dflt ((case ha => assumption); (case he => decide); (case hm => decide))); intro _ _; (rw [rootE3])))
local macro_rules | `(tactic| walk_at "call builtin:int.to_bytes") => `(tactic| (k_here; (with_reducible show wpAny _ _ (call (Value.builtin "int.to_bytes") [Value.int _ _, Value.int _ _, Value.str _ _]) _ _ _); ((first | (with_reducible refine' to_big32 ?tb0 ?tb1 ?_) | (k_dflt (refine' to_big32 ?tb0 ?tb1 ?_))); k_dflt ((case tb0 => with_reducible assumption); (case tb1 => with_reducible assumption))); intro _ _; (try simp only [Int.toNat_natCast])))
local macro_rules | `(tactic| walk_at "storeName") => `(tactic| (k_here; (with_reducible show wpAny _ _ (storeName _ (PySem.Str.ofString "side") (Value.int _ _)) _ _ _); (fail_if_success (with_reducible show wpAny _ _ (storeName _ _ (Value.int (Nat.cast _) _)) _ _ _)); (refine hold ?_)))
local macro_rules | `(tactic| walk_at "binaryOp Mod int int") => `(tactic| (k_here; (with_reducible show wpAny _ _ (binaryOp Operator.Mod (Value.int (HPow.hPow _ _) _) (Value.int (HPow.hPow _ _) _)) _ _ _); (refine modX ?_); intro X hX _ _))
local macro_rules | `(tactic| walk_at "binaryOp Mult int int") => `(tactic| (k_here; (with_reducible show wpAny _ _ (binaryOp Operator.Mult (Value.int _ _) (Value.int _ _)) _ _ _); ((first | (with_reducible refine' PySem.P.mul_int ?_ ?hm) | (k_dflt (refine' PySem.P.mul_int ?_ ?hm))); k_dflt ((case hm => assumption)))))
local macro_rules | `(tactic| walk_at "M len") => `(tactic| (first | (simp only [List.length_append, List.length_cons, List.length_nil, List.length_take, List.length_drop, List.length_map, List.length_replicate, List.length_dropLast, be_len, Int.reduceToNat]; done) | ((try simp only [List.length_append, List.length_cons, List.length_nil, List.length_take, List.length_drop, List.length_map, List.length_replicate, List.length_dropLast, be_len, Int.reduceToNat]); omega)))
local macro_rules | `(tactic| walk_at "call ref") => `(tactic| (k_here; (with_reducible show wpAny _ _ (call (Value.ref 830) [Value.int _ _, Value.bytes (List.toArray _) _] _) _ _ _); k_dflt (refine' useC (s_open _ _ _ _ _ ?ox1 ?ox2 ?ox) ?HB ?B ?D ?F ?N ?T ?hA ?hf ?hk ?hh ?hdp ?hun ?_ (fun _ _ _ _ _ x => x.elim); (case ox1 => omega); (case ox2 => omega); (case ox => walk_at "M len")); k_dflt (walk_at "M use"; (case T => first | assumption | exact KtsTurn.refl); (intro v' h' tk' gU hv' TU F' N' BU XU TopU DU); (rw [hDO] at hv'); (have hv' : v' = Value.none := hv'); subst hv')))
local macro_rules | `(tactic| walk_at "M dec") => `(tactic| (first | omega | ((simp only [decide_eq_true_eq, decide_eq_false_iff_not, beq_iff_eq, bne_iff_ne, Bool.not_eq_true', Bool.not_eq_false', Bool.and_eq_true, Bool.not_eq_true]); omega)))
local macro_rules | `(tactic| walk_at "ite") => `(tactic| (k_here; k_openite; first
  | (refine ite_pos (by with_reducible assumption) ?_) | (refine ite_neg (by with_reducible assumption) ?_) | (refine ite_isFalse (by with_reducible assumption) ?_)
  | (refine' ite_pos ?hc ?_; (case hc => walk_at "M dec")) | (refine' ite_neg ?hc ?_; (case hc => walk_at "M dec"))
  | (refine' ite_own (fun hq' => ?_) (fun hq' => ?_) <;> (try simp only [decide_eq_true_eq, decide_eq_false_iff_not, beq_iff_eq, bne_iff_ne, Bool.not_eq_true', Bool.not_eq_false', Bool.and_eq_true, ne_eq, Bool.not_eq_true] at hq'))))
theorem s_writtenI (W : Wd) (x : Int) (t : Tok) (h0 : 0 ≤ x) (h1 : x < 2 ^ 100) : Spec0 W 400 2000 781 ⟨[.int x t], []⟩ (fun v => ∃ t, v = .bytes (enc x.toNat).toArray t) (fun _ => False) := by
  obtain ⟨n, rfl⟩ := Int.eq_ofNat_of_zero_le h0
  exact s_written W n t (by omega)
section
variable {M : Model} {A : Around} {E : Value → Shared → Prop} {s : Shared} {env : Env}
theorem wpG_Assign_Tuple {elts k tpos value pos} {Q : Flow → Shared → Prop}
    (h : wpG M A (eval value env) (fun v s₁ => wpAny M A (assign (.Tuple elts k tpos) env v) (fun _ => Q .next) E s₁) E s)
    (hs : swapsWithSole [.Tuple elts k tpos] value pos.line env = pure false)
    (hw : swappedStores [.Tuple elts k tpos] value env = pure none) :
    wpG M A (exec (.Assign [.Tuple elts k tpos] value pos) env) Q E s := by
  rw [PyProof.Rows.exec_Assign]
  refine wpG_bind (wpG_standAt ?_)
  rw [hs]
  refine wpG_bind (wpG_pure ?_)
  rw [if_neg (by decide)]
  refine wpG_bind (wpG_mono h (fun v s₁ h₁ => ?_) fun _ _ x => x)
  rw [hw]
  refine wpG_bind (wpG_pure ?_)
  show wpG M A (do assignAll v [assign (.Tuple elts k tpos) env]; pure .next) Q E s₁
  exact wpG_bind (wpG_of (wpAny_mono h₁ (fun _ _ x => wpG_pure x) fun _ _ x => x))
theorem wpG_isTrue_And {x : Expr} {rest : List Expr} {pos : Pos} {whole : Sem Value} {Q : Bool → Shared → Prop}
    (h : wpG M A (isTrue x env (eval x env)) (fun b s' => if b = true then wpG M A (allTrue .And rest env) Q E s' else Q false s') E s) : wpG M A (isTrue (.BoolOp .And (x :: rest) pos) env whole) Q E s := by
  show wpG M A (allTrue .And (x :: rest) env) Q E s
  rw [arm_allTrue_cons]
  refine wpG_bind (wpG_mono h (fun b s' hb => ?_) fun _ _ x => x)
  cases b with
  | true => exact hb
  | false => exact wpG_pure hb
theorem wpG_allTrue_And1 {x : Expr} {Q : Bool → Shared → Prop} (h : wpG M A (isTrue x env (eval x env)) Q E s) : wpG M A (allTrue .And [x] env) Q E s := by
  rw [arm_allTrue_cons]
  refine wpG_bind (wpG_mono h (fun b s' hb => ?_) fun _ _ x => x)
  cases b with
  | true => rw [arm_allTrue_nil]; exact wpG_pure hb
  | false => exact wpG_pure hb
theorem ifOrAndG {l1 r1 x2 l3 r3 : Expr} {op1 op3 : CmpOp} {pos pos1 pos2 pos3 posb : Pos} {body orelse : List Stmt} {Q : Flow → Shared → Prop} (hm1 : ∀ x, markedBehindIn op1 r1 x = x) (hm3 : ∀ x, markedBehindIn op3 r3 x = x)
    (h : wpG M A (eval l1 env) (fun a s₁ => wpAny M A (eval r1 env) (fun b s₂ => wpAny M A (compareOp op1 a b) (fun c s₃ => wpAny M A (truthy c) (fun t s₄ => if t = true then wpAny M A (execs body env) Q E s₄ else
      wpAny M A (isTrue x2 env (eval x2 env)) (fun t s₅ => if t = true then
        wpG M A (eval l3 env) (fun a s₁ => wpAny M A (eval r3 env) (fun b s₂ => wpAny M A (compareOp op3 a b) (fun c s₃ => wpAny M A (truthy c) (fun t s₄ => if t = true then wpAny M A (execs body env) Q E s₄ else wpAny M A (execs orelse env) Q E s₄) E s₃) E s₂) E s₁) E s₅
        else wpAny M A (execs orelse env) Q E s₅) E s₄) E s₃) E s₂) E s₁) E s) :
    wpG M A (exec (.If (.BoolOp .Or [.Compare l1 [op1] [r1] pos1, .BoolOp .And [x2, .Compare l3 [op3] [r3] pos3] pos2] posb) body orelse pos) env) Q E s := by
  refine wpG_If (wpG_isTrue_Or (wpG_isTrue_Compare1 (wpG_mono h (fun a s₁ h₁ => wpG_of (wpAny_mono h₁ (fun b s₂ h₂ => wpG_of (wpAny_mono h₂ (fun c s₃ h₃ => wpG_of (wpAny_mono h₃ (fun t s₄ h₄ => ?_) fun _ _ x => x)) fun _ _ x => x)) fun _ _ x => x)) fun _ _ x => x) hm1))
  cases t with
  | true => exact wpG_of h₄
  | false =>
    refine wpG_allTrue_Or (wpG_isTrue_And (wpG_of (wpAny_mono h₄ (fun t s₅ h₅ => ?_) fun _ _ x => x)))
    cases t with
    | false => exact wpG_allTrue_nil (wpG_of h₅)
    | true =>
      refine wpG_allTrue_And1 (wpG_isTrue_Compare1 (wpG_mono h₅ (fun a s₁ h₁ => wpG_of (wpAny_mono h₁ (fun b s₂ h₂ => wpG_of (wpAny_mono h₂ (fun c s₃ h₃ => wpG_of (wpAny_mono h₃ (fun t s₄ h₄ => ?_) fun _ _ x => x)) fun _ _ x => x)) fun _ _ x => x)) fun _ _ x => x) hm3)
      cases t with
      | true => exact wpG_of h₄
      | false => exact wpG_allTrue_nil (wpG_of h₄)
theorem cut6 {a b c d e f : Stmt} {rest : List Stmt} {Q : Flow → Shared → Prop} (Mid : Shared → Prop)
    (h1 : wpG M A (exec a env) (fun fl s₁ => fl = .next ∧ wpG M A (exec b env) (fun fl s₂ => fl = .next ∧ wpG M A (exec c env) (fun fl s₃ => fl = .next ∧ wpG M A (exec d env) (fun fl s₄ => fl = .next ∧ wpG M A (exec e env) (fun fl s₅ => fl = .next ∧ wpG M A (exec f env) (fun fl s₆ => fl = .next ∧ Mid s₆) (fun _ _ => False) s₅) (fun _ _ => False) s₄) (fun _ _ => False) s₃) (fun _ _ => False) s₂) (fun _ _ => False) s₁) (fun _ _ => False) s)
    (h2 : ∀ s', Mid s' → wpG M A (execs rest env) Q E s') : wpG M A (execs (a :: b :: c :: d :: e :: f :: rest) env) Q E s :=
  wpG_execs_cons (wpG_mono h1 (fun _ s₁ h => by
    obtain ⟨rfl, h⟩ := h
    exact wpG_execs_cons (wpG_mono h (fun _ s₂ h => by
      obtain ⟨rfl, h⟩ := h
      exact cut4 Mid h h2) fun _ _ x => x.elim)) fun _ _ x => x.elim)
end
section
variable {W : Wd} {d u : Nat} {l : List Env} {base g g₀ : Heap} {A A₀ : Around} {E : Value → Shared → Prop} {s : Shared} {L : Addr} {m : PySem.Str → Option Value} {news : List (Addr × Obj)} {env : Env} {f : Addr} {vs : List Value} {kw : List (PySem.Str × Value)} {P : Heap → Value → Heap → Prop} {Q : Value → Shared → Prop}
theorem useGT (C : SpecGT W d u f ⟨vs, kw⟩ P) (HB : Base W base) (B : Below A₀ base l g) (D : KtsDicts (fr l) g) (F : Fr g L s.heap m) (N : News g L s.heap news) (hA : A.frames = some (env :: l)) (hf : env.frame = some L) (hk : env.scope.kind = .function)
    (hh : A.handled = none) (hdp : A.depth ≤ d) (hun : A.units ≤ u)
    (hret : ∀ v h' tk', P s.heap v h' → Fr g L h' m → News g L h' news → Q v { s with heap := h', toks := tk' }) :
    wpG (model W.prog W.w) A (call (.ref f) vs kw) Q E s := by
  refine wpG_call (codeG_le hh hdp hA.symm rfl hun (C base (env :: l) s _ HB (site_of B D F hf hk) (fun v h' tk' hp k => ?_)))
  exact hret v h' tk' hp (F.keeps k) fun q hq => ⟨k _ _ (N q hq).1, (N q hq).2⟩
end
theorem Fr.two {g h : Heap} {L : Addr} {M : PySem.Str → Option Value} {a b : PySem.Str} {va vb : Value} (F : Fr g L h M) (ea : M a = some va) (eb : M b = some vb) : Fr g L h (fun y => if y = a then some va else if y = b then some vb else M y) := Fr.to F (fun y => by
  by_cases h1 : y = a
  · subst h1; rw [if_pos rfl, ea]
  · rw [if_neg h1]
    by_cases h2 : y = b
    · subst h2; rw [if_pos rfl, eb]
    · rw [if_neg h2])
theorem powBig {prog : Program} {w : World} {A : Around} {E : Value → Shared → Prop} {s : Shared} {a n : Int} {t u : Tok} {Q : Value → Shared → Prop} (hn : 0 ≤ n) (hn2 : n ≤ 1000) (ha : a.natAbs < 2 ^ 256) (h : Q (.int (a ^ n.toNat) s.toks) { s with toks := s.toks + 1 }) : wpAny (model prog w) A (binaryOp .Pow (.int a t) (.int n u)) Q E s :=
  PyProof.Rows.pow_int hn (by
    have h1 : Builtin.Int.intBits a ≤ 256 := PySem.intBits_le_iff.mpr ha
    obtain ⟨k, rfl⟩ := Int.eq_ofNat_of_zero_le hn
    have h2 : Builtin.Int.intBits a * k ≤ 256 * 1000 := Nat.mul_le_mul h1 (by omega)
    have h3 : ((Builtin.Int.intBits a : Int)) * (k : Int) = ((Builtin.Int.intBits a * k : Nat) : Int) := by rw [Int.natCast_mul]
    rw [h3]
    have h4 : (2 : Int) ^ 27 = 134217728 := by decide
    omega) h
theorem cube3 (x : Nat) : (x : Int) ^ (Int.toNat 3) + 7 = (x : Int) * (x : Int) * (x : Int) + 7 := by
  show (x : Int) ^ 3 + 7 = _
  rw [Int.pow_succ, Int.pow_succ, Int.pow_succ, Int.pow_zero, Int.one_mul]
theorem rootE3 (x : Nat) : Builtin.powMod ((((x : Int) ^ (Int.toNat 3) + 7).fmod 115792089237316195423570985008687907853269984665640564039457584007908834671663).toNat % (115792089237316195423570985008687907853269984665640564039457584007908834671663 : Int).toNat) (((115792089237316195423570985008687907853269984665640564039457584007908834671663 : Int) + 1).fdiv 4).toNat (115792089237316195423570985008687907853269984665640564039457584007908834671663 : Int).toNat = root x := by
  rw [cube3]; exact rootE x
theorem onC3 (x : Nat) : onC x ↔ (x : Int) < (115792089237316195423570985008687907853269984665640564039457584007908834671663 : Int) ∧ (((root x : Nat) : Int) * ((root x : Nat) : Int)).fmod 115792089237316195423570985008687907853269984665640564039457584007908834671663 = ((x : Int) ^ (Int.toNat 3) + 7).fmod 115792089237316195423570985008687907853269984665640564039457584007908834671663 := by
  rw [onC_iff, cube3, Int.not_le]
theorem fmX (A : Int) : ∃ X : Nat, A.fmod (2 ^ Int.toNat 256) = (X : Int) ∧ X < 115792089237316195423570985008687907853269984665640564039457584007913129639936 := by
  have e : (2 : Int) ^ Int.toNat 256 = 115792089237316195423570985008687907853269984665640564039457584007913129639936 := by decide +kernel
  rw [e]
  have f := fmb A 115792089237316195423570985008687907853269984665640564039457584007913129639936 (by decide)
  exact ⟨_, (Int.toNat_of_nonneg f.1).symm, by omega⟩
theorem modX {prog : Program} {w : World} {A : Around} {E : Value → Shared → Prop} {s : Shared} {a : Int} {t u : Tok} {Q : Value → Shared → Prop} (h : ∀ X : Nat, X < 115792089237316195423570985008687907853269984665640564039457584007913129639936 → ∀ t' k, Q (.int (X : Int) t') { s with toks := k }) :
    wpAny (model prog w) A (binaryOp .Mod (.int a t) (.int (2 ^ Int.toNat 256) u)) Q E s := by
  have hb : (2 : Int) ^ Int.toNat 256 ≠ 0 := by
    have e : (2 : Int) ^ Int.toNat 256 = 115792089237316195423570985008687907853269984665640564039457584007913129639936 := by decide +kernel
    rw [e]; decide
  obtain ⟨X, eX, hX⟩ := fmX a
  exact PyProof.Rows.mod_int hb (by rw [eX]; exact h X hX _ _)
theorem wpG_Compare1 {M : Model} {A : Around} {E : Value → Shared → Prop} {s : Shared} {env : Env} {l r : Expr} {op : CmpOp} {pos : Pos} {Q : Value → Shared → Prop}
    (h : wpG M A (eval l env) (fun a s₁ => wpG M A (eval r env) (fun b s₂ => wpG M A (compareOp op a b) Q E s₂) E s₁) E s) (hm : ∀ x, markedBehindIn op r x = x) : wpG M A (eval (.Compare l [op] [r] pos) env) Q E s := fun Γ p hΓ hc => by
  simp only [eval_Compare1, hm, Sem.wp_bind', Sem.wp_holding, Sem.wp_cmd_standAt, Sem.wp_operate]
  exact Sem.wp_mono M Γ _ (fun a _ s₁ h₁ => Sem.wp_mono M Γ _ (fun b _ s₂ h₂ => h₂ Γ _ hΓ hc) (fun _ _ _ h' => h') _ _ (h₁ Γ _ hΓ hc)) (fun _ _ _ h' => h') _ _ (h Γ _ hΓ hc)
@[irreducible] def zeros (n : Nat) : List UInt8 := List.replicate n 0
theorem zeros_len (n : Nat) : (zeros n).length = n := by unfold zeros; exact List.length_replicate
theorem bytes_of_intZ {prog : Program} {w : World} {A : Around} {E : Value → Shared → Prop} {s : Shared} {t : Tok} {m : Int} {Q : Value → Shared → Prop} (h0 : 0 ≤ m) (hm : m ≤ 1000000) (hQ : ∀ t' k, Q (.bytes (zeros m.toNat).toArray t') { s with toks := k }) : wpAny (model prog w) A (call (.type "bytes") [.int m t]) Q E s :=
  bytes_of_intL h0 hm (by intro t' k; have h := hQ t' k; unfold zeros at h; exact h)
theorem parse_z (n m : Nat) (h6 : 6 ≤ n) (hn : n < 2 ^ 32) : parseS (enc n ++ zeros m) = if n - 6 ≤ m then (if n - 6 ≤ 10000 then some (zeros (n - 6)) else some [106]) else none := by
  unfold zeros
  exact parse_ten n m h6 hn
local macro_rules | `(tactic| walk_at "call type:bytes") => `(tactic| (k_here; (with_reducible show wpAny _ _ (call (Value.type "bytes") [Value.int _ _]) _ _ _); ((first | (with_reducible refine' bytes_of_intZ ?bz1 ?bz2 ?_) | (k_dflt (refine' bytes_of_intZ ?bz1 ?bz2 ?_))); k_dflt ((case bz1 => decide); (case bz2 => decide))); intro _ _))
local macro_rules | `(tactic| walk_at "M len") => `(tactic| (first | (simp only [zeros_len, List.length_append, List.length_cons, List.length_nil, be_len, Int.reduceToNat]; done) | ((try simp only [zeros_len, List.length_append, List.length_cons, List.length_nil, be_len, Int.reduceToNat]); omega)))
set_option maxHeartbeats 0 in
theorem s_scripts (W : Wd) (Ls : Addr) (its : Array Value) (ns : List Int) (hI : IntsAre its.toList ns) (hz : its.size ≤ 63) (base : Heap) (l : List Env) (s : Shared) (R : Result → Shared → Prop) (HB : Base W base) (S : Site base l s.heap) (hl : s.heap.IsList Ls its)
    (hret : ∀ h' tk', Same (fr l) s.heap h' → R (.ok (.ret (.bool true))) { s with heap := h', toks := tk' }) :
    codeG (model W.prog W.w) (LV 310 1100 l) (.call (.ref 889) ⟨[.ref Ls], []⟩) R s := by
  refine' enterG (binds := [(PySem.Str.ofString "script", .ref Ls)]) HB S ?k6 ?k7 ?k8 ?k9 ?kB ?_ ?c2 ?c3 ?c4 ?c5
  walk_at "M enter"
  refine wpG_execs_cons (wpG_For ?_ (by with_unfolding_all (intro _; rfl)))
  k_steps
  unfold Hold
  rename Fr _ _ _ _ => F3
  rename News _ _ _ _ => N3
  rename_i h3
  dsimp only at N3 ⊢
  generalize h'.objs.size + 1 = D at N3 ⊢
  have hI6 : IntsAre (slicePick its none (some 3) none).toList (ns.take 3) := by
    have h := kmk_upto (vs := its.toList) (y := 3) hI (by decide)
    rw [Array.toArray_toList] at h
    exact h
  refine wpAny_pyIter_list (s := ⟨_, _, _, _, _⟩) (items := slicePick its none (some 3) none) ⟨_, (N3 _ (.head _)).1, rfl, 0, rfl⟩ ?_
  have N2 := News.push F3 N3 { cls := .type "list_iterator", data := .fields #[.ref D, .int 0 0] }
  have F2 := Fr.push F3 { cls := .type "list_iterator", data := .fields #[.ref D, .int 0 0] }
  have hne3 : D ≠ h3.objs.size := Nat.ne_of_lt (Heap.lt_size (N3 _ (.head _)).1)
  dsimp only at N2 ⊢
  generalize h3.objs.size = itv at N2 ⊢ hne3
  refine forListG (W := W) (l := l) (A₀ := LV 310 1100 l) (base := base) (g₀ := s.heap) (s := s) (mf := oneL (PySem.Str.ofString "script") (.ref Ls)) (J := fun _ _ => True) (nf := fun _ => []) rfl ⟨rfl, rfl⟩ ?hap ?hbody ?hdone (by with_unfolding_all (intro _; rfl)) (m := fun _ => none) ⟨KtsTurn.refl, B', X', T', D'⟩ trivial ?F N2 ⟨rfl, rfl⟩
  case F => exact Fr.to F2 (fun y => lk1)
  case hap => intro _ p hp; rw [List.mem_singleton] at hp; subst hp; exact hne3
  case hbody =>
    clear F2 N2 F3 N3 F' N' B' X' T' D'
    intro i v o g m h tk hi hv ho ⟨TU, BU, XU, TopU, DU⟩ _ F' N'
    obtain ⟨z, tz, rfl⟩ := ints_at hI6 hv
    unfold oneL at F'
    refine wpG_of ?_
    k_steps
    rename Fr _ _ _ _ => F9
    rename News _ _ _ _ => N9
    refine cut6 (LSt (σ := PySem.Str → Option Value) W l (LV 310 1100 l) base s.heap L' (fun _ => True) (fun m y => if y = PySem.Str.ofString "number" then some (.int z tz) else if y = PySem.Str.ofString "script" then some (.ref Ls) else m y) (fun _ => [(itv, o), (D, { cls := .type "list", data := .seq (slicePick its none (some 3) none) })]) s) ?_ ?_
    · refine wpG_Assign_Tuple ?_ rfl rfl
      refine' callNameG (f := 856) F9 ?X ?T ?ex ?hkp ?_ rfl rfl (by decide) rfl rfl
      (case X => k_asm); (case T => exact topRead_of (by assumption)); (case ex => k_is); (case hkp => k_is)
      k_steps
      refine' useGT (s_law_script W z tz) HB BU DU ?F ?N ?hA ?hf ?hk ?hh ?hdp ?hun ?_
      walk_at "M useG"
      intro v h2 tk2 hP F2 N2
      obtain ⟨oc, sh, Dt, v2, t1, hR, rfl, hgD, hO, hnD⟩ := hP
      have N2 := News_new F9 N2 hgD hnD
      have Gd := good hR
      clear F9 N9 hgD hnD
      have hlen := Gd.len
      have hsl := Gd.serlen
      have hpw := Gd.parse
      have hcw := Gd.cut
      cases sh with
      | some r =>
        obtain ⟨t2, rfl⟩ := hO
        obtain ⟨hK1, hK2, hK3, hK4, hK5, hK6, hK7⟩ := Gd.known r rfl
        have hS : serS oc = r := by unfold serS; rw [Gd.comp]
        rw [hS] at hpw hcw hsl
        k_steps
        all_goals (try exact trivial)
        refine wpG_of ?_
        k_steps
        unfold Hold
        obtain ⟨t9, hv9⟩ := hv'.1 r Gd.comp
        subst hv9
        k_steps
        all_goals (try exact trivial)
        refine wpG_of ?_
        k_steps
        all_goals (try exact trivial)
        refine wpG_of ?_
        k_steps
        all_goals (try exact trivial)
        have hlw : (r).length ≤ 400 := hsl
        refine ifOrAndG (by intro _; rfl) (by intro _; rfl) ?_
        refine' callNameG (f := 765) (by assumption) ?X ?T ?ex ?hkp ?_ rfl rfl (by decide) rfl rfl
        (case X => k_asm); (case T => exact topRead_of (by assumption)); (case ex => k_is); (case hkp => k_is)
        k_steps
        refine' useG (s_parse_script W (r) _ (by omega)) HB BU DU ?F ?N TU ?hA ?hf ?hk ?hh ?hdp ?hun ?_ ?_
        walk_at "M useG"
        rotate_left 1
        · intro _ _ _ _ _ hx _; rw [hpw] at hx; exact absurd hx.2 (by simp)
        intro v h2 tk2 g3 hv T3 F3 N3 B3 X3 Top3 D3
        obtain ⟨r9, t9, er9, rfl⟩ := hv
        rw [hpw] at er9
        cases er9
        clear TU BU XU TopU DU
        k_steps
        all_goals (try exact trivial)
        · refine' callNameG (f := 823) (by assumption) ?X ?T ?ex ?hkp ?_ rfl rfl (by decide) rfl rfl
          (case X => k_asm); (case T => exact topRead_of (by assumption)); (case ex => k_is); (case hkp => k_is)
          k_steps
          refine' useG (s_script_read W (r).dropLast _ (by rw [List.length_dropLast]; omega)) HB B3 D3 ?F ?N T3 ?hA ?hf ?hk ?hh ?hdp ?hun ?_ ?_
          walk_at "M useG"
          rotate_left 1
          · intro _ _ _ _ _ x; exact x.elim
          intro v h2 tk2 g4 hv T4 F4 N4 B4 X4 Top4 D4
          rw [hcw (by omega)] at hv
          have hv9 : v = Value.none := hv
          subst hv9
          clear T3 B3 X3 Top3 D3
          k_steps
          all_goals (try exact trivial)
          refine wpG_of ?_
          k_steps
          exact ⟨gU, _, _, _, rfl, ⟨TU, BU, XU, TopU, DU⟩, trivial, Fr.two (by assumption) (by with_unfolding_all rfl) (by with_unfolding_all rfl), News.sub (by assumption) (fun p hp => .tail _ hp)⟩
        · refine wpG_of ?_
          k_steps
          exact ⟨gU, _, _, _, rfl, ⟨TU, BU, XU, TopU, DU⟩, trivial, Fr.two (by assumption) (by with_unfolding_all rfl) (by with_unfolding_all rfl), News.sub (by assumption) (fun p hp => .tail _ hp)⟩
      | none =>
        have hv2 : v2 = Value.none := hO
        subst hv2
        have hS : serS oc = enc (oc.length + 6) ++ oc := by unfold serS; rw [Gd.comp]
        have hel := enc_len (n := oc.length + 6) (by omega)
        have eW6 : ((oc.length : Int) + 6).toNat = oc.length + 6 := by omega
        rw [hS] at hpw hcw hsl
        k_steps
        all_goals (try exact trivial)
        refine wpG_of ?_
        k_steps
        unfold Hold
        have hv9 := hv'.2 Gd.comp
        subst hv9
        k_steps
        all_goals (try exact trivial)
        refine wpG_of ?_
        k_steps
        all_goals (try exact trivial)
        refine wpG_of ?_
        k_steps
        all_goals (try exact trivial)
        have hlw : (enc (oc.length + 6) ++ oc).length ≤ 400 := hsl
        refine ifOrAndG (by intro _; rfl) (by intro _; rfl) ?_
        refine' callNameG (f := 765) (by assumption) ?X ?T ?ex ?hkp ?_ rfl rfl (by decide) rfl rfl
        (case X => k_asm); (case T => exact topRead_of (by assumption)); (case ex => k_is); (case hkp => k_is)
        k_steps
        refine' useG (s_parse_script W (enc (oc.length + 6) ++ oc) _ (by omega)) HB BU DU ?F ?N TU ?hA ?hf ?hk ?hh ?hdp ?hun ?_ ?_
        walk_at "M useG"
        rotate_left 1
        · intro _ _ _ _ _ hx _; rw [hpw] at hx; exact absurd hx.2 (by simp)
        intro v h2 tk2 g3 hv T3 F3 N3 B3 X3 Top3 D3
        obtain ⟨r9, t9, er9, rfl⟩ := hv
        rw [hpw] at er9
        cases er9
        clear TU BU XU TopU DU
        k_steps
        all_goals (try exact trivial)
        · refine' callNameG (f := 823) (by assumption) ?X ?T ?ex ?hkp ?_ rfl rfl (by decide) rfl rfl
          (case X => k_asm); (case T => exact topRead_of (by assumption)); (case ex => k_is); (case hkp => k_is)
          k_steps
          refine' useG (s_script_read W (enc (oc.length + 6) ++ oc).dropLast _ (by rw [List.length_dropLast]; omega)) HB B3 D3 ?F ?N T3 ?hA ?hf ?hk ?hh ?hdp ?hun ?_ ?_
          walk_at "M useG"
          rotate_left 1
          · intro _ _ _ _ _ x; exact x.elim
          intro v h2 tk2 g4 hv T4 F4 N4 B4 X4 Top4 D4
          rw [hcw (by omega)] at hv
          have hv9 : v = Value.none := hv
          subst hv9
          clear T3 B3 X3 Top3 D3
          k_steps
          all_goals (try exact trivial)
          refine wpG_of ?_
          k_steps
          exact ⟨g4, _, _, _, rfl, ⟨T4, B4, X4, Top4, D4⟩, trivial, Fr.two (by assumption) (by with_unfolding_all rfl) (by with_unfolding_all rfl), News.sub (by assumption) (fun p hp => .tail _ hp)⟩
        · refine wpG_of ?_
          k_steps
          exact ⟨g3, _, _, _, rfl, ⟨T3, B3, X3, Top3, D3⟩, trivial, Fr.two (by assumption) (by with_unfolding_all rfl) (by with_unfolding_all rfl), News.sub (by assumption) (fun p hp => .tail _ hp)⟩
    clear F9 N9 TU BU XU TopU DU
    rintro s9 ⟨g, m9, h, tk, rfl, ⟨TU, BU, XU, TopU, DU⟩, _, F9, N9⟩
    dsimp only at F9 N9
    have f64 : 0 ≤ z.fmod (2 ^ Int.toNat 64) ∧ z.fmod (2 ^ Int.toNat 64) < 18446744073709551616 := fmb z 18446744073709551616 (by decide)
    refine wpG_execs_cons (wpG_of ?_)
    k_steps
    have hX0 : (0 : Int) ≤ (X : Int) := by omega
    have hX1 : (X : Int) < 115792089237316195423570985008687907853269984665640564039457584007913129639936 := by omega
    have hXn : ((X : Int)).natAbs < 2 ^ 256 := by
      rw [Int.natAbs_natCast]
      exact Nat.lt_of_lt_of_eq hX (by decide +kernel)
    have q0 : 0 ≤ ((X : Int) ^ (Int.toNat 3) + 7).fmod 115792089237316195423570985008687907853269984665640564039457584007908834671663 := (fmP _).1
    have hrt := root_lt X
    have ok3 : IntMulOk ((root X : Nat) : Int) ((root X : Nat) : Int) := mulOk2 (Nat.lt_trans hrt (by decide +kernel)) (Nat.lt_trans hrt (by decide +kernel))
    refine wpG_execs_cons (wpG_of ?_)
    k_steps
    refine wpG_execs_cons (wpG_of ?_)
    k_steps
    refine wpG_execs_cons (wpG_of ?_)
    k_steps
    refine wpG_execs_cons (wpG_of ?_)
    k_steps
    unfold Hold
    obtain ⟨sd, es, hsd⟩ : ∃ sd : Nat, z.fmod 2 = (sd : Int) ∧ sd < 2 := ⟨(z.fmod 2).toNat, by have := BX.fm2 z; omega, by have := BX.fm2 z; omega⟩
    rw [es]
    clear es
    k_steps
    by_cases hon : onC X
    · obtain ⟨hX2, hE2⟩ := (onC3 X).mp hon
      refine wpG_execs_cons (wpG_If (wpG_of ?_))
      k_steps
      have hPS := parse_side hX hsd
      rw [if_pos hon] at hPS
      have hrt' : root X < 115792089237316195423570985008687907853269984665640564039457584007908834671663 := Nat.lt_of_lt_of_eq hrt pP_eq
      have hr0 : (0 : Int) ≤ ((root X : Nat) : Int) := by omega
      have hr1 : ((root X : Nat) : Int) < 115792089237316195423570985008687907853269984665640564039457584007913129639936 := by omega
      have hs0 : (0 : Int) ≤ 115792089237316195423570985008687907853269984665640564039457584007908834671663 - ((root X : Nat) : Int) := by omega
      have hs1 : 115792089237316195423570985008687907853269984665640564039457584007908834671663 - ((root X : Nat) : Int) < 115792089237316195423570985008687907853269984665640564039457584007913129639936 := by omega
      refine wpG_execs_cons (wpG_of ?_)
      k_steps
      all_goals (try exact trivial)
      iterate 2
        · refine wpG_execs_cons (ifCmpG (by intro _; rfl) ?_)
          refine' callNameXG (f := 765) (K := Mine.hd.heap_1_1 W.w.params) ?hn ?hkp ?_ rfl rfl
          case hn =>
            intro Q' hq
            k_steps
            exact hq
          case hkp => k_is
          k_steps
          refine' useG (s_parse_script W ((4 + (sd : Int)).toNat.toUInt8 :: be 32 X) _ (by rw [List.length_cons, be_len]; decide)) HB BU DU ?F ?N TU ?hA ?hf ?hk ?hh ?hdp ?hun ?_ ?_
          walk_at "M useG"
          rotate_left 1
          · intro _ _ _ _ _ hx _; rw [hPS] at hx; exact absurd hx.2 (by simp)
          intro v h2 tk2 g3 hv T3 F3 N3 B3 X3 Top3 D3
          obtain ⟨r9, t9, er9, rfl⟩ := hv
          rw [hPS] at er9
          cases er9
          clear TU BU XU TopU DU
          k_steps
          all_goals (try exact trivial)
          · first
              | exact absurd (cmp_pos hsd (by assumption)) hq'
              | exact absurd (cmp_neg hsd (by assumption)) hq'
          · refine wpG_of ?_
            k_steps
            refine wpG_of (wpAny_execs_nil ?_)
            exact ⟨g3, _, _, _, rfl, ⟨T3, B3, X3, Top3, D3⟩, trivial, Fr.one (by assumption) (by with_unfolding_all rfl), News.sub (by assumption) (fun p hp => .tail _ hp)⟩
    · have hon3 := fun a b => hon ((onC3 X).mpr ⟨a, b⟩)
      have hPS := parse_side hX hsd
      rw [if_neg hon] at hPS
      have hDO := dec_side hX hsd
      rw [if_neg hon] at hDO
      refine wpG_execs_cons (wpG_If (wpG_of ?_))
      k_steps
      · exact absurd hq' (hon3 (by assumption))
      iterate 2
        · refine wpG_execs_cons (ifOr2G (by intro _; rfl) (by intro _; rfl) ?_)
          refine' callNameXG (f := 765) (K := Mine.hd.heap_1_1 W.w.params) ?hn ?hkp ?_ rfl rfl
          case hn =>
            intro Q' hq
            k_steps
            exact hq
          case hkp => k_is
          k_steps
          refine' useG (s_parse_script W ((4 + (sd : Int)).toNat.toUInt8 :: be 32 X) _ (by rw [List.length_cons, be_len]; decide)) HB BU DU ?F ?N TU ?hA ?hf ?hk ?hh ?hdp ?hun ?_ ?_
          walk_at "M useG"
          rotate_left 1
          · intro _ _ _ _ _ hx _; rw [hPS] at hx; exact absurd hx.2 (by simp)
          intro v h2 tk2 g3 hv T3 F3 N3 B3 X3 Top3 D3
          obtain ⟨r9, t9, er9, rfl⟩ := hv
          rw [hPS] at er9
          cases er9
          clear TU BU XU TopU DU
          k_steps
          all_goals (try exact trivial)
          refine wpG_of ?_
          k_steps
          refine wpG_of (wpAny_execs_nil (wpG_of (wpAny_execs_nil ?_)))
          exact ⟨gU, _, _, _, rfl, ⟨TU, BU, XU, TopU, DU⟩, trivial, Fr.one (by assumption) (by with_unfolding_all rfl), News.sub (by assumption) (fun p hp => .tail _ hp)⟩
  case hdone =>
    clear F2 N2 F3 N3 F' N' B' X' T' D'
    intro g m h tk ⟨TU, BU, XU, TopU, DU⟩ _ F9 N9
    unfold oneL at F9
    dsimp only
    refine wpG_execs_cons (wpG_of ?_)
    k_steps
    any_goals (exfalso; omega)
    have eG : (115792089237316195423570985008687907853269984665640564039457584007908834671663 + 1 : Int).toNat = 115792089237316195423570985008687907853269984665640564039457584007908834671664 := by decide +kernel
    refine' to_big32 (by decide) (by decide) ?_
    intro tb kb
    rw [eG]
    k_steps
    refine wpG_execs_cons (ifOr2G (by intro _; rfl) (by intro _; rfl) ?_)
    refine' callNameXG (f := 765) (K := Mine.hd.heap_1_1 W.w.params) ?hn ?hkp ?_ rfl rfl
    case hn =>
      intro Q' hq
      k_steps
      exact hq
    case hkp => k_is
    k_steps
    refine' useG (s_parse_script W ([4] ++ be 32 115792089237316195423570985008687907853269984665640564039457584007908834671664) _ (by rw [List.length_append, be_len]; decide)) HB BU DU ?F ?N TU ?hA ?hf ?hk ?hh ?hdp ?hun ?_ ?_
    walk_at "M useG"
    rotate_left 1
    · intro _ _ _ _ _ hx _; rw [parse_great] at hx; exact absurd hx.2 (by simp)
    intro v h2 tk2 g3 hv T3 F3 N3 B3 X3 Top3 D3
    obtain ⟨r9, t9, er9, rfl⟩ := hv
    rw [parse_great] at er9
    cases er9
    clear TU BU XU TopU DU
    k_steps
    refine wpG_of ?_
    k_steps
    any_goals (exfalso; omega)
    refine' to_big32 (by decide) (by decide) ?_
    intro tc kc
    k_steps
    unfold Hold
    have hv9 := hv'.2 (comp_great _)
    subst hv9
    k_steps
    refine wpG_execs_cons (ifOr2G (by intro _; rfl) (by intro _; rfl) ?_)
    refine' callNameXG (f := 765) (K := Mine.hd.heap_1_1 W.w.params) ?hn ?hkp ?_ rfl rfl
    case hn =>
      intro Q' hq
      k_steps
      exact hq
    case hkp => k_is
    k_steps
    have p1 : parseS (enc (Int.toNat 10006) ++ zeros (Int.toNat 10000)) = some (zeros (Int.toNat 10000)) := by
      rw [show Int.toNat 10006 = 10006 from rfl, show Int.toNat 10000 = 10000 from rfl, parse_z _ _ (by decide) (by decide)]
      rfl
    have l1 := enc_len (n := 10006) (by decide)
    have l2 := enc_len (n := 10007) (by decide)
    refine' useG (s_parse_script W (enc (Int.toNat 10006) ++ zeros (Int.toNat 10000)) _ (by walk_at "M len")) HB BU DU ?F ?N TU ?hA ?hf ?hk ?hh ?hdp ?hun ?_ ?_
    walk_at "M useG"
    rotate_left 1
    · intro _ _ _ _ _ hx _; rw [p1] at hx; exact absurd hx.2 (by simp)
    intro v h4 tk4 g4 hv T4 F4 N4 B4 X4 Top4 D4
    obtain ⟨r9, t9, er9, rfl⟩ := hv
    rw [p1] at er9
    cases er9
    clear TU BU XU TopU DU
    k_steps
    · rename (_ != _) = true => q9
      rw [bne_self_eq_false] at q9
      cases q9
    have p2 : parseS (enc (Int.toNat 10007) ++ zeros (Int.toNat 10000)) = none := by
      rw [show Int.toNat 10007 = 10007 from rfl, show Int.toNat 10000 = 10000 from rfl, parse_z _ _ (by decide) (by decide)]
      rfl
    have p3 : parseS (enc (Int.toNat 10007) ++ zeros (Int.toNat 10001)) = some [106] := by
      rw [show Int.toNat 10007 = 10007 from rfl, show Int.toNat 10001 = 10001 from rfl, parse_z _ _ (by decide) (by decide)]
      rfl
    refine' callNameXG (f := 823) (K := Mine.hd.heap_1_1 W.w.params) ?hn ?hkp ?_ rfl rfl
    case hn =>
      intro Q' hq
      k_steps
      exact hq
    case hkp => k_is
    k_steps
    refine' useG (s_script_read W (enc (Int.toNat 10007) ++ zeros (Int.toNat 10000)) _ (by walk_at "M len")) HB B4 D4 ?F ?N T4 ?hA ?hf ?hk ?hh ?hdp ?hun ?_ ?_
    walk_at "M useG"
    rotate_left 1
    · intro _ _ _ _ _ x; exact x.elim
    intro v h5 tk5 g5 hv T5 F5 N5 B5 X5 Top5 D5
    rw [p2] at hv
    have hv9 : v = Value.none := hv
    subst hv9
    clear T4 B4 X4 Top4 D4
    k_steps
    refine wpG_execs_cons (wpG_Return (wpG_Compare1 ?_ (by intro _; rfl)))
    refine' callNameXG (f := 765) (K := Mine.hd.heap_1_1 W.w.params) ?hn ?hkp ?_ rfl rfl
    case hn =>
      intro Q' hq
      k_steps
      exact hq
    case hkp => k_is
    k_steps
    refine' useG (s_parse_script W (enc (Int.toNat 10007) ++ zeros (Int.toNat 10001)) _ (by walk_at "M len")) HB B5 D5 ?F ?N T5 ?hA ?hf ?hk ?hh ?hdp ?hun ?_ ?_
    walk_at "M useG"
    rotate_left 1
    · intro _ _ _ _ _ hx _; rw [p3] at hx; exact absurd hx.2 (by simp)
    intro v h6 tk6 g6 hv T6 F6 N6 B6 X6 Top6 D6
    obtain ⟨r9, t9, er9, rfl⟩ := hv
    rw [p3] at er9
    cases er9
    clear T5 B5 X5 Top5 D5
    refine wpG_of ?_
    k_steps
    refine wpG_of ?_
    k_steps
    rw [show ((#[106] : Array UInt8).toList == (#[106] : Array UInt8).toList) = true from by decide]
    exact hret _ _ (Same.of_turn T6 (Fr.keep (by k_asm)))
end
-- FI
section
theorem fin : PySem.Challenge.rw_fc0028_01.Holds :=
  join (fun W Ls its ns hI hz base l s R HB S hl hr => s_numbers W Ls its ns hI hz base l s R HB S hl hr)
    (fun W Ls its ns hI hz base l s R HB S hl hr => s_amounts W Ls its ns hI hz base l s R HB S hl hr)
    (fun W Ls its ns hI hz base l s R HB S hl hr => s_scripts W Ls its ns hI hz base l s R HB S hl hr)
end
end
end Mine
end
theorem PySem.Challenge.cw_fc0028_01_holds : PySem.Challenge.rw_fc0028_01.Holds :=
  Mine.fin
