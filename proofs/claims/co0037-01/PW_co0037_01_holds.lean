import PyProof.Rows.All
import Wide.All
import OpenK.AllK
import Wide.FinOn
import PySem.Challenge.RW_co0037_01
open PySem PySem.W PyProof.Rows
set_option Elab.async false
set_option maxRecDepth 100000
set_option maxHeartbeats 8000000
set_option rowWalk.seconds 0
namespace Mine
open_top hd for PySem.Challenge.rw_co0037_01
end Mine
namespace Mine
open PySem.Calls PySem.Spec

/-! bytes((n,)): a one-item tuple of an octet -/
theorem tb_no_bytes : typeLookup (.type "tuple") "__bytes__" = pure none := by rw [typeLookup_type, builtinLookup_eq_fast]; kernel_rfl
theorem tb_no_index : typeLookup (.type "tuple") "__index__" = pure none := by rw [typeLookup_type, builtinLookup_eq_fast]; kernel_rfl
theorem tb_no_buffer : typeLookup (.type "tuple") "__buffer__" = pure none := by rw [typeLookup_type, builtinLookup_eq_fast]; kernel_rfl
theorem tb_split : splitId "tuple.__len__" = some ("tuple", "__len__") := by decide +kernel
theorem tb_sub : isSubtype (.type "tuple") (.type "tuple") = pure true := by rw [isSubtype_type]; kernel_rfl

section
variable {prog : Program} {w : World} {A : Around} {E : Value → Shared → Prop} {s : Shared}

/-- the loop of bytes.__new__ at the end of a walked tuple -/
theorem tb_last {R : Result → Shared → Prop} {l I B : Addr} {items : Array Value} {i : Nat} {bs : Array UInt8} (hh : A.handled = none) (hz : bs.size ≤ sizeLine) (hIB : I ≠ B)
    (ht : s.heap.IsTuple l items) (hit : s.heap.IsTupleIter I l i) (hx : items[i]? = none) (hB : s.heap.get? B = some { cls := .type "bytearray", data := .bytearray bs })
    (hR : ∀ h' t k, (∀ b o, b ≠ I → s.heap.get? b = some o → h'.get? b = some o) → R (.ok (.ret (.bytes bs t))) { s with heap := h', toks := k }) :
    codeAny (model prog w) A (.builtin "bytes.__new__.loop" ⟨[.type "bytes", .ref I, .ref B], []⟩) R s := by
  refine codeAny_builtin F.bm_entry_loop ?_
  rw [Around.under_plainId F.bm_plain_loop _]
  show wpAny _ A.in1 (pyNext (.ref I) >>= _) _ _ s
  refine wpAny_bind (wpAny_pyNext_tuple_end hh hit ht hx fun h' he => ?_)
  have hB' : h'.get? B = some { cls := .type "bytearray", data := .bytearray bs } := he B _ (Ne.symm hIB) hB
  refine wpAny_bind ?_
  unfold Builtin.Bytes.payload Builtin.Bytes.payload?
  refine wpAny_bind (wpAny_bind (wpAny_load hB' ?_))
  refine wpAny_pure (wpAny_pure ?_)
  refine wpAny_bind (wpAny_mkBytes ?_ hz)
  show wpAny _ _ (if (Value.type "bytes" == Value.type "bytes") = true then _ else _) _ _ _
  refine bm_if_true (by decide) ?_
  first
    | exact wpAny_pure (hR h' _ _ fun b o hb e => he b o hb e)
    | exact wpAny_bind (wpAny_pure (wpAny_pure (hR h' _ _ fun b o hb e => he b o hb e)))

/-- one turn of that loop -/
theorem tb_turn {R : Result → Shared → Prop} {l I B : Addr} {items : Array Value} {i : Nat} {bs : Array UInt8} {n : Int} {t : Tok} (hz : bs.size + 1 ≤ sizeLine) (hIB : I ≠ B) (hlI : l ≠ I) (hlB : l ≠ B)
    (ht : s.heap.IsTuple l items) (hit : s.heap.IsTupleIter I l i) (hx : items[i]? = some (.int n t)) (hn0 : 0 ≤ n) (hn1 : n < 256) (hB : s.heap.get? B = some { cls := .type "bytearray", data := .bytearray bs })
    (hR : ∀ h', h'.IsTuple l items → h'.IsTupleIter I l (i + 1) → h'.get? B = some { cls := .type "bytearray", data := .bytearray (bs.push n.toNat.toUInt8) } → (∀ b o, b ≠ I → b ≠ B → s.heap.get? b = some o → h'.get? b = some o) →
      codeAny (model prog w) A (.builtin "bytes.__new__.loop" ⟨[.type "bytes", .ref I, .ref B], []⟩) R { s with heap := h' }) :
    codeAny (model prog w) A (.builtin "bytes.__new__.loop" ⟨[.type "bytes", .ref I, .ref B], []⟩) R s := by
  refine codeAny_builtin F.bm_entry_loop ?_
  rw [Around.under_plainId F.bm_plain_loop _]
  show wpAny _ A.in1 (pyNext (.ref I) >>= _) _ _ s
  refine wpAny_bind (wpAny_pyNext_tuple_item (x := .int n t) hit ht hx fun h' hit' hs => ?_)
  have hB' : h'.get? B = some { cls := .type "bytearray", data := .bytearray bs } := (hs.2 B (Ne.symm hIB)).trans hB
  refine wpAny_bind (wpAny_holding (wpAny_of_eq (rfl : asIndex (.int n t) = pure n) ?_))
  refine wpAny_bind (wpAny_letGo ?_)
  refine bm_if_false (by simp only [Bool.or_eq_false_iff, decide_eq_false_iff_not]; omega) ?_
  refine wpAny_bind ?_
  show wpAny _ _ (updateBytearray B (·.push n.toNat.toUInt8)) _ _ _
  unfold updateBytearray
  refine wpAny_bind (wpAny_load hB' ?_)
  show wpAny _ _ (update B (Obj.mapBytearray (·.push n.toNat.toUInt8)) >>= fun _ => lookBehind B) _ _ _
  refine wpAny_bind (wpAny_update hB' ?_)
  have hB₂ : (h'.update B (Obj.mapBytearray (·.push n.toNat.toUInt8))).get? B = some { cls := .type "bytearray", data := .bytearray (bs.push n.toNat.toUInt8) } :=
    Heap.get?_update_self (Obj.mapBytearray (·.push n.toNat.toUInt8)) hB' rfl
  refine wpAny_lookBehind hB₂ ?_ ?_
  · show (if (bs.push n.toNat.toUInt8).size > sizeLine then some "bytearray:memory" else none) = none
    rw [if_neg]
    rw [Array.size_push]
    omega
  · refine wpAny_pure ⟨plainId_quiet F.bm_plain_loop _, hR _ ?_ ?_ hB₂ fun b o hbI hbB e => ?_⟩
    · exact (ht.extBut hs.extBut hlI).extBut (Heap.SameBut.update ..).extBut hlB
    · exact hit'.extBut (Heap.SameBut.update ..).extBut hIB
    · exact (Heap.get?_update_other _ _ (Ne.symm hbB)).trans (hs.extBut b o hbI e)

theorem tb_new {l : Addr} {n : Int} {t : Tok} {Q : Value → Shared → Prop} (hh : A.handled = none) (ht : s.heap.IsTuple l #[.int n t]) (hn0 : 0 ≤ n) (hn1 : n < 256)
    (hQ : ∀ h' t k, (∀ b o, s.heap.get? b = some o → h'.get? b = some o) → Q (.bytes #[n.toNat.toUInt8] t) { s with heap := h', toks := k }) :
    codeAny (model prog w) A (.call (.builtin "bytes.__new__") ⟨[.type "bytes", .ref l], []⟩) (wants Q E) s := by
  refine codeAny_of_tree ?_
  show wpAny _ A.in1 (do checkBuiltinCall "bytes.__new__" ⟨[.type "bytes", .ref l], []⟩; again (.builtin "bytes.__new__" ⟨[.type "bytes", .ref l], []⟩)) _ _ s
  refine wpAny_bind (wpAny_of_eq (F.bm_newCall _) (wpAny_pure ⟨plainId_quiet F.bm_plain _, codeAny_builtin F.bm_entry ?_⟩))
  rw [Around.under_plainId F.bm_plain _]
  have hT : s.TypeIs (.ref l) "tuple" := ht.typeIs
  obtain ⟨ol, hol, hoc, nl, hod⟩ := id ht
  unfold Builtin.«bytes.__new__»
  refine wpAny_bind (wpAny_of_eq (a := true) rfl ?_)
  refine bm_if_false rfl ?_
  refine wpAny_bind (wpAny_of_eq F.bm_sub ?_)
  refine bm_if_false rfl ?_
  refine wpAny_bind (wpAny_of_eq (F.bm_bind _) ?_)
  refine wpAny_bind (wpAny_of_eq (a := ()) rfl ?_)
  refine wpAny_bind (wpAny_of_eq (a := ()) rfl ?_)
  refine bm_if_false rfl ?_
  refine wpAny_bind (wpAny_specialOf hT tb_no_bytes ?_)
  refine wpAny_bind (wpAny_bind ?_)
  show wpAny _ _ (load l >>= _) _ _ _
  refine wpAny_bind (wpAny_load hol ?_)
  rw [hod]
  refine wpAny_pure (wpAny_pure ?_)
  refine bm_if_false rfl ?_
  refine wpAny_bind (wpAny_specialOf hT tb_no_index ?_)
  refine bm_if_true rfl ?_
  first
    | show wpAny _ _ (Builtin.Bytes.buffer? "bytes.__new__" (.ref l) true >>= _) _ _ _
    | (refine wpAny_bind ?_; show wpAny _ _ (Builtin.Bytes.buffer? "bytes.__new__" (.ref l) true >>= _) _ _ _)
  refine wpAny_bind ?_
  unfold Builtin.Bytes.buffer?
  refine wpAny_bind (wpAny_specialOf hT tb_no_buffer ?_)
  refine wpAny_bind (wpAny_specialOf hT tb_no_buffer ?_)
  refine wpAny_pure ?_
  refine wpAny_bind (wpAny_tryCatch (wpAny_pyIter_tuple ht ?_))
  have ht₁ : (s.heap.push { cls := .type "tuple_iterator", data := .fields #[.ref l, .int 0 0] }).IsTuple l #[.int n t] := ht.push _
  have hT₁ : ({ s with heap := s.heap.push { cls := .type "tuple_iterator", data := .fields #[.ref l, .int 0 0] } } : Shared).TypeIs (.ref l) "tuple" := Heap.IsTuple.typeIs (s := { s with heap := s.heap.push { cls := .type "tuple_iterator", data := .fields #[.ref l, .int 0 0] } }) ht₁
  refine wpAny_bind (wpAny_holding ?_)
  unfold Builtin.Bytes.lengthHint
  refine wpAny_bind (wpAny_specialOf hT₁ PySem.F.slot_tuple_len.lookup ?_)
  dsimp only
  rw [tb_split]
  dsimp only
  refine wpAny_bind (wpAny_isInstance hT₁ tb_sub ?_)
  refine bm_if_false rfl ?_
  refine bm_if_true (by decide +kernel) ?_
  refine wpAny_pure ?_
  refine wpAny_bind ?_
  unfold Builtin.Bytes.newBytearray
  refine wpAny_newObj_type ?_ (Nat.zero_le _)
  have hlt : l < s.heap.objs.size := Heap.lt_size hol
  have hsz : (s.heap.push { cls := .type "tuple_iterator", data := .fields #[.ref l, .int 0 0] }).objs.size = s.heap.objs.size + 1 := Heap.size_push _ _
  have hIB : s.heap.objs.size ≠ (s.heap.push { cls := .type "tuple_iterator", data := .fields #[.ref l, .int 0 0] }).objs.size := by rw [hsz]; exact Nat.ne_of_lt (Nat.lt_succ_self _)
  have hlB : l ≠ (s.heap.push { cls := .type "tuple_iterator", data := .fields #[.ref l, .int 0 0] }).objs.size := by rw [hsz]; exact Nat.ne_of_lt (Nat.lt_succ_of_lt hlt)
  have main : codeAny (model prog w) A (.builtin "bytes.__new__.loop" ⟨[.type "bytes", .ref s.heap.objs.size, .ref (s.heap.push { cls := .type "tuple_iterator", data := .fields #[.ref l, .int 0 0] }).objs.size], []⟩) (wants Q E)
      { s with heap := (s.heap.push { cls := .type "tuple_iterator", data := .fields #[.ref l, .int 0 0] }).push { cls := .type "bytearray", data := .bytearray #[] } } := by
    refine tb_turn (l := l) (i := 0) (bs := #[]) (n := n) (t := t) (items := #[.int n t]) (by rw [sizeLine_eq]; decide) hIB (Nat.ne_of_lt hlt) hlB (ht₁.push _)
      ⟨_, Heap.get?_push_of_some _ (Heap.get?_push_size _ rfl), rfl, rfl⟩ rfl hn0 hn1 (Heap.get?_push_size _ rfl) fun h' ht' hit' hB' hk => ?_
    refine tb_last (l := l) (i := 1) (items := #[.int n t]) hh (by rw [sizeLine_eq, Array.size_push]; decide) hIB ht' hit' rfl hB' fun h2 t2 k2 hk2 => ?_
    exact hQ h2 t2 k2 fun b o e => hk2 b o (Nat.ne_of_lt (Heap.lt_size e)) (hk b o (Nat.ne_of_lt (Heap.lt_size e)) (by rw [hsz]; exact Nat.ne_of_lt (Nat.lt_succ_of_lt (Heap.lt_size e))) (Heap.get?_push_of_some _ (Heap.get?_push_of_some _ e)))
  first
    | exact wpAny_pure ⟨plainId_quiet F.bm_plain_loop _, main⟩
    | exact wpAny_pure (wpAny_pure ⟨plainId_quiet F.bm_plain_loop _, main⟩)

theorem tb_call {l : Addr} {n : Int} {t : Tok} {Q : Value → Shared → Prop} (hh : A.handled = none) (ht : s.heap.IsTuple l #[.int n t]) (hn0 : 0 ≤ n) (hn1 : n < 256)
    (hQ : ∀ h' t k, (∀ b o, s.heap.get? b = some o → h'.get? b = some o) → Q (.bytes #[n.toNat.toUInt8] t) { s with heap := h', toks := k }) : wpAny (model prog w) A (call (.type "bytes") [.ref l]) Q E s := by
  refine callType_codes (Q₁ := fun obj s₁ => s₁.TypeIs obj "bytes" ∧ Q obj s₁) F.bm_called (F.bm_typeCall _) F.entry_object_init
    (tb_new hh ht hn0 hn1 fun h' t k hk => ⟨PySem.W.typeIs_bytes _ _ _, hQ h' t k hk⟩) fun obj s₁ h₁ => ?_
  exact ⟨h₁.1, F.args_object_init_2 obj _, object_init_meets F.bm_called.init.lookup F.bm_called.made (by decide) prog w A.in1 _ s₁ ⟨h₁.1, rfl, h₁.2⟩⟩
end

section
variable {prog : Program} {w : World} {A : Around} {E : Value → Shared → Prop} {s : Shared} {h₀ : Heap} {L : Addr} {m : Str → Option Value} {news : List (Addr × Obj)} {b : Array UInt8} {t : Tok}
theorem tb_K {l : Addr} {n : Int} {t : Tok} {c : Nat} {Q : Value → Shared → Prop} (F : Fr h₀ L s.heap m) (N : News h₀ L s.heap news) (hh : A.handled = none) (hm : (l, ({ cls := .type "tuple", data := .seq #[.int n t] c } : Obj)) ∈ news) (hn0 : 0 ≤ n) (hn1 : n < 256)
    (h : ∀ h' t k, Fr h₀ L h' m → News h₀ L h' news → Q (.bytes #[n.toNat.toUInt8] t) { s with heap := h', toks := k }) : wpAny (model prog w) A (call (.type "bytes") [.ref l]) Q E s :=
  tb_call hh ⟨_, (N _ hm).1, rfl, c, rfl⟩ hn0 hn1 fun h' t k hk => h h' t k (F.keptAll hk) (N.grown hk)

/-! iter(b) of bytes -/
theorem ib_K {Q : Value → Shared → Prop} (F : Fr h₀ L s.heap m) (N : News h₀ L s.heap news)
    (h : ∀ (I : Addr) h', Fr h₀ L h' m → News h₀ L h' ((I, ({ cls := .type "bytes_iterator", data := .fields #[.bytes b t, .int 0 0] } : Obj)) :: news) → (∀ p ∈ news, p.1 < I) → Q (.ref I) { s with heap := h' }) :
    wpAny (model prog w) A (call (.builtin "iter") [.bytes b t]) Q E s := by
  refine call_function_entry (by decide +kernel) (by decide +kernel) kdk_entry_iter (kdk_args_iter _) ?_
  unfold Builtin.«iter»
  refine wpAny_bind (m := someArgs "iter" 1 2 _) (wpAny_of_eq (a := [Value.bytes b t]) (by first | rfl | kernel_rfl!) ?_)
  show wpAny _ _ (pyIter (.bytes b t) >>= _) _ _ _
  refine wpAny_bind (KBw.pyIter_bytes ?_)
  exact wpAny_pure ⟨_, rfl, h _ _ (F.push _) (News.push F N _ rfl) (fun q hq => Heap.lt_size (N q hq).1)⟩
end

section
variable {prog : Program} {w : World} {A : Around} {E : Value → Shared → Prop} {s : Shared} {env : Env} {h₀ : Heap} {x : PySem.Str} {body : List Stmt} {Q : Flow → Shared → Prop}
/-- a loop over a bytes_iterator of the call's own, by an invariant over the octets taken so far -/
theorem ib_loop {I : Addr} {b : Array UInt8} {t : Tok} {m₀ : PySem.Str → Option Value} {news : List (Addr × Obj)} (J : List Int → (PySem.Str → Option Value) → List (Addr × Obj) → Prop)
    (hh : A.handled = none) (F : Fr h₀ env.locals s.heap m₀) (N : News h₀ env.locals s.heap ((I, ({ cls := .type "bytes_iterator", data := .fields #[.bytes b t, .int 0 0] } : Obj)) :: news)) (hI : ∀ p ∈ news, p.1 ≠ I) (hj : J [] m₀ news)
    (turn : ∀ pre post n t m₁ nx h tk own, KBw.bInts b = pre ++ n :: post → 0 ≤ n → n < 256 → OwnOff own (news.map (·.1)) → J pre m₁ nx → nx.map (·.1) = news.map (·.1) →
      Fr h₀ env.locals h (fun y => if y = x then some (.int n t) else m₁ y) → News h₀ env.locals h (nx ++ own) →
      wpAny (model prog w) A (execs body env) (InvPostN h₀ env.locals (J (pre ++ [n])) own (news.map (·.1)) { s with heap := h, toks := tk } Q) E { s with heap := h, toks := tk })
    (done : ∀ m₁ nx h tk, J (KBw.bInts b) m₁ nx → Fr h₀ env.locals h m₁ → News h₀ env.locals h nx → Q .next { s with heap := h, toks := tk }) :
    wpAny (model prog w) A (pyIter (.ref I)) (fun it s₂ => LoopAtV prog w A h₀ env x body Q E it s₂) E s := by
  have hp := N _ (List.mem_cons_self ..)
  have hit : KBw.IsBytesIter s.heap I b t 0 := ⟨_, hp.1, rfl, rfl⟩
  refine KBw.pyIter_self hit ?_
  have W := KBw.walks (prog := prog) (w := w) hh I b t
  refine loop_invN (fun i m nx => J ((KBw.bInts b).take i) m nx) W ?_ ?_ ?_ ?_ hit F (fun p hp => N p (List.mem_cons_of_mem _ hp)) (by simpa using hj) ?_ ?_
  · intro hm
    exact hp.2.1 (List.mem_singleton.mp hm).symm
  · intro b' hb
    rw [List.mem_singleton.mp hb]
    exact hp.2.2
  · intro p hp hm
    exact hI p hp (List.mem_singleton.mp hm)
  · intro p hp hm
    exact hI p hp (List.mem_singleton.mp hm)
  · rintro i v m₁ nx h tk own hi ⟨n, u, hn, rfl⟩ hadr hoff hJ F₁ N₁
    have hn' := KBw.ints_get hn
    have hs : (KBw.bInts b).take (i + 1) = (KBw.bInts b).take i ++ [(n.toNat : Int)] := by simp [List.take_add_one, hn']
    have e : KBw.bInts b = (KBw.bInts b).take i ++ (n.toNat : Int) :: (KBw.bInts b).drop (i + 1) := by
      have ht := List.take_append_drop (i + 1) (KBw.bInts b)
      rw [hs, List.append_assoc] at ht
      exact ht.symm
    have hb := KBw.ints_in (List.mem_of_getElem? hn')
    rw [hs]
    exact turn _ _ (n.toNat : Int) u m₁ nx h tk own e hb.1 hb.2 hoff hJ hadr F₁ N₁
  · rintro m₁ nx h tk hJ F₁ N₁
    have h8 : b.size = (KBw.bInts b).length := (KBw.ints_length b).symm
    rw [h8, List.take_length] at hJ
    exact done m₁ nx h tk hJ F₁ N₁
end
end Mine
namespace Mine
section
variable {prog : Program} {w : World} {A : Around} {E : Value → Shared → Prop} {s : Shared} {env : Env} {h₀ : Heap} {x : PySem.Str} {body : List Stmt} {Q : Flow → Shared → Prop}
theorem kst_ib {σ : Type} {I : Addr} {b : Array UInt8} {t : Tok} {m₀ : PySem.Str → Option Value} (Led : σ → List (Addr × Obj)) (ps : σ → List (PySem.Str × Value)) (Facts : σ → Prop) (stored : List PySem.Str) (P : List Int → σ → Prop) (c₀ : σ)
    (hh : A.handled = none) (F : Fr h₀ env.locals s.heap m₀) (N : News h₀ env.locals s.heap ((I, ({ cls := .type "bytes_iterator", data := .fields #[.bytes b t, .int 0 0] } : Obj)) :: Led c₀)) (hI : ∀ p ∈ Led c₀, p.1 ≠ I)
    (hf : Facts c₀) (hk : ∀ p ∈ ps c₀, m₀ p.1 = some p.2) (hp : P [] c₀)
    (turn : ∀ (c : σ) (pre post : List Int) (n : Int) t (u : PySem.Str → Option Value) h tk own, KBw.bInts b = pre ++ n :: post → 0 ≤ n → n < 256 → OwnOff own ((Led c₀).map (·.1)) → Facts c → P pre c →
      Fr h₀ env.locals h (fun y => if y = x then some (.int n t) else kstB (fun z => if stored.contains z then u z else m₀ z) (ps c) y) → News h₀ env.locals h (Led c ++ own) →
      wpAny (model prog w) A (execs body env) (InvPostN h₀ env.locals (KstS Led ps Facts x stored m₀ P (pre ++ [n])) own ((Led c₀).map (·.1)) { s with heap := h, toks := tk } Q) E { s with heap := h, toks := tk })
    (done : ∀ (c : σ) (u : PySem.Str → Option Value) h tk, Facts c → P (KBw.bInts b) c → Fr h₀ env.locals h (fun y => if y = x then u y else kstB (fun z => if stored.contains z then u z else m₀ z) (ps c) y) → News h₀ env.locals h (Led c) → Q .next { s with heap := h, toks := tk }) :
    wpAny (model prog w) A (pyIter (.ref I)) (fun it s₂ => LoopAtV prog w A h₀ env x body Q E it s₂) E s := by
  refine ib_loop (KstS Led ps Facts x stored m₀ P) hh F N hI ⟨c₀, rfl, hf, hk, fun _ _ _ _ => rfl, hp⟩ ?_ ?_
  · rintro pre post n t m₁ nx h tk own e h0 h1 hoff ⟨c, rfl, hf', h2, h3, hp'⟩ _ F₁ N₁
    exact turn c pre post n t m₁ h tk own e h0 h1 hoff hf' hp' (kst_fr h2 h3 F₁) N₁
  · rintro m₁ nx h tk ⟨c, rfl, hf', h2, h3, hp'⟩ F₁ N₁
    exact done c m₁ h tk hf' hp' (kst_frOut h2 h3 F₁) N₁
end
end Mine
namespace Mine
open PySem.Calls
theorem ib_noI : typeLookup (.type "bytes") (dunderI "add") = pure none := by rw [typeLookup_type, builtinLookup_eq_fast]; kernel_rfl
section
variable {prog : Program} {w : World} {A : Around} {E : Value → Shared → Prop} {s : Shared} {b c : Array UInt8} {t u : Tok} {Q : Value → Shared → Prop}
/-- b += c, both bytes -/
theorem iadd_bytes (hsz : b.size + c.size ≤ 16777216) (h : ∀ t' k, Q (.bytes (b ++ c) t') { s with toks := k }) : wpAny (model prog w) A (inplaceOp .Add (.bytes b t) (.bytes c u)) Q E s := by
  refine iconcat_gives (typeIs_bytes s b t) (typeIs_bytes s c u) ib_noI KBy.noFill_bytes_add KBy.seq_bytes_add FB.slot_bytes_add FB.entry_bytes_add (FB.args_bytes_add_2 _ _) (KBy.gives_bytes_add (KBy.tooLong_not hsz)) ?_
  by_cases hb : b.isEmpty = true
  · rw [if_pos hb]
    have h' := h u s.toks
    rw [Array.isEmpty_iff.1 hb, Array.empty_append] at h'
    exact h'
  · rw [if_neg hb]
    by_cases hc : c.isEmpty = true
    · rw [if_pos hc]
      have h' := h t s.toks
      rw [Array.isEmpty_iff.1 hc, Array.append_empty] at h'
      exact h'
    · rw [if_neg hc]
      exact ⟨by rw [Array.size_append, sizeLine_eq]; exact hsz, h s.toks (s.toks + 1)⟩
end
end Mine
namespace Mine

/-- the box, and the two places -/
abbrev St := List Int × Int × Int
def swp (S : List Int) (i j : Int) : List Int := (S.set i.toNat (S.getD j.toNat 0)).set j.toNat (S.getD i.toNat 0)
def stepP (st : St) : St :=
  let i := (st.2.1 + 1).fmod 256
  let j := (st.2.2 + st.1.getD i.toNat 0).fmod 256
  (swp st.1 i j, i, j)
def outP (st : St) : Int := st.1.getD ((st.1.getD st.2.1.toNat 0 + st.1.getD st.2.2.toNat 0).fmod 256).toNat 0
def runP (st : St) (ms : List Int) : St := ms.foldl (fun st _ => stepP st) st
def encP (st : St) : List Int → List Int
  | [] => []
  | c :: cs => Builtin.bitXor c (outP (stepP st)) :: encP (stepP st) cs
def Oct (v : Int) : Prop := 0 ≤ v ∧ v < 256
def Okay (st : St) : Prop := st.1.length = 256 ∧ (∀ v ∈ st.1, Oct v) ∧ Oct st.2.1 ∧ Oct st.2.2

theorem oct_mod (a : Int) : Oct (a.fmod 256) := ⟨Int.fmod_nonneg_of_pos _ (by decide), Int.fmod_lt_of_pos _ (by decide)⟩
theorem oct_getD {S : List Int} (h : ∀ v ∈ S, Oct v) (k : Nat) : Oct (S.getD k 0) := by
  rw [List.getD_eq_getElem?_getD]
  cases e : S[k]? with
  | none => exact ⟨by decide, by decide⟩
  | some v => exact h v (List.mem_of_getElem? e)
theorem oct_set {S : List Int} (h : ∀ v ∈ S, Oct v) (k : Nat) {x : Int} (hx : Oct x) : ∀ v ∈ S.set k x, Oct v := by
  intro v hv
  rcases List.mem_or_eq_of_mem_set hv with h1 | h1
  · exact h v h1
  · exact h1 ▸ hx
theorem swp_len (S : List Int) (i j : Int) : (swp S i j).length = S.length := by simp [swp]
theorem swp_oct {S : List Int} (h : ∀ v ∈ S, Oct v) (i j : Int) : ∀ v ∈ swp S i j, Oct v := oct_set (oct_set h _ (oct_getD h _)) _ (oct_getD h _)
theorem okay_step {st : St} (h : Okay st) : Okay (stepP st) := ⟨(swp_len ..).trans h.1, swp_oct h.2.1 _ _, oct_mod _, oct_mod _⟩
theorem oct_out {st : St} (h : Okay st) : Oct (outP st) := oct_getD h.2.1 _
theorem okay_run {st : St} (h : Okay st) (ms : List Int) : Okay (runP st ms) := by
  unfold runP
  induction ms generalizing st with
  | nil => exact h
  | cons m ms ih => exact ih (okay_step h)
theorem runP_snoc (st : St) (ms : List Int) (m : Int) : runP st (ms ++ [m]) = stepP (runP st ms) := by simp [runP]
theorem runP_cons (st : St) (m : Int) (ms : List Int) : runP st (m :: ms) = runP (stepP st) ms := rfl
theorem runP_app (st : St) (ms ns : List Int) : runP st (ms ++ ns) = runP (runP st ms) ns := by simp [runP]
theorem encP_app (st : St) (ms ns : List Int) : encP st (ms ++ ns) = encP st ms ++ encP (runP st ms) ns := by
  induction ms generalizing st with
  | nil => rfl
  | cons m ms ih => simp only [List.cons_append, encP, runP_cons, ih]
theorem encP_snoc (st : St) (ms : List Int) (m : Int) : encP st (ms ++ [m]) = encP st ms ++ [Builtin.bitXor m (outP (stepP (runP st ms)))] := by
  rw [encP_app]; rfl
theorem encP_len (st : St) (ms : List Int) : (encP st ms).length = ms.length := by
  induction ms generalizing st with
  | nil => rfl
  | cons m ms ih => simp [encP, ih]
theorem runP_len (st : St) {ms ns : List Int} (h : ms.length = ns.length) : runP st ms = runP st ns := by
  induction ms generalizing st ns with
  | nil => cases ns with
    | nil => rfl
    | cons => cases h
  | cons m ms ih => cases ns with
    | nil => cases h
    | cons n ns => exact ih _ (by simpa using h)
theorem nat_xor_and : ∀ (n a b : Nat), a < 2 ^ n → b < 2 ^ n → (a ^^^ b) + 2 * (a &&& b) = a + b := by
  intro n
  induction n with
  | zero => intro a b ha hb; obtain rfl : a = 0 := by omega
            obtain rfl : b = 0 := by omega
            rfl
  | succ n ih =>
    intro a b ha hb
    have h := ih (a / 2) (b / 2) (by omega) (by omega)
    have h1 : (a ^^^ b) / 2 = a / 2 ^^^ b / 2 := Nat.xor_div_two
    have h2 : (a &&& b) / 2 = a / 2 &&& b / 2 := Nat.and_div_two
    have h3 : (a ^^^ b) % 2 = 1 ↔ ¬ (a % 2 = 1 ↔ b % 2 = 1) := Nat.xor_mod_two_eq_one
    have h4 : (a &&& b) % 2 = 1 ↔ a % 2 = 1 ∧ b % 2 = 1 := by simp
    rw [← h1, ← h2] at h
    generalize a ^^^ b = x at *
    generalize a &&& b = y at *
    omega
theorem xor_oct {a b : Int} (ha : Oct a) (hb : Oct b) : Builtin.bitXor a b = ((a.toNat ^^^ b.toNat : Nat) : Int) := by
  obtain ⟨a0, a1⟩ := ha
  obtain ⟨b0, b1⟩ := hb
  have h := nat_xor_and 8 a.toNat b.toNat (by omega) (by omega)
  rw [bitXor_and, bitAnd_pp a0 b0]
  omega
theorem oct_xor {a b : Int} (ha : Oct a) (hb : Oct b) : Oct (Builtin.bitXor a b) := by
  rw [xor_oct ha hb]
  have h := Nat.xor_lt_two_pow (n := 8) (x := a.toNat) (y := b.toNat) (by have := ha.2; omega) (by have := hb.2; omega)
  exact ⟨by omega, by omega⟩
theorem xor_back {a b : Int} (ha : Oct a) (hb : Oct b) : Builtin.bitXor (Builtin.bitXor a b) b = a := by
  rw [xor_oct (oct_xor ha hb) hb, xor_oct ha hb]
  have h : (((a.toNat ^^^ b.toNat : Nat) : Int)).toNat = a.toNat ^^^ b.toNat := by omega
  rw [h, Nat.xor_assoc, Nat.xor_self, Nat.xor_zero]
  have := ha.1; omega
theorem xor_both {a b c : Int} (ha : Oct a) (hb : Oct b) (hc : Oct c) : Builtin.bitXor (Builtin.bitXor a c) (Builtin.bitXor b c) = Builtin.bitXor a b := by
  rw [xor_oct (oct_xor ha hc) (oct_xor hb hc), xor_oct ha hc, xor_oct hb hc, xor_oct ha hb]
  have h : (((a.toNat ^^^ c.toNat : Nat) : Int)).toNat = a.toNat ^^^ c.toNat := by omega
  have h' : (((b.toNat ^^^ c.toNat : Nat) : Int)).toNat = b.toNat ^^^ c.toNat := by omega
  rw [h, h', Nat.xor_comm b.toNat c.toNat, Nat.xor_assoc, ← Nat.xor_assoc c.toNat, Nat.xor_self, Nat.zero_xor]
theorem oct_enc {st : St} (h : Okay st) {ms : List Int} (hm : ∀ m ∈ ms, Oct m) : ∀ v ∈ encP st ms, Oct v := by
  induction ms generalizing st with
  | nil => intro v hv; cases hv
  | cons m ms ih =>
    intro v hv
    rcases List.mem_cons.mp hv with rfl | hv
    · exact oct_xor (hm m (.head _)) (oct_out (okay_step h))
    · exact ih (okay_step h) (fun k hk => hm k (.tail _ hk)) v hv
theorem octet_ints {v : Int} (h : Oct v) : KBw.bInts #[v.toNat.toUInt8] = [v] := KBa.ints_make (ns := [v]) (fun n hn => by rw [List.mem_singleton.mp hn]; exact h)
/-- what is locked twice is as it was -/
theorem encP_twice {st : St} (h : Okay st) {ms : List Int} (hm : ∀ m ∈ ms, Oct m) : encP st (encP st ms) = ms := by
  induction ms generalizing st with
  | nil => rfl
  | cons m ms ih =>
    simp only [encP]
    rw [xor_back (hm m (.head _)) (oct_out (okay_step h)), ih (okay_step h) fun k hk => hm k (.tail _ hk)]
/-- one turn of the key's mixing -/
def ksaStep (ks : List Int) (st : List Int × Int) (i : Int) : List Int × Int :=
  let j := (st.2 + st.1.getD i.toNat 0 + ks.getD (i.fmod (ks.length : Int)).toNat 0).fmod 256
  (swp st.1 i j, j)
@[irreducible] def ksaRun (ks : List Int) (pre : List Int) : List Int × Int := pre.foldl (ksaStep ks) (rangeKs 0 256, 0)
def Okk (st : List Int × Int) : Prop := st.1.length = 256 ∧ (∀ v ∈ st.1, Oct v) ∧ Oct st.2
theorem okk_step {ks : List Int} {st : List Int × Int} (h : Okk st) (i : Int) : Okk (ksaStep ks st i) := ⟨(swp_len ..).trans h.1, swp_oct h.2.1 _ _, oct_mod _⟩
theorem okk_start : Okk (rangeKs 0 256, 0) := by
  refine ⟨rangeKs_length _ _, fun v hv => ?_, ⟨by decide, by decide⟩⟩
  unfold rangeKs at hv
  obtain ⟨k, hk, rfl⟩ := List.mem_map.mp hv
  have := List.mem_range.mp hk
  exact ⟨by omega, by omega⟩
theorem okk_run (ks : List Int) (pre : List Int) : Okk (ksaRun ks pre) := by
  unfold ksaRun
  have : ∀ (pre : List Int) (st : List Int × Int), Okk st → Okk (pre.foldl (ksaStep ks) st) := by
    intro pre
    induction pre with
    | nil => exact fun _ h => h
    | cons i pre ih => exact fun st h => ih _ (okk_step h i)
  exact this pre _ okk_start
theorem foldl_snoc {α β : Type} (f : α → β → α) (a : α) (l : List β) (x : β) : (l ++ [x]).foldl f a = f (l.foldl f a) x := by simp
theorem ksaRun_snoc (ks pre : List Int) (i : Int) : ksaRun ks (pre ++ [i]) = ksaStep ks (ksaRun ks pre) i := by unfold ksaRun; exact foldl_snoc _ _ _ _
theorem ksaRun_nil (ks : List Int) : ksaRun ks [] = (rangeKs 0 256, 0) := by unfold ksaRun; rfl
/-- the cipher's box, ready -/
@[irreducible] def boxOf (ks : List Int) : List Int := (ksaRun ks (rangeKs 0 256)).1
theorem okay_box (ks : List Int) : Okay (boxOf ks, 0, 0) := by
  have h := okk_run ks (rangeKs 0 256)
  unfold boxOf
  generalize ksaRun ks (rangeKs 0 256) = z at h
  have h0 : Oct 0 := ⟨by decide, by decide⟩
  exact ⟨h.1, h.2.1, h0, h0⟩
theorem boxOf_eq {ks S : List Int} {j : Int} (h : (S, j) = ksaRun ks (rangeKs 0 256)) : S = boxOf ks := by unfold boxOf; rw [← h]
end Mine
namespace Mine

/-! the law's own box: a dict of what has moved -/
theorem look_put (c : List (Int × Int)) (a x k d : Int) : kdfLook (kdfPut c a x) k d = if k = a then x else kdfLook c k d := by
  have key : ∀ c : List (Int × Int), ((c.map (fun p => if decide (p.1 = a) then (p.1, x) else p)).find? fun p => decide (p.1 = k)) = (c.find? fun p => decide (p.1 = k)).map (fun p => if decide (p.1 = a) then (p.1, x) else p) := by
    intro c
    have e : ((fun p : Int × Int => decide (p.1 = k)) ∘ fun p => if decide (p.1 = a) then (p.1, x) else p) = fun p => decide (p.1 = k) := by
      funext p
      show decide ((if decide (p.1 = a) = true then (p.1, x) else p).1 = k) = decide (p.1 = k)
      by_cases h : p.1 = a
      · rw [if_pos (decide_eq_true h)]
      · rw [if_neg (by simp [h])]
    rw [List.find?_map, e]
  unfold kdfPut kdfLook
  by_cases hc : (c.any fun p => decide (p.1 = a)) = true
  · rw [if_pos hc, key]
    by_cases hk : k = a
    · subst hk
      rw [if_pos rfl]
      cases hf : c.find? fun p => decide (p.1 = k) with
      | none =>
        rw [List.find?_eq_none] at hf
        obtain ⟨p, hp, hp2⟩ := List.any_eq_true.mp hc
        exact absurd hp2 (hf p hp)
      | some p =>
        have := List.find?_some hf
        simp only [Option.map_some, Option.getD_some]
        rw [if_pos this]
    · rw [if_neg hk]
      cases hf : c.find? fun p => decide (p.1 = k) with
      | none => rfl
      | some p =>
        have h1 : p.1 = k := by simpa using List.find?_some hf
        simp only [Option.map_some, Option.getD_some]
        rw [if_neg (by simp; omega)]
  · rw [if_neg hc, List.find?_append]
    by_cases hk : k = a
    · subst hk
      rw [if_pos rfl]
      have : (c.find? fun p => decide (p.1 = k)) = none := by
        rw [List.find?_eq_none]
        intro p hp h2
        exact hc (List.any_eq_true.mpr ⟨p, hp, h2⟩)
      rw [this]
      simp
    · rw [if_neg hk]
      have : ([(a, x)].find? fun p : Int × Int => decide (p.1 = k)) = none := by
        simp
        omega
      rw [this, Option.or_none]

def Rel (c : List (Int × Int)) (S : List Int) : Prop := ∀ k : Int, 0 ≤ k → k < 256 → kdfLook c k k = S.getD k.toNat 0
theorem rel_start : Rel [] (rangeKs 0 256) := by
  intro k h0 h1
  rw [kll_at (by omega)]
  show k = 0 + (k.toNat : Int)
  omega
theorem getD_set (S : List Int) (i : Nat) (x : Int) (k : Nat) (hk : k < S.length) : (S.set i x).getD k 0 = if i = k then x else S.getD k 0 := by
  rw [List.getD_eq_getElem?_getD, List.getElem?_set, List.getD_eq_getElem?_getD]
  by_cases h : i = k
  · subst h; simp [hk]
  · simp [h]
theorem swp_get {S : List Int} {i j k : Int} (hl : S.length = 256) (hi : Oct i) (hj : Oct j) (hk : Oct k) :
    (swp S i j).getD k.toNat 0 = if k = j then S.getD i.toNat 0 else if k = i then S.getD j.toNat 0 else S.getD k.toNat 0 := by
  obtain ⟨i0, i1⟩ := hi
  obtain ⟨j0, j1⟩ := hj
  obtain ⟨k0, k1⟩ := hk
  unfold swp
  rw [getD_set _ _ _ _ (by rw [List.length_set]; omega), getD_set _ _ _ _ (by omega)]
  by_cases h1 : k = j
  · rw [if_pos (by rw [h1]), if_pos h1]
  · rw [if_neg (by omega), if_neg h1]
    by_cases h2 : k = i
    · rw [if_pos (by rw [h2]), if_pos h2]
    · rw [if_neg (by omega), if_neg h2]
theorem rel_swp {c : List (Int × Int)} {S : List Int} {i j : Int} (h : Rel c S) (hl : S.length = 256) (hi : Oct i) (hj : Oct j) :
    Rel (kdfPut (kdfPut c i (kdfLook c j j)) j (kdfLook c i i)) (swp S i j) := by
  intro k h0 h1
  rw [swp_get hl hi hj ⟨h0, h1⟩, look_put, look_put, h i hi.1 hi.2, h j hj.1 hj.2, h k h0 h1]
theorem swp_sum {S : List Int} {i j : Int} (hl : S.length = 256) (hi : Oct i) (hj : Oct j) :
    (swp S i j).getD i.toNat 0 + (swp S i j).getD j.toNat 0 = S.getD i.toNat 0 + S.getD j.toNat 0 := by
  rw [swp_get hl hi hj hi, swp_get hl hi hj hj]
  by_cases h : i = j
  · subst h; simp
  · rw [if_neg h, if_pos rfl, if_pos rfl]; omega

def stN (ks : List Int) : Nat → St
  | 0 => (boxOf ks, 0, 0)
  | n + 1 => stepP (stN ks n)
theorem stN_zero (ks : List Int) : stN ks 0 = (boxOf ks, 0, 0) := rfl
theorem stN_succ (ks : List Int) (n : Nat) : stN ks (n + 1) = stepP (stN ks n) := rfl
theorem okay_stN (ks : List Int) (n : Nat) : Okay (stN ks n) := by
  induction n with
  | zero => rw [stN_zero]; exact okay_box ks
  | succ n ih => rw [stN_succ]; exact okay_step ih
theorem stN_i (ks : List Int) (n : Nat) (h : n < 256) : (stN ks n).2.1 = (n : Int) := by
  induction n with
  | zero => rw [stN_zero]; rfl
  | succ n ih =>
    rw [stN_succ]
    show ((stN ks n).2.1 + 1).fmod 256 = _
    rw [ih (by omega), Int.fmod_eq_emod_of_nonneg _ (by decide)]
    omega
@[irreducible] def ksaN (ks : List Int) (n : Nat) : List Int × Int := ksaRun ks (rangeKs 0 n)
theorem ksaN_zero (ks : List Int) : ksaN ks 0 = (rangeKs 0 256, 0) := by unfold ksaN; exact ksaRun_nil ks
theorem rangeKs_succ (n : Nat) : rangeKs 0 (n + 1) = rangeKs 0 n ++ [(n : Int)] := by
  unfold rangeKs
  rw [List.range_succ, List.map_append]
  simp
theorem ksaN_succ (ks : List Int) (n : Nat) : ksaN ks (n + 1) = ksaStep ks (ksaN ks n) n := by
  unfold ksaN
  rw [rangeKs_succ, ksaRun_snoc]
theorem okk_N (ks : List Int) (n : Nat) : Okk (ksaN ks n) := by unfold ksaN; exact okk_run ks _
theorem ksaN_box (ks : List Int) : (ksaN ks 256).1 = boxOf ks := by unfold ksaN boxOf; rfl
@[irreducible] def streamOf (ks : List Int) (many : Nat) : List Int := (List.range many).map fun q => outP (stN ks (q + 1))
theorem streamOf_zero (ks : List Int) : streamOf ks 0 = [] := by unfold streamOf; rfl
theorem streamOf_succ (ks : List Int) (n : Nat) : streamOf ks (n + 1) = streamOf ks n ++ [outP (stN ks (n + 1))] := by
  unfold streamOf
  rw [List.range_succ, List.map_append]
  rfl
theorem streamOf_len (ks : List Int) (n : Nat) : (streamOf ks n).length = n := by unfold streamOf; simp
theorem streamOf_oct (ks : List Int) (n : Nat) : ∀ v ∈ streamOf ks n, Oct v := by
  unfold streamOf
  intro v hv
  obtain ⟨q, _, rfl⟩ := List.mem_map.mp hv
  exact oct_out (okay_stN ks _)

/-- what holds behind t turns of the law's loop -/
structure SInv (ks : List Int) (t : Nat) (c : List (Int × Int)) (j : Int) (outs : List Int) : Prop where
  size : c.length ≤ 2 * t
  low : t ≤ 256 → outs = [] ∧ Rel c (ksaN ks t).1 ∧ j = (ksaN ks t).2
  high : 256 < t → outs = streamOf ks (t - 256) ∧ Rel c (stN ks (t - 256)).1 ∧ j = (stN ks (t - 256)).2.2
theorem sinv_start (ks : List Int) : SInv ks 0 [] 0 [] := ⟨Nat.le_refl _, fun _ => by rw [ksaN_zero]; exact ⟨rfl, rel_start, rfl⟩, fun h => absurd h (by omega)⟩
theorem put2_len (c : List (Int × Int)) (a b x y : Int) : (kdfPut (kdfPut c a x) b y).length ≤ c.length + 2 := by
  have h1 := kdfPut_len (kdfPut c a x) b y
  have h2 := kdfPut_len c a x
  omega
/-- a turn that mixes the key in -/
theorem sinv_low {ks : List Int} {t : Nat} {c : List (Int × Int)} {j j' : Int} {outs : List Int} (h : SInv ks t c j outs) (ht : t < 256)
    (hj : j' = (j + kdfLook c (t : Int) t + ks.getD ((t : Int).fmod (ks.length : Int)).toNat 0).fmod 256) :
    SInv ks (t + 1) (kdfPut (kdfPut c (t : Int) (kdfLook c j' j')) j' (kdfLook c (t : Int) t)) j' outs := by
  obtain ⟨ho, hr, hj0⟩ := h.low (by omega)
  have hok := okk_N ks t
  have e1 : kdfLook c (t : Int) t = (ksaN ks t).1.getD (t : Int).toNat 0 := hr t (by omega) (by omega)
  have hs : ksaN ks (t + 1) = (swp (ksaN ks t).1 t j', j') := by
    rw [ksaN_succ, hj, e1, hj0]; rfl
  have hjo : Oct j' := hj ▸ oct_mod _
  refine ⟨?_, fun _ => ⟨ho, ?_, ?_⟩, fun h => absurd h (by omega)⟩
  · have := put2_len c t j' (kdfLook c j' j') (kdfLook c (t : Int) t)
    have := h.size
    omega
  · rw [hs]; exact rel_swp hr hok.1 ⟨by omega, by omega⟩ hjo
  · rw [hs]
/-- a turn that lays an octet out -/
theorem sinv_high {ks : List Int} {t : Nat} {c : List (Int × Int)} {j j0 i j' : Int} {outs : List Int} (h : SInv ks t c j outs) (ht : 256 ≤ t) (ht2 : t < 500)
    (hj0 : j0 = if t = 256 then 0 else j) (hi : i = (t : Int) - 255) (hj : j' = (j0 + kdfLook c i i).fmod 256) :
    SInv ks (t + 1) (kdfPut (kdfPut c i (kdfLook c j' j')) j' (kdfLook c i i)) j'
      (outs ++ [kdfLook (kdfPut (kdfPut c i (kdfLook c j' j')) j' (kdfLook c i i)) ((kdfLook c i i + kdfLook c j' j').fmod 256) ((kdfLook c i i + kdfLook c j' j').fmod 256)]) := by
  have hst : outs = streamOf ks (t - 256) ∧ Rel c (stN ks (t - 256)).1 ∧ j0 = (stN ks (t - 256)).2.2 := by
    by_cases h6 : t = 256
    · obtain ⟨ho, hr, _⟩ := h.low (by omega)
      rw [if_pos h6] at hj0
      subst h6
      rw [Nat.sub_self, streamOf_zero, stN_zero]
      rw [ksaN_box] at hr
      exact ⟨ho, hr, hj0⟩
    · rw [if_neg h6] at hj0
      rw [hj0]
      exact h.high (by omega)
  obtain ⟨ho, hr, hjj⟩ := hst
  have hok := okay_stN ks (t - 256)
  have hin := stN_i ks (t - 256) (by omega)
  have hio : Oct i := ⟨by omega, by omega⟩
  have hjo : Oct j' := hj ▸ oct_mod _
  have e1 : kdfLook c i i = (stN ks (t - 256)).1.getD i.toNat 0 := hr i hio.1 hio.2
  have e2 : kdfLook c j' j' = (stN ks (t - 256)).1.getD j'.toNat 0 := hr j' hjo.1 hjo.2
  have ei : ((stN ks (t - 256)).2.1 + 1).fmod 256 = i := by
    rw [hin, Int.fmod_eq_emod_of_nonneg _ (by decide)]; omega
  have hs : stN ks (t - 256 + 1) = (swp (stN ks (t - 256)).1 i j', i, j') := by
    rw [stN_succ]
    unfold stepP
    dsimp only
    rw [ei, ← hjj, ← e1, ← hj]
  have hr' := rel_swp hr hok.1 hio hjo
  have et : t + 1 - 256 = t - 256 + 1 := by omega
  refine ⟨?_, fun h => absurd h (by omega), fun _ => ⟨?_, ?_, ?_⟩⟩
  · have := put2_len c i j' (kdfLook c j' j') (kdfLook c i i)
    have := h.size
    omega
  · rw [et, streamOf_succ, ho, hs]
    refine congrArg (fun z => streamOf ks (t - 256) ++ [z]) ?_
    unfold outP
    dsimp only
    rw [hr' _ (oct_mod _).1 (oct_mod _).2, swp_sum hok.1 hio hjo, e1, e2]
  · rw [et, hs]; exact hr'
  · rw [et, hs]
theorem sinv_end {ks : List Int} {many : Nat} {c : List (Int × Int)} {j : Int} {outs : List Int} (h : SInv ks (256 + many) c j outs) : outs = streamOf ks many := by
  by_cases hm : many = 0
  · subst hm
    rw [streamOf_zero]
    exact (h.low (by omega)).1
  · have := (h.high (by omega)).1
    have e : 256 + many - 256 = many := by omega
    rw [e] at this
    exact this

theorem sinv_lowK {ks : List Int} {t : Nat} {c : List (Int × Int)} {j j' k : Int} {outs : List Int} (h : SInv ks t c j outs) (ht : t < 256) (hk : k = 0 + (t : Int))
    (hj : j' = (j + kdfLook c k k + ks.getD (k.fmod (ks.length : Int)).toNat 0).fmod 256) :
    SInv ks (t + 1) (kdfPut (kdfPut c k (kdfLook c j' j')) j' (kdfLook c k k)) j' outs := by
  rw [Int.zero_add] at hk
  subst hk
  exact sinv_low h ht hj
theorem sinv_highK {ks : List Int} {t : Nat} {c : List (Int × Int)} {j j0 i j' k : Int} {outs : List Int} (h : SInv ks t c j outs) (ht : 256 ≤ t) (ht2 : t < 500) (hk : k = 0 + (t : Int))
    (hj0 : j0 = if t = 256 then 0 else j) (hi : i = k - 255) (hj : j' = (j0 + kdfLook c i i + 0).fmod 256) :
    SInv ks (t + 1) (kdfPut (kdfPut c i (kdfLook c j' j')) j' (kdfLook c i i)) j'
      (outs ++ [kdfLook (kdfPut (kdfPut c i (kdfLook c j' j')) j' (kdfLook c i i)) ((kdfLook c i i + kdfLook c j' j').fmod 256) ((kdfLook c i i + kdfLook c j' j').fmod 256)]) :=
  sinv_high h ht ht2 hj0 (by omega) (by rw [hj, Int.add_zero])
theorem sinv_len {ks : List Int} {t : Nat} {c : List (Int × Int)} {j : Int} {outs : List Int} (h : SInv ks t c j outs) : outs.length ≤ t := by
  by_cases hm : t ≤ 256
  · rw [(h.low hm).1]; exact Nat.zero_le _
  · rw [(h.high (by omega)).1, streamOf_len]; omega
/-- the cipher's answer, place by place -/
theorem encP_get (ks : List Int) : ∀ (ms : List Int) (n k : Nat), k < ms.length → (encP (stN ks n) ms).getD k 0 = Builtin.bitXor (ms.getD k 0) (outP (stN ks (n + k + 1))) := by
  intro ms
  induction ms with
  | nil => intro n k h; cases h
  | cons m ms ih =>
    intro n k h
    cases k with
    | zero =>
      show Builtin.bitXor m (outP (stepP (stN ks n))) = _
      rw [← stN_succ]; rfl
    | succ k =>
      show (encP (stepP (stN ks n)) ms).getD k 0 = Builtin.bitXor (ms.getD k 0) _
      rw [← stN_succ, ih (n + 1) k (by simpa using h)]
      congr 3
      omega
theorem streamOf_get (ks : List Int) (n k : Nat) (h : k < n) : (streamOf ks n).getD k 0 = outP (stN ks (k + 1)) := by
  unfold streamOf
  rw [List.getD_eq_getElem?_getD, List.getElem?_map, List.getElem?_range h]
  rfl
end Mine
namespace Mine
theorem map_inj {α β : Type} {f : α → β} (hf : ∀ x y, f x = f y → x = y) : ∀ {l m : List α}, l.map f = m.map f → l = m
  | [], [], _ => rfl
  | [], _ :: _, h => by cases h
  | _ :: _, [], h => by cases h
  | x :: l, y :: m, h => by
    rw [List.map_cons, List.map_cons] at h
    injection h with h1 h2
    rw [hf x y h1, map_inj hf h2]
theorem bInts_inj {b c : Array UInt8} (h : KBw.bInts b = KBw.bInts c) : b = c := by
  unfold KBw.bInts at h
  refine Array.toList_inj.mp (map_inj (fun x y hxy => ?_) h)
  exact UInt8.toNat_inj.mp (by omega)
theorem octs_bytes {b : Array UInt8} {ks : List Int} (h : KBw.bInts b = ks) : ∀ v ∈ ks, Oct v := fun v hv => KBw.ints_in (h ▸ hv)
theorem runP_stN (ks : List Int) (n : Nat) (ms : List Int) : runP (stN ks n) ms = stN ks (n + ms.length) := by
  induction ms generalizing n with
  | nil => rfl
  | cons m ms ih =>
    rw [runP_cons, ← stN_succ, ih (n + 1), List.length_cons]
    congr 1
    omega
theorem enc_map (ks ol sl : List Int) (hs : sl = streamOf ks ol.length) :
    encP (stN ks 0) ol = (rangeKs 0 ol.length).map fun k => Builtin.bitXor (ol.getD k.toNat 0) (sl.getD k.toNat 0) := by
  apply List.ext_getElem
  · rw [encP_len, List.length_map, rangeKs_length]
  · intro k h1 h2
    have hk : k < ol.length := by rwa [encP_len] at h1
    have e := encP_get ks ol 0 k hk
    rw [List.getD_eq_getElem?_getD, List.getElem?_eq_getElem h1] at e
    rw [List.getElem_map]
    have er : (rangeKs 0 ol.length)[k]'(by rw [rangeKs_length]; exact hk) = (k : Int) := by
      unfold rangeKs
      simp
    rw [er, hs, Int.toNat_natCast, streamOf_get ks _ _ hk]
    have e0 : 0 + k + 1 = k + 1 := by omega
    rw [e0] at e
    exact e
/-- one after another is the whole -/
theorem enc_parts (ks ms : List Int) (n : Nat) : encP (stN ks 0) (ms.take n) ++ encP (stN ks (0 + (ms.take n).length)) (ms.drop n) = encP (stN ks 0) ms := by
  rw [← runP_stN, ← encP_app, List.take_append_drop]
theorem xor_places (ks ol tl : List Int) (n : Nat) (hn : n ≤ ol.length) (hm : n ≤ tl.length) (ho : ∀ v ∈ ol, Oct v) (ht : ∀ v ∈ tl, Oct v) :
    ((rangeKs 0 n).map fun k => Builtin.bitXor ((encP (stN ks 0) ol).getD k.toNat 0) ((encP (stN ks 0) tl).getD k.toNat 0)) = (rangeKs 0 n).map fun k => Builtin.bitXor (ol.getD k.toNat 0) (tl.getD k.toNat 0) := by
  apply List.map_congr_left
  intro k hk
  unfold rangeKs at hk
  obtain ⟨q, hq, rfl⟩ := List.mem_map.mp hk
  have hq' := List.mem_range.mp hq
  have e : (0 + (q : Int)).toNat = q := by omega
  rw [e, encP_get ks ol 0 q (by omega), encP_get ks tl 0 q (by omega)]
  exact xor_both (oct_getD ho _) (oct_getD ht _) (oct_out (okay_stN ks _))
end Mine
namespace Mine
open PySem.Calls
theorem lt_fix {k : Int} {n : Nat} (h : k < 0 + (((n : Int) - 0).toNat : Int)) : k < (n : Int) := by omega
theorem lt_fix63 {k : Int} {n : Nat} (h : k < 0 + (((n : Int) - 0).toNat : Int)) (hn : n ≤ 100) : k < 2 ^ 63 := by omega
theorem toNat_fix (n : Nat) : ((n : Int) - 0).toNat = n := by omega
theorem in_xor {ol sl : List Int} (ho : ∀ v ∈ ol, Oct v) (hs : ∀ v ∈ sl, Oct v) (a : Int) (n : Nat) : KBa.In ((rangeKs a n).map fun k => Builtin.bitXor (ol.getD k.toNat 0) (sl.getD k.toNat 0)) := by
  intro v hv
  obtain ⟨k, _, rfl⟩ := List.mem_map.mp hv
  exact oct_xor (oct_getD ho _) (oct_getD hs _)
theorem enc_map' {ks ol sl : List Int} {lr : Array UInt8} (hs : streamOf ks ol.length = sl) (hlr : KBw.bInts lr = encP (stN ks 0) ol) :
    KBw.bInts lr = (rangeKs 0 ((ol.length : Int) - 0).toNat).map fun k => Builtin.bitXor (ol.getD k.toNat 0) (sl.getD k.toNat 0) := by
  rw [toNat_fix, hlr, enc_map ks ol sl hs.symm]
section
variable {prog : Program} {w : World} {A : Around} {E : Value → Shared → Prop} {s : Shared} {h₀ : Heap} {L D : Addr} {m : PySem.Str → Option Value} {news : List (Addr × Obj)} {vs : List Value} {ns : List Int} {lr : Array UInt8}
theorem make_as {Q : Value → Shared → Prop} (F : Fr h₀ L s.heap m) (N : News h₀ L s.heap news) (hh : A.handled = none) (hl : s.heap.IsList D vs.toArray) (hi : IntsAre vs ns) (hr : KBa.In ns) (hn : ns.length ≤ 16777216) (hlr : KBw.bInts lr = ns)
    (h : ∀ h' t' k, Fr h₀ L h' m → News h₀ L h' news → Q (.bytes lr t') { s with heap := h', toks := k }) : wpAny (model prog w) A (call (.type "bytes") [.ref D]) Q E s := by
  refine KBa.make_K F N hh hl hi hr hn fun h' t' k F' N' _ => ?_
  have e : byteArr ns = lr := bInts_inj (by rw [KBa.ints_make hr, hlr])
  rw [e]
  exact h h' t' k F' N'
end
end Mine

namespace Mine
/-! a key said twice over -/
theorem flat_len (r : Nat) (ks : List Int) : (List.replicate r ks).flatten.length = r * ks.length := by
  induction r with
  | zero => simp
  | succ r ih => rw [List.replicate_succ, List.flatten_cons, List.length_append, ih, Nat.succ_mul]; omega
theorem flat_get (ks : List Int) : ∀ (r q : Nat), q < r * ks.length → (List.replicate r ks).flatten.getD q 0 = ks.getD (q % ks.length) 0 := by
  intro r
  induction r with
  | zero => intro q h; simp at h
  | succ r ih =>
    intro q h
    rw [List.replicate_succ, List.flatten_cons, List.getD_eq_getElem?_getD, List.getElem?_append]
    by_cases hq : q < ks.length
    · rw [if_pos hq, Nat.mod_eq_of_lt hq, List.getD_eq_getElem?_getD]
    · have h' : q < r * ks.length + ks.length := by rw [← Nat.succ_mul]; exact h
      have hm : q % ks.length = (q - ks.length) % ks.length := Nat.mod_eq_sub_mod (by omega)
      rw [if_neg hq, ← List.getD_eq_getElem?_getD, ih (q - ks.length) (by omega), hm]
theorem step_rep {r : Nat} {ks : List Int} (hr : 0 < r) (hk : 0 < ks.length) (st : List Int × Int) {i : Int} (hi : 0 ≤ i) : ksaStep (List.replicate r ks).flatten st i = ksaStep ks st i := by
  have e : (List.replicate r ks).flatten.getD (i.fmod ((List.replicate r ks).flatten.length : Int)).toNat 0 = ks.getD (i.fmod (ks.length : Int)).toNat 0 := by
    obtain ⟨n, rfl⟩ := Int.eq_ofNat_of_zero_le hi
    rw [flat_len, Int.fmod_eq_emod_of_nonneg _ (by omega), Int.fmod_eq_emod_of_nonneg _ (by omega)]
    have e1 : ((n : Int) % ((r * ks.length : Nat) : Int)).toNat = n % (r * ks.length) := by omega
    have e2 : ((n : Int) % ((ks.length : Nat) : Int)).toNat = n % ks.length := by omega
    rw [e1, e2, flat_get ks r _ (Nat.mod_lt _ (Nat.mul_pos hr hk)), Nat.mod_mul_left_mod]
  unfold ksaStep
  rw [e]
theorem run_rep {r : Nat} {ks : List Int} (hr : 0 < r) (hk : 0 < ks.length) (pre : List Int) (hp : ∀ i ∈ pre, 0 ≤ i) : ksaRun (List.replicate r ks).flatten pre = ksaRun ks pre := by
  unfold ksaRun
  have key : ∀ (pre : List Int) (st : List Int × Int), (∀ i ∈ pre, 0 ≤ i) → pre.foldl (ksaStep (List.replicate r ks).flatten) st = pre.foldl (ksaStep ks) st := by
    intro pre
    induction pre with
    | nil => exact fun _ _ => rfl
    | cons i pre ih =>
      intro st h
      rw [List.foldl_cons, List.foldl_cons, step_rep hr hk st (h i (.head _))]
      exact ih _ fun k hk => h k (.tail _ hk)
  exact key pre _ hp
theorem box_rep {r : Nat} {ks : List Int} (hr : 0 < r) (hk : 0 < ks.length) : boxOf (List.replicate r ks).flatten = boxOf ks := by
  unfold boxOf
  rw [run_rep hr hk]
  intro i hi
  unfold rangeKs at hi
  obtain ⟨q, _, rfl⟩ := List.mem_map.mp hi
  omega
end Mine
namespace Mine
/-! the two slices -/
theorem cut_lo {ms : List Int} {c : Int} (h0 : 0 ≤ c) (h1 : c ≤ ms.length) : (ms.drop ((none : Option Int).elim 0 (clipAt ms.length))).take ((some c).elim ms.length (clipAt ms.length) - (none : Option Int).elim 0 (clipAt ms.length)) = ms.take c.toNat := by
  have e : clipAt ms.length c = c.toNat := by
    have h := clipAt_nat ms.length c.toNat
    rw [Int.toNat_of_nonneg h0] at h
    rw [h]
    omega
  simp only [Option.elim, e, List.drop_zero, Nat.sub_zero]
theorem cut_hi {ms : List Int} {c : Int} (h0 : 0 ≤ c) (h1 : c ≤ ms.length) : (ms.drop ((some c).elim 0 (clipAt ms.length))).take ((none : Option Int).elim ms.length (clipAt ms.length) - (some c).elim 0 (clipAt ms.length)) = ms.drop c.toNat := by
  have e : clipAt ms.length c = c.toNat := by
    have h := clipAt_nat ms.length c.toNat
    rw [Int.toNat_of_nonneg h0] at h
    rw [h]
    omega
  simp only [Option.elim, e]
  rw [List.take_of_length_le (by rw [List.length_drop]; exact Nat.le_refl _)]
end Mine
namespace Mine


theorem init_b {w : World} {mean : ExcName → Option Value} {mg mb : Str → Option Value}
    (dp un : Nat) (gd : Option (List Code)) (cn : Str) (cs : Scope) (a : Addr) (ccd : Value) (cl : List (Str × Addr)) (outer : List Env) (A₀ : Around) (base h₀ : Heap) (L : Addr) (m : Str → Option Value) (s : Shared) (Q E : Value → Shared → Prop)
    (news : List (Addr × Obj)) (b : Array UInt8) (tb : Tok)
    (B : Below A₀ base outer h₀) (F : Fr h₀ L s.heap m) (X : (hd.heap_39 w.params).In h₀)
    (N : News h₀ L s.heap (news))
    (T : Top hd.view_39 (looseW hd.view_39 [Str.ofString "Arcfour"]) mean mg mb h₀) (hk : cs.kind = .function)
    (ks : List Int) (hks : KBw.bInts b = ks) (hb0 : 0 < ks.length) (hb : ks.length ≤ 100)
    (hdp : dp + 4 < recursionLimit)
    (hret : ∀ (x dx l : Nat) (h' : Heap) (tk' : Nat) (vs' : List Value) (k1 k2 k3 ti tj : Tok) (nn : Nat), Fr h₀ L h' m →
      News h₀ L h' ((l, W.listOf vs'.toArray nn) :: (x, instObj 38 dx) :: (dx, dictOf [⟨PyData.keyHash w.params (Str.ofString "s"), .str (Str.ofString "s") k1, .ref l⟩, ⟨PyData.keyHash w.params (Str.ofString "i"), .str (Str.ofString "i") k2, .int 0 ti⟩, ⟨PyData.keyHash w.params (Str.ofString "j"), .str (Str.ofString "j") k3, .int 0 tj⟩] 3) :: news) →
      (∀ p ∈ news, p.1 < dx) → dx < x → x < l → IntsAre vs' (boxOf ks) → Q (.ref x) { s with heap := h', toks := tk' }) :
    wpAny (model Challenge.rw_co0037_01.row.prog w) (ktrTop dp un gd cn cs L a ccd cl outer) (call (.ref 38) [.bytes b tb]) Q E s := by
  w_top off
  have kMark := kstMark
  revert X
  k_fill
  intro X
  k_dflt (refine' call_cls ?k1 ?k2 ?k3 ?k4 ?k5 ?k6 ?_; (case k1 => k_asm); (case k2 => k_asm); (case k3 => k_asm); (case k4 => k_is); (case k5 => k_is); (case k6 => k_is); k_whole; intro x dx hx F' N' l1 l2; (try k_lt2 l2); cell_enter)
  have l1' := l1
  (try k_lt l1)
  repeat (focus ((fail_if_success (with_reducible show wpAny _ _ (PySem.call (Value.type "list") _) _ _ _)); (first | (k_unfold; (try dsimp only)) | (k_end; wrow_close) | walk1 | (dsimp only; walk1) | (leave1; walk_say "STEP leave1"; try dsimp only) | fail "no step")))
  (rename Fr _ _ _ _ => F2); (rename News _ _ _ _ => N2); (rename IsRange _ _ _ _ _ _ _ _ => rgX)
  (with_unfolding_all refine' kll_range (n := 256) (by rfl) F2 N2 rgX (by decide) (by decide) (by decide) ?_)
  intro l vs nn h2 tk2 F3 N3 l3 hI
  clear F2 N2
  k_lt l3
  repeat (focus ((fail_if_success (with_reducible show wpAny _ _ (pyIter _) _ _ _)); (first | (k_unfold; (try dsimp only)) | (k_end; wrow_close) | walk1 | (dsimp only; walk1) | (leave1; walk_say "STEP leave1"; try dsimp only) | fail "no step")))
  (rename Fr _ _ _ _ => lF'); (rename News _ _ _ _ => lN'); (rename IsRange _ _ _ _ _ _ _ _ => rgY)
  refine' kst_range (σ := List Value × List Int × Int × Tok) (n := 256)
    (fun c => (l, W.listOf c.1.toArray nn) :: (x, instObj 38 dx) :: (dx, dictOf [] 0) :: news)
    (fun c => [(Str.ofString "j", .int c.2.2.1 c.2.2.2)])
    (fun c => IntsAre c.1 c.2.1) []
    (fun pre c => (c.2.1, c.2.2.1) = ksaRun ks pre)
    (vs, rangeKs 0 256, 0, _) (by rfl) rgY (by decide) (by decide) lF' ?kn ?kf ?kk ?kp ?_ ?_
  case kn => exact kst_newsOf lN' (by kst_inAny)
  case kf => exact hI
  case kk => kst_all
  case kp => exact (ksaRun_nil ks).symm
  · rintro ⟨vs', S', j', tj'⟩ pre k tn u h' tk' own hk' hlt hoff' hF' hrun F1 N1
    dsimp only [kstB] at F1 N1 hF' hrun hoff'
    simp only [List.cons_append] at N1
    simp only [List.map_cons] at hoff'
    dsimp only
    clear lF' lN'
    have hok := okk_run ks pre
    rw [← hrun] at hok
    have hl' : S'.length = 256 := hok.1
    obtain ⟨hj0', hj1'⟩ := hok.2.2
    dsimp only at hj0' hj1'
    have hm0 : 0 ≤ k.fmod (ks.length : Int) := Int.fmod_nonneg_of_pos _ (by omega)
    have hm1 : k.fmod (ks.length : Int) < (ks.length : Int) := Int.fmod_lt_of_pos _ (by omega)
    (show wpAny _ _ _ _ _ _)
    k_fold
    repeat (focus ((fail_if_success (with_reducible show InvEndN _ _ _ _ _ _ _)); (first | (k_unfold; (try dsimp only)) | (k_end; wrow_close) | walk1 | (dsimp only; walk1) | (leave1; walk_say "STEP leave1"; try dsimp only) | fail "no step")))
    (rename News _ _ _ _ => nE')
    refine kst_end ⟨_, _, _, _⟩ (by assumption) nE' (by first | kst_in | kst_inAny) (by first | (intro p hp; kst_mem) | kst_anyIn) (by rfl) (by kst_facts) (by kst_all) (by kst_same) ?_
    dsimp only
    rw [ksaRun_snoc, ← hrun]
    rfl
  intro c u h' tk' hf hrun F1 N1
  obtain ⟨vs', S', j', tj'⟩ := c
  dsimp only [kstB] at F1 N1 hf hrun
  clear lF' lN'
  have hbox := boxOf_eq hrun
  subst hbox
  repeat (focus ((first | (k_unfold; (try dsimp only)) | (k_end; wrow_close) | walk1 | (dsimp only; walk1) | (leave1; walk_say "STEP leave1"; try dsimp only) | fail "no step")))
  exact hret x dx l _ _ _ _ _ _ _ _ _ (by assumption) (kst_newsOf (by assumption) (by kst_inAny)) l1' l2 l3.1 hf



theorem init_l {w : World} {mean : ExcName → Option Value} {mg mb : Str → Option Value}
    (dp un : Nat) (gd : Option (List Code)) (cn : Str) (cs : Scope) (a : Addr) (ccd : Value) (cl : List (Str × Addr)) (outer : List Env) (A₀ : Around) (base h₀ : Heap) (L : Addr) (m : Str → Option Value) (s : Shared) (Q E : Value → Shared → Prop)
    (news : List (Addr × Obj)) (kl : Nat) (kvs : List Value) (kn : Nat)
    (B : Below A₀ base outer h₀) (F : Fr h₀ L s.heap m) (X : (hd.heap_39 w.params).In h₀)
    (N : News h₀ L s.heap (((kl, W.listOf kvs.toArray kn) :: news)))
    (T : Top hd.view_39 (looseW hd.view_39 [Str.ofString "Arcfour"]) mean mg mb h₀) (hk : cs.kind = .function)
    (ks : List Int) (hks : IntsAre kvs ks) (hb0 : 0 < ks.length) (hb : ks.length ≤ 100)
    (hdp : dp + 4 < recursionLimit)
    (hret : ∀ (x dx l : Nat) (h' : Heap) (tk' : Nat) (vs' : List Value) (k1 k2 k3 ti tj : Tok) (nn : Nat), Fr h₀ L h' m →
      News h₀ L h' ((l, W.listOf vs'.toArray nn) :: (x, instObj 38 dx) :: (dx, dictOf [⟨PyData.keyHash w.params (Str.ofString "s"), .str (Str.ofString "s") k1, .ref l⟩, ⟨PyData.keyHash w.params (Str.ofString "i"), .str (Str.ofString "i") k2, .int 0 ti⟩, ⟨PyData.keyHash w.params (Str.ofString "j"), .str (Str.ofString "j") k3, .int 0 tj⟩] 3) :: ((kl, W.listOf kvs.toArray kn) :: news)) →
      (∀ p ∈ ((kl, W.listOf kvs.toArray kn) :: news), p.1 < dx) → dx < x → x < l → IntsAre vs' (boxOf ks) → Q (.ref x) { s with heap := h', toks := tk' }) :
    wpAny (model Challenge.rw_co0037_01.row.prog w) (ktrTop dp un gd cn cs L a ccd cl outer) (call (.ref 38) [.ref kl]) Q E s := by
  w_top off
  have kMark := kstMark
  revert X
  k_fill
  intro X
  k_dflt (refine' call_cls ?k1 ?k2 ?k3 ?k4 ?k5 ?k6 ?_; (case k1 => k_asm); (case k2 => k_asm); (case k3 => k_asm); (case k4 => k_is); (case k5 => k_is); (case k6 => k_is); k_whole; intro x dx hx F' N' l1 l2; (try k_lt2 l2); cell_enter)
  have l1' := l1
  (try k_lt l1)
  repeat (focus ((fail_if_success (with_reducible show wpAny _ _ (PySem.call (Value.type "list") _) _ _ _)); (first | (k_unfold; (try dsimp only)) | (k_end; wrow_close) | walk1 | (dsimp only; walk1) | (leave1; walk_say "STEP leave1"; try dsimp only) | fail "no step")))
  (rename Fr _ _ _ _ => F2); (rename News _ _ _ _ => N2); (rename IsRange _ _ _ _ _ _ _ _ => rgX)
  (with_unfolding_all refine' kll_range (n := 256) (by rfl) F2 N2 rgX (by decide) (by decide) (by decide) ?_)
  intro l vs nn h2 tk2 F3 N3 l3 hI
  clear F2 N2
  k_lt l3
  repeat (focus ((fail_if_success (with_reducible show wpAny _ _ (pyIter _) _ _ _)); (first | (k_unfold; (try dsimp only)) | (k_end; wrow_close) | walk1 | (dsimp only; walk1) | (leave1; walk_say "STEP leave1"; try dsimp only) | fail "no step")))
  (rename Fr _ _ _ _ => lF'); (rename News _ _ _ _ => lN'); (rename IsRange _ _ _ _ _ _ _ _ => rgY)
  refine' kst_range (σ := List Value × List Int × Int × Tok) (n := 256)
    (fun c => (l, W.listOf c.1.toArray nn) :: (x, instObj 38 dx) :: (dx, dictOf [] 0) :: ((kl, W.listOf kvs.toArray kn) :: news))
    (fun c => [(Str.ofString "j", .int c.2.2.1 c.2.2.2)])
    (fun c => IntsAre c.1 c.2.1) []
    (fun pre c => (c.2.1, c.2.2.1) = ksaRun ks pre)
    (vs, rangeKs 0 256, 0, _) (by rfl) rgY (by decide) (by decide) lF' ?kn ?kf ?kk ?kp ?_ ?_
  case kn => exact kst_newsOf lN' (by kst_inAny)
  case kf => exact hI
  case kk => kst_all
  case kp => exact (ksaRun_nil ks).symm
  · rintro ⟨vs', S', j', tj'⟩ pre k tn u h' tk' own hk' hlt hoff' hF' hrun F1 N1
    dsimp only [kstB] at F1 N1 hF' hrun hoff'
    simp only [List.cons_append] at N1
    simp only [List.map_cons] at hoff'
    dsimp only
    clear lF' lN'
    have hok := okk_run ks pre
    rw [← hrun] at hok
    have hl' : S'.length = 256 := hok.1
    obtain ⟨hj0', hj1'⟩ := hok.2.2
    dsimp only at hj0' hj1'
    have hm0 : 0 ≤ k.fmod (ks.length : Int) := Int.fmod_nonneg_of_pos _ (by omega)
    have hm1 : k.fmod (ks.length : Int) < (ks.length : Int) := Int.fmod_lt_of_pos _ (by omega)
    (show wpAny _ _ _ _ _ _)
    k_fold
    repeat (focus ((fail_if_success (with_reducible show InvEndN _ _ _ _ _ _ _)); (first | (k_unfold; (try dsimp only)) | (k_end; wrow_close) | walk1 | (dsimp only; walk1) | (leave1; walk_say "STEP leave1"; try dsimp only) | fail "no step")))
    (rename News _ _ _ _ => nE')
    refine kst_end ⟨_, _, _, _⟩ (by assumption) nE' (by first | kst_in | kst_inAny) (by first | (intro p hp; kst_mem) | kst_anyIn) (by rfl) (by kst_facts) (by kst_all) (by kst_same) ?_
    dsimp only
    rw [ksaRun_snoc, ← hrun]
    rfl
  intro c u h' tk' hf hrun F1 N1
  obtain ⟨vs', S', j', tj'⟩ := c
  dsimp only [kstB] at F1 N1 hf hrun
  clear lF' lN'
  have hbox := boxOf_eq hrun
  subst hbox
  repeat (focus ((first | (k_unfold; (try dsimp only)) | (k_end; wrow_close) | walk1 | (dsimp only; walk1) | (leave1; walk_say "STEP leave1"; try dsimp only) | fail "no step")))
  exact hret x dx l _ _ _ _ _ _ _ _ _ (by assumption) (kst_newsOf (by assumption) (by kst_inAny)) l1' l2 l3.1 hf


end Mine
namespace Mine
local macro_rules | `(tactic| walk_at "call builtin:iter") => `(tactic| (k_here; (with_reducible show wpAny _ _ (call (Value.builtin "iter") [Value.bytes _ _]) _ _ _); k_dflt (refine' ib_K ?k1 ?k2 ?_; (case k1 => k_asm); (case k2 => k_asm)); intro I' h' F' N' l1; (try k_lt l1); (try k_sweep)))

theorem process_c {w : World} {mean : ExcName → Option Value} {mg mb : Str → Option Value}
    (dp un : Nat) (gd : Option (List Code)) (cn : Str) (cs : Scope) (a : Addr) (ccd : Value) (cl : List (Str × Addr)) (outer : List Env) (A₀ : Around) (base h₀ : Heap) (L : Addr) (m : Str → Option Value) (s : Shared) (Q E : Value → Shared → Prop)
    (x dx l : Nat) (rest : List (Addr × Obj)) (k1 k2 k3 ti tj tb : Tok) (vs : List Value) (nn : Nat) (S : List Int) (i j : Int) (b : Array UInt8)
    (B : Below A₀ base outer h₀) (F : Fr h₀ L s.heap m) (X : (hd.heap_39 w.params).In h₀)
    (N : News h₀ L s.heap ((l, W.listOf vs.toArray nn) :: (x, instObj 38 dx) :: (dx, dictOf [⟨PyData.keyHash w.params (Str.ofString "s"), .str (Str.ofString "s") k1, .ref l⟩, ⟨PyData.keyHash w.params (Str.ofString "i"), .str (Str.ofString "i") k2, .int i ti⟩, ⟨PyData.keyHash w.params (Str.ofString "j"), .str (Str.ofString "j") k3, .int j tj⟩] 3) :: rest))
    (T : Top hd.view_39 (looseW hd.view_39 [Str.ofString "Arcfour"]) mean mg mb h₀) (hk : cs.kind = .function)
    (hoff : OwnOff rest [l, x, dx]) (n1 : l ≠ x) (n2 : l ≠ dx) (n3 : x ≠ dx)
    (hI : IntsAre vs S) (hS : S.length = 256) (hSb : ∀ v ∈ S, Oct v) (hi0 : 0 ≤ i) (hi1 : i < 256) (hj0 : 0 ≤ j) (hj1 : j < 256) (hb : b.size ≤ 20)
    (hdp : dp + 1 < recursionLimit)
    (hret : ∀ (h' : Heap) (tk' : Nat) (vs' : List Value) (r' : Array UInt8) (S' : List Int) (i' j' : Int) (ti' tj' tr' : Tok), Fr h₀ L h' m →
      News h₀ L h' ((l, W.listOf vs'.toArray nn) :: (x, instObj 38 dx) :: (dx, dictOf [⟨PyData.keyHash w.params (Str.ofString "s"), .str (Str.ofString "s") k1, .ref l⟩, ⟨PyData.keyHash w.params (Str.ofString "i"), .str (Str.ofString "i") k2, .int i' ti'⟩, ⟨PyData.keyHash w.params (Str.ofString "j"), .str (Str.ofString "j") k3, .int j' tj'⟩] 3) :: rest) →
      IntsAre vs' S' → (S', i', j') = runP (S, i, j) (KBw.bInts b) → KBw.bInts r' = encP (S, i, j) (KBw.bInts b) → Q (.bytes r' tr') { s with heap := h', toks := tk' }) :
    wpAny (model Challenge.rw_co0037_01.row.prog w) (ktrTop dp un gd cn cs L a ccd cl outer) (call (.ref 35) [.ref x, .bytes b tb]) Q E s := by
  w_top off
  revert X
  k_fill
  intro X
  refine wpAny_call ?_
  k_dflt cell_enter
  repeat (focus ((fail_if_success (with_reducible show wpAny _ _ (pyIter _) _ _ _)); (first | (k_unfold; (try dsimp only)) | (k_end; wrow_close) | walk1 | (dsimp only; walk1) | (leave1; walk_say "STEP leave1"; try dsimp only) | fail "no step")))
  (rename Fr _ _ _ _ => lF'); (rename News _ _ _ _ => lN')
  refine' kst_ib (σ := List Value × List Int × Int × Tok × Int × Tok × Array UInt8 × Tok)
    (fun c => (l, W.listOf c.1.toArray nn) :: (x, instObj 38 dx) :: (dx, dictOf [⟨PyData.keyHash w.params (Str.ofString "s"), .str (Str.ofString "s") k1, .ref l⟩, ⟨PyData.keyHash w.params (Str.ofString "i"), .str (Str.ofString "i") k2, .int i ti⟩, ⟨PyData.keyHash w.params (Str.ofString "j"), .str (Str.ofString "j") k3, .int j tj⟩] 3) :: rest)
    (fun c => [(Str.ofString "i", .int c.2.2.1 c.2.2.2.1), (Str.ofString "j", .int c.2.2.2.2.1 c.2.2.2.2.2.1), (Str.ofString "r", .bytes c.2.2.2.2.2.2.1 c.2.2.2.2.2.2.2)])
    (fun c => IntsAre c.1 c.2.1) [Str.ofString "k"]
    (fun pre c => Okay (c.2.1, c.2.2.1, c.2.2.2.2.1) ∧ (c.2.1, c.2.2.1, c.2.2.2.2.1) = runP (S, i, j) pre ∧ KBw.bInts c.2.2.2.2.2.2.1 = encP (S, i, j) pre)
    (vs, S, i, ti, j, tj, #[], _) (by rfl) lF' ?kn ?kI ?kf ?kk ?kp ?_ ?_
  case kn => exact kst_newsOf lN' (by kst_inAny)
  case kI => (have kMark := kstMark; (try dsimp only); k_all)
  case kf => exact hI
  case kk => kst_all
  case kp => exact ⟨⟨hS, hSb, ⟨hi0, hi1⟩, ⟨hj0, hj1⟩⟩, rfl, rfl⟩
  · rintro ⟨vs', S', i', ti', j', tj', r', tr'⟩ pre post n tn u h' tk' own hpre hn0 hn1 hoff' hF' ⟨hok, hrun, henc⟩ F1 N1
    have kMark := kstMark
    dsimp only [kstB] at F1 N1 hF' hok hrun henc hoff'
    simp only [List.cons_append] at N1
    simp only [List.map_cons] at hoff'
    dsimp only
    clear lF' lN'
    have hok2 := okay_step hok
    have hxo := oct_xor ⟨hn0, hn1⟩ (oct_out hok2)
    have hlr : r'.size < b.size := by
      have h1 := congrArg List.length hpre
      have h2 := congrArg List.length henc
      rw [KBw.ints_length, List.length_append, List.length_cons] at h1
      rw [KBw.ints_length, encP_len] at h2
      omega
    have hl' : S'.length = 256 := hok.1
    obtain ⟨⟨hi0', hi1'⟩, ⟨hj0', hj1'⟩⟩ := hok.2.2
    dsimp only at hi0' hi1' hj0' hj1'
    (show wpAny _ _ _ _ _ _)
    k_fold
    repeat (focus ((fail_if_success (with_reducible show InvEndN _ _ _ _ _ _ _)); (fail_if_success (with_reducible show wpAny _ _ (PySem.call (Value.type "bytes") _) _ _ _)); (first | (k_unfold; (try dsimp only)) | (k_end; wrow_close) | walk1 | (dsimp only; walk1) | (leave1; walk_say "STEP leave1"; try dsimp only) | fail "no step")))
    (rename Fr _ _ _ _ => F2); (rename News _ _ _ _ => N2)
    k_dflt (refine' tb_K F2 N2 (by rfl) ?km hxo.1 hxo.2 ?_; (case km => k_mem); k_whole)
    intro h2 t2 k2 F3 N3
    clear F2 N2
    refine iadd_bytes ?_ ?_
    · show r'.size + 1 ≤ 16777216
      omega
    intro t3 k3'
    repeat (focus ((fail_if_success (with_reducible show InvEndN _ _ _ _ _ _ _)); (first | (k_unfold; (try dsimp only)) | (k_end; wrow_close) | walk1 | (dsimp only; walk1) | (leave1; walk_say "STEP leave1"; try dsimp only) | fail "no step")))
    (rename News _ _ _ _ => nE')
    refine kst_end ⟨_, _, _, _, _, _, _, _⟩ (by assumption) nE' (by first | kst_in | kst_inAny) (by first | (intro p hp; kst_mem) | kst_anyIn) (by rfl) (by kst_facts) (by kst_all) (by kst_same) ?_
    dsimp only
    refine ⟨hok2, ?_, ?_⟩
    · rw [runP_snoc, ← hrun]; rfl
    · rw [encP_snoc, ← hrun, KBw.ints_app henc (octet_ints hxo)]
  intro c u h' tk' hf hp F1 N1
  obtain ⟨vs', S', i', ti', j', tj', r', tr'⟩ := c
  obtain ⟨hok, hrun, henc⟩ := hp
  dsimp only [kstB] at F1 N1 hf hok hrun henc
  have kMark := kstMark
  clear lF' lN'
  repeat (focus ((fail_if_success (with_reducible show LeaveK _ _ _ _ _ _ _)); (first | (k_unfold; (try dsimp only)) | (k_end; wrow_close) | walk1 | (dsimp only; walk1) | (leave1; walk_say "STEP leave1"; try dsimp only) | fail "no step")))
  try (focus (first | (k_unfold; (try dsimp only)) | (k_end; wrow_close) | walk1 | (dsimp only; walk1) | (leave1; walk_say "STEP leave1"; try dsimp only) | fail "no step"))
  try (focus (first | (k_unfold; (try dsimp only)) | (k_end; wrow_close) | walk1 | (dsimp only; walk1) | (leave1; walk_say "STEP leave1"; try dsimp only) | fail "no step"))
  try (focus (first | (k_unfold; (try dsimp only)) | (k_end; wrow_close) | walk1 | (dsimp only; walk1) | (leave1; walk_say "STEP leave1"; try dsimp only) | fail "no step"))
  exact hret _ _ _ _ _ _ _ _ _ _ (by assumption) (kst_newsOf (by assumption) (by kst_inAny)) hf hrun henc
end Mine
namespace Mine

theorem stream_c {w : World} {mean : ExcName → Option Value} {mg mb : Str → Option Value}
    (dp un : Nat) (gd : Option (List Code)) (cn : Str) (cs : Scope) (a : Addr) (ccd : Value) (cl : List (Str × Addr)) (outer : List Env) (A₀ : Around) (base h₀ : Heap) (L : Addr) (m : Str → Option Value) (s : Shared) (Q E : Value → Shared → Prop)
    (news : List (Addr × Obj)) (b : Array UInt8) (tb tm : Tok) (many : Nat)
    (B : Below A₀ base outer h₀) (F : Fr h₀ L s.heap m) (X : (hd.heap_39 w.params).In h₀)
    (N : News h₀ L s.heap news)
    (T : Top hd.view_39 (looseW hd.view_39 [Str.ofString "Arcfour"]) mean mg mb h₀) (hk : cs.kind = .function)
    (ks : List Int) (hks : KBw.bInts b = ks) (hb0 : 0 < ks.length) (hb : ks.length ≤ 100) (hmany : many ≤ 100)
    (hdp : dp + 4 < recursionLimit)
    (hret : ∀ (l : Nat) (h' : Heap) (tk' : Nat) (vs' : List Value) (nn : Nat), Fr h₀ L h' m → News h₀ L h' ((l, W.listOf vs'.toArray nn) :: news) → (∀ p ∈ news, p.1 < l) → IntsAre vs' (streamOf ks many) → Q (.ref l) { s with heap := h', toks := tk' }) :
    wpAny (model Challenge.rw_co0037_01.row.prog w) (ktrTop dp un gd cn cs L a ccd cl outer) (call (.ref 49) [.bytes b tb, .int (many : Int) tm]) Q E s := by
  w_top off
  have kMark := kstMark
  revert X
  k_fill
  intro X
  refine wpAny_call ?_
  k_dflt cell_enter
  repeat (focus ((fail_if_success (with_reducible show wpAny _ _ (eval (Expr.Dict _ _ _) _) _ _ _)); (first | (k_unfold; (try dsimp only)) | (k_end; wrow_close) | walk1 | (dsimp only; walk1) | (leave1; walk_say "STEP leave1"; try dsimp only) | fail "no step")))
  (rename Fr _ _ _ _ => F2); (rename News _ _ _ _ => N2)
  k_dflt (refine' newDict_K F2 N2 (TopRead.nolimit (by k_asm)) ?_)
  intro d h2 o F3 N3 l1 lo hs0 fs0 hd0 hf0
  clear F2 N2 hs0 fs0
  repeat (focus ((fail_if_success (with_reducible show wpAny _ _ (newList _) _ _ _)); (first | (k_unfold; (try dsimp only)) | (k_end; wrow_close) | walk1 | (dsimp only; walk1) | (leave1; walk_say "STEP leave1"; try dsimp only) | fail "no step")))
  (rename Fr _ _ _ _ => F2); (rename News _ _ _ _ => N2)
  k_dflt (refine' newList_K F2 N2 ?_ (by decide))
  intro l h3 F4 N4 l2
  clear F2 N2
  k_lt l2
  repeat (focus ((fail_if_success (with_reducible show wpAny _ _ (pyIter _) _ _ _)); (first | (k_unfold; (try dsimp only)) | (k_end; wrow_close) | walk1 | (dsimp only; walk1) | (leave1; walk_say "STEP leave1"; try dsimp only) | fail "no step")))
  (rename Fr _ _ _ _ => lF'); (rename News _ _ _ _ => lN'); (rename IsRange _ _ _ _ _ _ _ _ => rgY)
  have hld : l ≠ d := Ne.symm (Nat.ne_of_lt l2.1)
  refine' kst_range (σ := Obj × List (Int × Value) × List (Int × Int) × Int × Tok × List Value × List Int × Nat) (n := 256 + many)
    (fun c => (l, W.listOf c.2.2.2.2.2.1.toArray c.2.2.2.2.2.2.2) :: (d, c.1) :: news)
    (fun c => [(Str.ofString "j", .int c.2.2.2.1 c.2.2.2.2.1)])
    (fun c => Obj.IsDictOf (intKind Challenge.rw_co0037_01.row.prog w) c.1 c.2.1 ∧ PyProof.V.FlatPairs PyData.int c.2.1 (kdfD c.2.2.1) ∧ IntsAre c.2.2.2.2.2.1 c.2.2.2.2.2.2.1) [Str.ofString "i", Str.ofString "here", Str.ofString "there"]
    (fun pre c => SInv ks pre.length c.2.2.1 c.2.2.2.1 c.2.2.2.2.2.2.1)
    (o, [], [], 0, _, [], [], 0) (by rfl) rgY ?ks1 ?ks2 lF' ?kn ?kf ?kk ?kp ?_ ?_
  case ks1 => exact small_one (by omega) (by omega) (by omega) (by omega)
  case ks2 => first | exact rangeSize_nat _ _ | (have h9 := rangeSize_nat 0 (256 + many); simpa using h9)
  case kn => exact kst_newsOf lN' (by kst_inAny)
  case kf => exact ⟨hd0, hf0, .nil⟩
  case kk => kst_all
  case kp => exact sinv_start ks
  · rintro ⟨o', kvs', c', j', tj', vs', outs', cnt'⟩ pre k tn u h' tk' own hk' hlt hoff' ⟨hdo, hfp, hio⟩ hinv F1 N1
    dsimp only [kstB] at F1 N1 hdo hfp hio hinv hoff'
    simp only [List.cons_append] at N1
    simp only [List.map_cons] at hoff'
    dsimp only
    clear lF' lN' hd0 hf0
    have hsz := hinv.size
    have hol := sinv_len hinv
    have hvl := hio.length
    have hm0 : 0 ≤ k.fmod (ks.length : Int) := Int.fmod_nonneg_of_pos _ (by omega)
    have hm1 : k.fmod (ks.length : Int) < (ks.length : Int) := Int.fmod_lt_of_pos _ (by omega)
    (show wpAny _ _ _ _ _ _)
    k_fold
    rcases Nat.lt_trichotomy pre.length 256 with hc | hc | hc
    · have hk1 : k < 256 := by omega
      have hk2 : (k == 256) = false := by simp; omega
      repeat (focus ((fail_if_success (with_reducible show InvEndN _ _ _ _ _ _ _)); (first | (k_unfold; (try dsimp only)) | (k_end; wrow_close) | walk1 | (dsimp only; walk1) | (leave1; walk_say "STEP leave1"; try dsimp only) | fail "no step")))
      (rename News _ _ _ _ => nE')
      (try simp only [List.push_toArray] at nE')
      refine kst_end ⟨_, _, _, _, _, _, _, _⟩ (by assumption) nE' (by first | kst_in | kst_inAny) (by first | (intro p hp; kst_mem) | kst_anyIn) (by rfl) (by kst_facts) (by kst_all) (by kst_same) ?_
      dsimp only
      rw [List.length_append]
      exact sinv_lowK hinv hc hk' rfl
    · have hk1 : k = 256 := by omega
      have hk2 : (k == 256) = true := by simp; omega
      repeat (focus ((fail_if_success (with_reducible show InvEndN _ _ _ _ _ _ _)); (first | (k_unfold; (try dsimp only)) | (k_end; wrow_close) | walk1 | (dsimp only; walk1) | (leave1; walk_say "STEP leave1"; try dsimp only) | fail "no step")))
      (rename News _ _ _ _ => nE')
      (try simp only [List.push_toArray] at nE')
      refine kst_end ⟨_, _, _, _, _, _, _, _⟩ (by assumption) nE' (by first | kst_in | kst_inAny) (by first | (intro p hp; kst_mem) | kst_anyIn) (by rfl) (by kst_facts) (by kst_all) (by kst_same) ?_
      dsimp only
      rw [List.length_append]
      exact sinv_highK hinv (by omega) (by omega) hk' (if_pos hc).symm rfl rfl
    · have hk1 : 256 < k := by omega
      have hk2 : (k == 256) = false := by simp; omega
      repeat (focus ((fail_if_success (with_reducible show InvEndN _ _ _ _ _ _ _)); (first | (k_unfold; (try dsimp only)) | (k_end; wrow_close) | walk1 | (dsimp only; walk1) | (leave1; walk_say "STEP leave1"; try dsimp only) | fail "no step")))
      (rename News _ _ _ _ => nE')
      (try simp only [List.push_toArray] at nE')
      refine kst_end ⟨_, _, _, _, _, _, _, _⟩ (by assumption) nE' (by first | kst_in | kst_inAny) (by first | (intro p hp; kst_mem) | kst_anyIn) (by rfl) (by kst_facts) (by kst_all) (by kst_same) ?_
      dsimp only
      rw [List.length_append]
      exact sinv_highK hinv (by omega) (by omega) hk' (if_neg (by omega)).symm rfl rfl
  intro c u h' tk' hf hinv F1 N1
  obtain ⟨o', kvs', c', j', tj', vs', outs', cnt'⟩ := c
  dsimp only [kstB] at F1 N1 hf hinv
  obtain ⟨hdo, hfp, hio⟩ := hf
  clear lF' lN'
  rw [rangeKs_length] at hinv
  have hout := sinv_end hinv
  subst hout
  repeat (focus ((first | (k_unfold; (try dsimp only)) | (k_end; wrow_close) | walk1 | (dsimp only; walk1) | (leave1; walk_say "STEP leave1"; try dsimp only) | fail "no step")))
  exact hret l _ _ _ _ (by assumption) (kst_newsOf (by assumption) (by kst_inAny)) (fun p hp => Nat.lt_trans (l1 p hp) l2.1) hio
end Mine
namespace Mine
theorem process_n {w : World} {mean : ExcName → Option Value} {mg mb : Str → Option Value}
    (dp un : Nat) (gd : Option (List Code)) (cn : Str) (cs : Scope) (a : Addr) (ccd : Value) (cl : List (Str × Addr)) (outer : List Env) (A₀ : Around) (base h₀ : Heap) (L : Addr) (m : Str → Option Value) (s : Shared) (Q E : Value → Shared → Prop)
    (x dx l : Nat) (rest : List (Addr × Obj)) (k1 k2 k3 ti tj tb : Tok) (vs : List Value) (nn : Nat) (ks : List Int) (n : Nat) (b : Array UInt8) (ol : List Int)
    (B : Below A₀ base outer h₀) (F : Fr h₀ L s.heap m) (X : (hd.heap_39 w.params).In h₀)
    (N : News h₀ L s.heap ((l, W.listOf vs.toArray nn) :: (x, instObj 38 dx) :: (dx, dictOf [⟨PyData.keyHash w.params (Str.ofString "s"), .str (Str.ofString "s") k1, .ref l⟩, ⟨PyData.keyHash w.params (Str.ofString "i"), .str (Str.ofString "i") k2, .int (stN ks n).2.1 ti⟩, ⟨PyData.keyHash w.params (Str.ofString "j"), .str (Str.ofString "j") k3, .int (stN ks n).2.2 tj⟩] 3) :: rest))
    (T : Top hd.view_39 (looseW hd.view_39 [Str.ofString "Arcfour"]) mean mg mb h₀) (hk : cs.kind = .function)
    (hoff : OwnOff rest [l, x, dx]) (n1 : dx < x) (n2 : x < l)
    (hI : IntsAre vs (stN ks n).1) (hb : KBw.bInts b = ol) (hol : ol.length ≤ 20)
    (hdp : dp + 1 < recursionLimit)
    (hret : ∀ (h' : Heap) (tk' : Nat) (vs' : List Value) (r' : Array UInt8) (ti' tj' tr' : Tok), Fr h₀ L h' m →
      News h₀ L h' ((l, W.listOf vs'.toArray nn) :: (x, instObj 38 dx) :: (dx, dictOf [⟨PyData.keyHash w.params (Str.ofString "s"), .str (Str.ofString "s") k1, .ref l⟩, ⟨PyData.keyHash w.params (Str.ofString "i"), .str (Str.ofString "i") k2, .int (stN ks (n + ol.length)).2.1 ti'⟩, ⟨PyData.keyHash w.params (Str.ofString "j"), .str (Str.ofString "j") k3, .int (stN ks (n + ol.length)).2.2 tj'⟩] 3) :: rest) →
      IntsAre vs' (stN ks (n + ol.length)).1 → KBw.bInts r' = encP (stN ks n) ol → Q (.bytes r' tr') { s with heap := h', toks := tk' }) :
    wpAny (model Challenge.rw_co0037_01.row.prog w) (ktrTop dp un gd cn cs L a ccd cl outer) (call (.ref 35) [.ref x, .bytes b tb]) Q E s := by
  have hok := okay_stN ks n
  have hbs : b.size = ol.length := by rw [← hb, KBw.ints_length]
  refine process_c dp un gd cn cs a ccd cl outer A₀ base h₀ L m s Q E x dx l rest k1 k2 k3 ti tj tb vs nn (stN ks n).1 (stN ks n).2.1 (stN ks n).2.2 b B F X N T hk hoff (by omega) (by omega) (by omega) hI hok.1 hok.2.1 hok.2.2.1.1 hok.2.2.1.2 hok.2.2.2.1 hok.2.2.2.2 (by omega) hdp ?_
  intro h' tk' vs' r' S' i' j' ti' tj' tr' F' N' hI' hrun henc
  rw [hb] at hrun henc
  rw [show ((stN ks n).1, (stN ks n).2.1, (stN ks n).2.2) = stN ks n from rfl] at hrun henc
  rw [runP_stN] at hrun
  have e1 : S' = (stN ks (n + ol.length)).1 := congrArg Prod.fst hrun
  have e2 : i' = (stN ks (n + ol.length)).2.1 := congrArg (fun z => z.2.1) hrun
  have e3 : j' = (stN ks (n + ol.length)).2.2 := congrArg (fun z => z.2.2) hrun
  subst e1 e2 e3
  exact hret h' tk' vs' r' ti' tj' tr' F' N' hI' henc
end Mine
namespace Mine
open PySem.Calls PySem.Spec
/-! list(b) of bytes -/
section
variable {prog : Program} {w : World} {A : Around} {E : Value → Shared → Prop} {s : Shared}
theorem lb_hint {b : Array UInt8} {t : Tok} {Q : Bool → Shared → Prop} (h : Q false s) : wpAny (model prog w) A (Builtin.List.listLengthHint (.bytes b t)) Q E s := by
  unfold Builtin.List.listLengthHint
  refine wpAny_bind (wpAny_specialOf (typeIs_bytes s b t) FB.slot_bytes_len.lookup ?_)
  generalize hid : ("bytes.__len__" : String) = id0
  wp_delta
  rw [show splitId id0 = some ("bytes", "__len__") from by subst hid; decide +kernel]
  subst hid
  refine wpAny_bind (wpAny_isInstance (T := "bytes") (b := true) (typeIs_bytes s b t) (by rw [isSubtype_type]; kernel_rfl) ?_)
  refine wpAny_ite_split (fun hab => absurd hab (by decide)) (fun _ => ?_)
  refine wpAny_ite_split (fun _ => ?_) (fun hab => absurd (by decide +kernel) hab)
  refine wpAny_bind (wpAny_typeOf (typeIs_bytes s b t) ?_)
  exact wpAny_pure h
theorem lb_extend {R : Result → Shared → Prop} (hh : A.handled = none) (b : Array UInt8) (t : Tok) (S : Addr) (res : Value) (c₀ : Nat) (hS : s.heap.get? S = some { cls := .type "list", data := .seq #[] c₀ })
    (hR : ∀ h' tk acc' c', (∀ b o, b ≠ S → s.heap.get? b = some o → h'.get? b = some o) → h'.get? S = some { cls := .type "list", dict := none, data := .seq acc' c', slots := #[] } →
      ItemsOf (fun i v => ∃ c u, b[i]? = some c ∧ v = .int (c.toNat : Int) u) acc' b.size → R (.ok (.ret res)) { s with heap := h', toks := tk }) (hn : b.size ≤ sizeLine) :
    wpAny (model prog w) A.in1 (Builtin.List.listExtendWith (.ref S) (.bytes b t) res)
      (fun fin s' => match fin with | .done f => R (.ok f) s' | .again c' => c'.quiet = true ∧ codeAny (model prog w) A c' R s') (fun e s' => R (.error e) s') s := by
  have hSI : S ≠ s.heap.objs.size := Nat.ne_of_lt (Heap.lt_size hS)
  have hSf : S ∉ [s.heap.objs.size] := fun hm => hSI (List.mem_singleton.mp hm)
  unfold Builtin.List.listExtendWith
  refine wpAny_bind (wpAny_typeOf (typeIs_bytes s b t) ?_)
  have h1 : Builtin.List.listSameRef (.ref S) (.bytes b t) = false := rfl
  have h2 : (Value.type "bytes" == Value.type "list") = false := by decide
  have h3 : (Value.type "bytes" == Value.type "tuple") = false := by decide
  simp only [h1, h2, h3, Bool.or_false, Bool.false_eq_true, if_false]
  refine wpAny_bind (KBw.pyIter_bytes ?_)
  refine wpAny_bind (wpAny_holding (lb_hint ?_))
  rw [if_neg (by decide)]
  have W := KBw.walks (prog := prog) (w := w) (A := A.in1) hh s.heap.objs.size b t
  refine wpAny_pure ⟨plainId_quiet PySem.F.plain_extend_loop _, codeAny_extend_loopS W.toS hn _ hSf _ b.size 0 _ _ _ rfl (Nat.zero_le _) ⟨_, Heap.get?_push_size _ rfl, rfl, rfl⟩ (Heap.get?_push_of_some _ hS) (ItemsOf.nil _) fun s' acc' c' hm hS' hacc => ?_⟩
  rw [Moved.eq_with hm]
  refine hR s'.heap s'.toks acc' c' (fun b ob hb e => hm.heap b ob (fun hmem => ?_) (Heap.get?_push_of_some _ e)) hS' hacc
  rcases List.mem_cons.mp hmem with e' | hmem
  · exact hb e'
  · exact absurd (Heap.lt_size e) (by rw [List.mem_singleton.mp hmem]; exact Nat.lt_irrefl _)
theorem lb_init {R : Result → Shared → Prop} (hh : A.handled = none) (b : Array UInt8) (t : Tok) (S : Addr) (hS : s.heap.get? S = some { cls := .type "list", data := .seq #[] })
    (hR : ∀ h' tk acc' c', (∀ b o, b ≠ S → s.heap.get? b = some o → h'.get? b = some o) → h'.get? S = some { cls := .type "list", dict := none, data := .seq acc' c', slots := #[] } →
      ItemsOf (fun i v => ∃ c u, b[i]? = some c ∧ v = .int (c.toNat : Int) u) acc' b.size → R (.ok (.ret .none)) { s with heap := h', toks := tk }) (hn : b.size ≤ sizeLine) :
    wpAny (model prog w) A.in1 (Builtin.«list.__init__» ⟨[.ref S, .bytes b t], []⟩)
      (fun fin s' => match fin with | .done f => R (.ok f) s' | .again c' => c'.quiet = true ∧ codeAny (model prog w) A c' R s') (fun e s' => R (.error e) s') s := by
  show wpAny _ _ (do let old ← Builtin.List.listItems (.ref S); Builtin.List.listUpdate (.ref S) (fun _ => #[]); letGo old.toList.reverse; Builtin.List.listExtendWith (.ref S) (.bytes b t) .none) _ _ s
  refine wpAny_bind ?_
  unfold Builtin.List.listItems
  refine wpAny_bind (wpAny_seqItems hS rfl (wpAny_pure ?_))
  show wpAny _ _ (updateSeq S (fun _ => #[]) >>= fun _ => letGo (#[] : Array Value).toList.reverse >>= fun _ => Builtin.List.listExtendWith (.ref S) (.bytes b t) .none) _ _ s
  refine wpAny_bind (wpAny_updateSeq hS rfl ?_)
  have hS₂ := Heap.get?_update_self (Obj.mapSeq (fun _ => (#[] : Array Value))) hS rfl
  have oth : ∀ b o, b ≠ S → s.heap.get? b = some o → (s.heap.update S (Obj.mapSeq (fun _ => (#[] : Array Value)))).get? b = some o :=
    fun b o hb e => (Heap.get?_update_other _ _ (Ne.symm hb)).trans e
  refine wpAny_bind (wpAny_letGo ?_)
  refine lb_extend hh b t S .none _ hS₂ (fun h' tk acc' c' hk hS' hacc => ?_) hn
  exact hR h' tk acc' c' (fun b o hb e => hk b o hb (oth b o hb e)) hS' hacc
theorem lb_call {b : Array UInt8} {t : Tok} {Q : Value → Shared → Prop} (hh : A.handled = none) (hn : b.size ≤ sizeLine)
    (hQ : ∀ h' tk acc' c', (∀ b o, s.heap.get? b = some o → h'.get? b = some o) → h'.get? s.heap.objs.size = some { cls := .type "list", dict := none, data := .seq acc' c', slots := #[] } →
      ItemsOf (fun i v => ∃ c u, b[i]? = some c ∧ v = .int (c.toNat : Int) u) acc' b.size → Q (.ref s.heap.objs.size) { s with heap := h', toks := tk }) :
    wpAny (model prog w) A (call (.type "list") [.bytes b t]) Q E s := by
  refine callType_codes (Q₁ := fun obj s₁ => obj = .ref s.heap.objs.size ∧ s₁ = { s with heap := s.heap.push { cls := .type "list", data := .seq #[] } }) PySem.F.called_list (PySem.F.typeCall_list_1 _) PySem.F.entry_list_init
    (code_list_new _ ⟨rfl, rfl⟩) fun obj s₁ h₁ => ?_
  obtain ⟨rfl, rfl⟩ := h₁
  have hS : (s.heap.push { cls := .type "list", data := .seq #[] }).get? s.heap.objs.size = some { cls := .type "list", data := .seq #[] } := Heap.get?_push_size _ rfl
  refine ⟨⟨_, hS, rfl⟩, PySem.F.args_list_init_2 _ _, lb_init (A := A.in1) hh b t _ hS (fun h' tk acc' c' hk hS' hacc => ?_) hn⟩
  exact ⟨rfl, hQ h' tk acc' c' (fun b o e => hk b o (Nat.ne_of_lt (Heap.lt_size e)) (Heap.get?_push_of_some _ e)) hS' hacc⟩
theorem ints_of_items : ∀ (vs : List Value) (b : List UInt8), vs.length = b.length → (∀ (j : Nat) (v : Value), vs[j]? = some v → ∃ (c : UInt8) (u : Tok), b[j]? = some c ∧ v = Value.int (c.toNat : Int) u) → IntsAre vs (b.map fun c => (c.toNat : Int))
  | [], [], _, _ => .nil
  | [], _ :: _, hl, _ => by simp at hl
  | _ :: _, [], hl, _ => by simp at hl
  | v :: vs, c :: b, hl, h => by
    obtain ⟨c', u, e, rfl⟩ := h 0 v rfl
    obtain rfl : c = c' := by simpa using e
    exact .cons _ _ (ints_of_items vs b (by simpa using hl) fun j x hx => h (j + 1) x (by simpa using hx))
theorem lb_K {h₀ : Heap} {L : Addr} {m : Str → Option Value} {news : List (Addr × Obj)} {b : Array UInt8} {t : Tok} {ks : List Int} {Q : Value → Shared → Prop} (F : Fr h₀ L s.heap m) (N : News h₀ L s.heap news) (hh : A.handled = none) (hb : KBw.bInts b = ks) (hn : ks.length ≤ 16777216)
    (h : ∀ D vs c h' tk, Fr h₀ L h' m → News h₀ L h' ((D, W.listOf (List.toArray vs) c) :: news) → (∀ p ∈ news, p.1 < D) → IntsAre vs ks → Q (.ref D) { s with heap := h', toks := tk }) :
    wpAny (model prog w) A (call (.type "list") [.bytes b t]) Q E s := by
  have hs : b.size = ks.length := by rw [← hb, KBw.ints_length]
  refine lb_call hh (by rw [hs, sizeLine_eq]; exact hn) fun h' tk acc c hk hD hI => ?_
  have hD' : h'.get? s.heap.objs.size = some (W.listOf (List.toArray acc.toList) c) := by
    rw [Array.toArray_toList]
    exact hD
  refine h _ acc.toList c h' tk (F.keeps hk) (news_pushed F N hk hD' rfl) (fun p hp => Heap.lt_size (N p hp).1) ?_
  rw [← hb]
  exact ints_of_items _ b.toList (by rw [Array.length_toList, Array.length_toList]; exact hI.1) fun j v hj => by
    obtain ⟨c, u, hc, e⟩ := hI.2 j v (by rw [← hj, Array.getElem?_toList])
    exact ⟨c, u, by rw [Array.getElem?_toList]; exact hc, e⟩
/-- b * n, n of two or three -/
theorem mul_b {b : Array UInt8} {t u : Tok} {n : Int} {ks : List Int} {Q : Value → Shared → Prop} (hb : KBw.bInts b = ks) (h0 : 0 < ks.length) (h2 : 2 ≤ n) (hn : n ≤ 3) (hk : ks.length ≤ 20)
    (h : ∀ b' t' k, KBw.bInts b' = (List.replicate n.toNat ks).flatten → Q (.bytes b' t') { s with toks := k }) : wpAny (model prog w) A (binaryOp .Mult (.bytes b t) (.int n u)) Q E s := by
  have hs : b.toList.length = ks.length := by rw [← hb, KBw.ints_length, Array.length_toList]
  have e0 : b.toList.toArray = b := Array.toArray_toList
  have hne : b.toList ≠ [] := by
    intro e
    rw [e] at hs
    simp at hs
    omega
  have hsz : b.toList.length * n.toNat ≤ 16777216 := by
    rw [hs]
    exact Nat.le_trans (Nat.mul_le_mul hk (show n.toNat ≤ 3 by omega)) (by decide)
  have main : wpAny (model prog w) A (binaryOp .Mult (.bytes b.toList.toArray t) (.int n u)) Q E s := by
    refine bytes_mul_K (d := (List.replicate n.toNat b.toList).flatten) hne h2 (by omega) hsz rfl fun t' k => h _ t' k ?_
    rw [KBw.ints_list, List.map_flatten, List.map_replicate, ← hb]
    rfl
  rw [e0] at main
  exact main
end
end Mine
namespace Mine
def lawBody : List Stmt := match Challenge.pw_co0037_01.main.body.getLast? with
  | some (.FunctionDef _ _ body _ _ _ _ _ _ _) => body
  | _ => []
def lawScope : Scope := match Challenge.pw_co0037_01.main.body.getLast? with
  | some (.FunctionDef _ _ _ _ _ _ scope _ _ _) => scope
  | _ => default
theorem ownOff_nil3 {x y z : Nat} : OwnOff [] [x, y, z] := fun _ hp => nomatch hp
theorem ownOff_cons3 {a x y z : Nat} {o : Obj} {r : List (Addr × Obj)} (h1 : a ≠ x) (h2 : a ≠ y) (h3 : a ≠ z) (t : OwnOff r [x, y, z]) : OwnOff ((a, o) :: r) [x, y, z] := by
  intro p hp b hb
  rcases List.mem_cons.mp hp with rfl | hp
  · rcases List.mem_cons.mp hb with rfl | hb
    · exact h1
    · rcases List.mem_cons.mp hb with rfl | hb
      · exact h2
      · rw [List.mem_singleton.mp hb]; exact h3
  · exact t p hp b hb

theorem law_tail {w : World} {mean : ExcName → Option Value} {mg mb : Str → Option Value}
    (fa : Addr) (cdv : Value) (base h₀ : Heap) (L : Nat) (m : Str → Option Value) (s : Shared) (Qk : Flow → Shared → Prop) (Ek : Value → Shared → Prop)
    (a b : Int) (kb bo bt : Array UInt8) (kl ol tl : List Int) (ta tb tk to tt : Tok) (oa ob oo ot o6 o7 o8 : Obj)
    (B : Below callerA base [] h₀) (F : Fr h₀ L s.heap (fun y => if y = Str.ofString "key" then some (.bytes kb tk) else m y)) (X : (hd.heap_39 w.params).In h₀)
    (N : News h₀ L s.heap [(L + 1 + 1 + 1 + 1 + 1 + 1 + 1 + 1, o8), (L + 1 + 1 + 1 + 1 + 1 + 1 + 1, o7), (L + 1 + 1 + 1 + 1 + 1 + 1, o6), (L + 1 + 1 + 1 + 1 + 1, ot), (L + 1 + 1 + 1 + 1, oo), (L + 1 + 1 + 1, ob), (L + 1 + 1, oa)])
    (T : Top hd.view_39 (looseW hd.view_39 [Str.ofString "Arcfour"]) mean mg mb h₀)
    (da : oa.data = .cell (some (.int a ta))) (db : ob.data = .cell (some (.int b tb))) (do' : oo.data = .cell (some (.bytes bo to))) (dt : ot.data = .cell (some (.bytes bt tt)))
    (d6 : o6.data = .cell none) (d7 : o7.data = .cell none) (d8 : o8.data = .cell none)
    (hk : KBw.bInts kb = kl) (ho : KBw.bInts bo = ol) (ht : KBw.bInts bt = tl)
    (hk0 : 0 < kl.length) (hk1 : kl.length ≤ 20) (ho0 : 0 < ol.length) (ho1 : ol.length ≤ 12) (ht0 : 0 < tl.length) (ht1 : tl.length ≤ 12)
    (hret : ∀ (h' : Heap) (tk' : Nat) (m' : Str → Option Value), Fr h₀ L h' m' → Qk (.ret (.bool true)) { s with heap := h', toks := tk' }) :
    wpAny (model Challenge.rw_co0037_01.row.prog w) (callerA.deeper (envOfC (Str.ofString "law") lawScope L fa cdv)) (execs (lawBody.drop 4) (envOfC (Str.ofString "law") lawScope L fa cdv)) Qk Ek s := by
  w_top off
  have kMark := kstMark
  revert X
  k_fill
  intro X
  simp only [lawBody, lawScope, Challenge.pw_co0037_01, List.getLast?_cons_cons, List.getLast?_singleton, List.drop_succ_cons, List.drop_zero]
  repeat (focus ((fail_if_success (with_reducible show wpAny _ _ (PySem.call (Value.ref _) _) _ _ _)); (first | (k_unfold; (try dsimp only)) | (k_end; wrow_close) | walk1 | (dsimp only; walk1) | (leave1; walk_say "STEP leave1"; try dsimp only) | fail "no step")))
  -- first = Arcfour(key)
  (rename Fr _ _ _ _ => F2); (rename News _ _ _ _ => N2)
  refine init_b (w := w) _ _ _ _ _ _ _ _ _ _ _ _ _ _ _ _ _ _ kb _ B F2 X N2 T rfl kl hk hk0 (by omega) (by decide) ?_
  intro x dx l h1 t1 vs1 k1 k2 k3 ti tj nn F3 N3 l1 l2 l3 hI1
  clear F2 N2
  k_lt l1
  repeat (focus ((fail_if_success (with_reducible show wpAny _ _ (PySem.call (Value.ref _) _) _ _ _)); (first | (k_unfold; (try dsimp only)) | (k_end; wrow_close) | walk1 | (dsimp only; walk1) | (leave1; walk_say "STEP leave1"; try dsimp only) | fail "no step")))
  -- first.encrypt(one)
  (rename Fr _ _ _ _ => F2); (rename News _ _ _ _ => N2)
  refine process_n (w := w) _ _ _ _ _ _ _ _ _ _ _ _ _ _ _ _ _ x dx l _ k1 k2 k3 ti tj _ vs1 nn kl 0 bo ol B F2 X N2 T rfl ?hoff l2 l3 hI1 ho (by omega) (by decide) ?_
  case hoff => (repeat' refine ownOff_cons3 (by omega) (by omega) (by omega) ?_); exact ownOff_nil3
  intro h2 t2 vs2 lr ti2 tj2 tr2 F3 N3 hI2 hlr
  clear F2 N2
  have hll : (encP (stN kl 0) ol).length = ol.length := encP_len _ _
  repeat (focus ((fail_if_success (with_reducible show wpAny _ _ (PySem.call (Value.ref _) _) _ _ _)); (first | (k_unfold; (try dsimp only)) | (k_end; wrow_close) | walk1 | (dsimp only; walk1) | (leave1; walk_say "STEP leave1"; try dsimp only) | fail "no step")))
  -- _law_stream(key, len(one))
  (rename Fr _ _ _ _ => F2); (rename News _ _ _ _ => N2)
  refine stream_c (w := w) _ _ _ _ _ _ _ _ _ _ _ _ _ _ _ _ _ _ kb _ _ ol.length B F2 X N2 T rfl kl hk hk0 (by omega) (by omega) (by decide) ?_
  intro ls h3 t3 vs3 n3 F3 N3 l4 hI3
  clear F2 N2
  k_lt l4
  have hsl : (streamOf kl ol.length).length = ol.length := streamOf_len _ _
  generalize hsd : streamOf kl ol.length = sl at hI3 hsl
  have hso : ∀ v ∈ sl, Oct v := hsd ▸ streamOf_oct _ _
  have hoo := octs_bytes ho
  have hto := octs_bytes ht
  repeat (focus ((fail_if_success (with_reducible show wpAny _ _ (subscriptTail _ _ _ _) _ _ _)); (first | (k_unfold; (try dsimp only)) | (k_end; wrow_close) | walk1 | (dsimp only; walk1) | (leave1; walk_say "STEP leave1"; try dsimp only) | fail "no step")))
  refine KBw.item_K ho (by omega) (by assumption) (lt_fix (by assumption)) ?_
  intro t9 k9 q1 q2
  clear q1 q2
  repeat (focus ((fail_if_success (with_reducible show wpAny _ _ (subscriptTail _ _ _ _) _ _ _)); (first | (k_unfold; (try dsimp only)) | (k_end; wrow_close) | walk1 | (dsimp only; walk1) | (leave1; walk_say "STEP leave1"; try dsimp only) | fail "no step")))
  k_dflt (refine' ksa_sub (ns := sl) (vs := vs3) (n := n3) ?k1 ?k2 hI3 ?k4 ?k5 ?k6 ?_ ?k7; (case k1 => k_asm); (case k2 => k_mem); (case k4 => assumption); (case k5 => rw [hsl]; exact lt_fix (by assumption)); (case k6 => exact lt_fix63 (n := ol.length) (by assumption) (by omega)); (case k7 => with_unfolding_all rfl))
  intro t8
  repeat (focus ((fail_if_success (with_reducible show wpAny _ _ (PySem.call (Value.type "bytes") _) _ _ _)); (first | (k_unfold; (try dsimp only)) | (k_end; wrow_close) | walk1 | (dsimp only; walk1) | (leave1; walk_say "STEP leave1"; try dsimp only) | fail "no step")))
  (rename Fr _ _ _ _ => F2); (rename News _ _ _ _ => N2)
  refine make_as (lr := lr) F2 N2 (by rfl) (by kba_isList) (by assumption) (in_xor hoo hso _ _) (by rw [List.length_map, rangeKs_length, toNat_fix]; omega) (enc_map' hsd hlr) ?_
  intro h4 t4 k4 F3 N3
  clear F2 N2
  have hne : (lr.toList != lr.toList) = false := by simp
  have hmod : a.fmod 3 = 0 ∨ a.fmod 3 = 1 ∨ a.fmod 3 = 2 := by
    have h0 := Int.fmod_nonneg_of_pos a (b := 3) (by decide)
    have h1 := Int.fmod_lt_of_pos a (b := 3) (by decide)
    omega
  rcases hmod with hm | hm | hm
  · have hm0 : (a.fmod 3 == 0) = true := by rw [hm]; rfl
    clear hm
    repeat (focus ((fail_if_success (with_reducible show wpAny _ _ (PySem.call (Value.type "list") _) _ _ _)); (first | (k_unfold; (try dsimp only)) | (k_end; wrow_close) | walk1 | (dsimp only; walk1) | (leave1; walk_say "STEP leave1"; try dsimp only) | fail "no step")))
    (rename Fr _ _ _ _ => F2); (rename News _ _ _ _ => N2)
    refine lb_K F2 N2 (by rfl) hk (by omega) ?_
    intro lk vsk nk h5 t5 F3 N3 l5 hIk
    clear F2 N2
    k_lt l5
    repeat (focus ((fail_if_success (with_reducible show wpAny _ _ (PySem.call (Value.ref _) _) _ _ _)); (first | (k_unfold; (try dsimp only)) | (k_end; wrow_close) | walk1 | (dsimp only; walk1) | (leave1; walk_say "STEP leave1"; try dsimp only) | fail "no step")))
    (rename Fr _ _ _ _ => F2); (rename News _ _ _ _ => N2)
    refine init_l (w := w) _ _ _ _ _ _ _ _ _ _ _ _ _ _ _ _ _ _ lk vsk nk B F2 X N2 T rfl kl hIk hk0 (by omega) (by decide) ?_
    intro x2 dx2 q2 h6 t6 vs6 k4 k5 k6 ti6 tj6 nn6 F3 N3 m1 m2 m3 hI6
    clear F2 N2
    k_lt m1
    have hol : (0:Int) < (ol.length : Int) + 1 := by omega
    have hc0 : 0 ≤ (b.fdiv 5).fmod ((ol.length : Int) + 1) := Int.fmod_nonneg_of_pos _ hol
    have hc1 : (b.fdiv 5).fmod ((ol.length : Int) + 1) < (ol.length : Int) + 1 := Int.fmod_lt_of_pos _ hol
    have hc2 : (ol.length : Int) + 1 ≠ 0 := by omega
    repeat (focus ((fail_if_success (with_reducible show wpAny _ _ (subscriptTail _ _ _ _) _ _ _)); (first | (k_unfold; (try dsimp only)) | (k_end; wrow_close) | walk1 | (dsimp only; walk1) | (leave1; walk_say "STEP leave1"; try dsimp only) | fail "no step")))
    (rename Fr _ _ _ _ => F2); (rename News _ _ _ _ => N2)
    refine KBc.slice_K (s := ⟨_, _, _, _, _⟩) (lo := .none) (hi := some _) F2 N2 hlr (by constructor) (by constructor) (by rw [hll]; omega) ?_
    intro h7 t7 kk7 F3 N3 hA
    rw [cut_lo hc0 (by rw [hll]; omega)] at hA
    clear F2 N2
    repeat (focus ((fail_if_success (with_reducible show wpAny _ _ (PySem.call (Value.ref _) _) _ _ _)); (first | (k_unfold; (try dsimp only)) | (k_end; wrow_close) | walk1 | (dsimp only; walk1) | (leave1; walk_say "STEP leave1"; try dsimp only) | fail "no step")))
    (rename Fr _ _ _ _ => F2); (rename News _ _ _ _ => N2)
    have hA1 : (List.take ((b.fdiv 5).fmod ((ol.length : Int) + 1)).toNat (encP (stN kl 0) ol)).length ≤ 20 := by rw [List.length_take, hll]; omega
    refine process_n (w := w) _ _ _ _ _ _ _ _ _ _ _ _ _ _ _ _ _ x2 dx2 q2 _ k4 k5 k6 ti6 tj6 _ vs6 nn6 kl 0 _ _ B F2 X (fun p hp => N2 p (List.mem_cons_of_mem _ hp)) T rfl ?hoff m2 m3 hI6 hA hA1 (by decide) ?_
    case hoff => (repeat' refine ownOff_cons3 (by omega) (by omega) (by omega) ?_); exact ownOff_nil3
    intro h8 t8 vs8 r8 ti8 tj8 tr8 F3 N3 hI8 hr8
    clear F2 N2
    repeat (focus ((fail_if_success (with_reducible show wpAny _ _ (subscriptTail _ _ _ _) _ _ _)); (first | (k_unfold; (try dsimp only)) | (k_end; wrow_close) | walk1 | (dsimp only; walk1) | (leave1; walk_say "STEP leave1"; try dsimp only) | fail "no step")))
    (rename Fr _ _ _ _ => F2); (rename News _ _ _ _ => N2)
    refine KBc.slice_K (s := ⟨_, _, _, _, _⟩) (lo := some _) (hi := .none) F2 N2 hlr (by constructor) (by constructor) (by rw [hll]; omega) ?_
    intro h9 t9 kk9 F3 N3 hA2
    rw [cut_hi hc0 (by rw [hll]; omega)] at hA2
    clear F2 N2
    repeat (focus ((fail_if_success (with_reducible show wpAny _ _ (PySem.call (Value.ref _) _) _ _ _)); (first | (k_unfold; (try dsimp only)) | (k_end; wrow_close) | walk1 | (dsimp only; walk1) | (leave1; walk_say "STEP leave1"; try dsimp only) | fail "no step")))
    (rename Fr _ _ _ _ => F2); (rename News _ _ _ _ => N2)
    have hA3 : (List.drop ((b.fdiv 5).fmod ((ol.length : Int) + 1)).toNat (encP (stN kl 0) ol)).length ≤ 20 := by rw [List.length_drop, hll]; omega
    refine process_n (w := w) _ _ _ _ _ _ _ _ _ _ _ _ _ _ _ _ _ x2 dx2 q2 _ k4 k5 k6 ti8 tj8 _ vs8 nn6 kl _ _ _ B F2 X N2 T rfl ?hoff m2 m3 hI8 hA2 hA3 (by decide) ?_
    case hoff => (repeat' refine ownOff_cons3 (by omega) (by omega) (by omega) ?_); exact ownOff_nil3
    intro h10 t10 vs10 r10 ti10 tj10 tr10 F3 N3 hI10 hr10
    clear F2 N2
    have hsum : KBw.bInts r8 ++ KBw.bInts r10 = ol := by
      rw [hr8, hr10, enc_parts]
      exact encP_twice (okay_stN kl 0) hoo
    clear hA hA1 hA2 hA3 hr8 hr10
    repeat (focus ((fail_if_success (with_reducible show wpAny _ _ (binaryOp .Add (Value.bytes _ _) _) _ _ _)); (first | (k_unfold; (try dsimp only)) | (k_end; wrow_close) | walk1 | (dsimp only; walk1) | (leave1; walk_say "STEP leave1"; try dsimp only) | fail "no step")))
    have hl8 : (KBw.bInts r8).length + (KBw.bInts r10).length = ol.length := by rw [← hsum, List.length_append]
    refine KBa.add_K (b := r8) (c := r10) rfl rfl (by rw [hl8]; omega) ?_
    intro t11 k11 hsb
    have hcat : r8 ++ r10 = bo := bInts_inj (by rw [hsb, hsum, ho])
    rw [hcat]
    clear hcat hsb hl8 hsum
    have hee : (bo.toList == bo.toList) = true := by simp
    repeat (focus ((first | (k_unfold; (try dsimp only)) | (k_end; wrow_close) | walk1 | (dsimp only; walk1) | (leave1; walk_say "STEP leave1"; try dsimp only) | fail "no step")))
    rw [hee]
    exact hret _ _ _ (by assumption)
  · have hm0 : (a.fmod 3 == 0) = false := by rw [hm]; rfl
    have hm1 : (a.fmod 3 == 1) = true := by rw [hm]; rfl
    clear hm
    have hb2 : 0 ≤ b.fmod 2 := Int.fmod_nonneg_of_pos _ (by decide)
    have hb3 : b.fmod 2 < 2 := Int.fmod_lt_of_pos _ (by decide)
    repeat (focus ((fail_if_success (with_reducible show wpAny _ _ (binaryOp .Mult _ _) _ _ _)); (first | (k_unfold; (try dsimp only)) | (k_end; wrow_close) | walk1 | (dsimp only; walk1) | (leave1; walk_say "STEP leave1"; try dsimp only) | fail "no step")))
    refine mul_b hk hk0 (by omega) (by omega) hk1 ?_
    intro kb2 t5 k5 hkb2
    repeat (focus ((fail_if_success (with_reducible show wpAny _ _ (PySem.call (Value.ref _) _) _ _ _)); (first | (k_unfold; (try dsimp only)) | (k_end; wrow_close) | walk1 | (dsimp only; walk1) | (leave1; walk_say "STEP leave1"; try dsimp only) | fail "no step")))
    (rename Fr _ _ _ _ => F2); (rename News _ _ _ _ => N2)
    have hfl := flat_len (2 + b.fmod 2).toNat kl
    have hr0 : 0 < (2 + b.fmod 2).toNat := by omega
    have hr1 : (2 + b.fmod 2).toNat ≤ 3 := by omega
    have hfl0 : 0 < (List.replicate (2 + b.fmod 2).toNat kl).flatten.length := by rw [hfl]; exact Nat.mul_pos hr0 hk0
    have hfl1 : (List.replicate (2 + b.fmod 2).toNat kl).flatten.length ≤ 100 := by rw [hfl]; exact Nat.le_trans (Nat.mul_le_mul hr1 hk1) (by decide)
    have hbx : boxOf (List.replicate (2 + b.fmod 2).toNat kl).flatten = boxOf kl := box_rep hr0 hk0
    generalize (List.replicate (2 + b.fmod 2).toNat kl).flatten = kk at hkb2 hfl hfl0 hfl1 hbx
    clear hfl hr0 hr1
    refine init_b (w := w) _ _ _ _ _ _ _ _ _ _ _ _ _ _ _ _ _ _ kb2 _ B F2 X N2 T rfl kk hkb2 hfl0 hfl1 (by decide) ?_
    intro x2 dx2 q2 h6 t6 vs6 k4 k5 k6 ti6 tj6 nn6 F3 N3 m1 m2 m3 hI6
    rw [hbx] at hI6
    clear F2 N2 hbx hfl0 hfl1 hkb2
    k_lt m1
    repeat (focus ((fail_if_success (with_reducible show wpAny _ _ (PySem.call (Value.ref _) _) _ _ _)); (first | (k_unfold; (try dsimp only)) | (k_end; wrow_close) | walk1 | (dsimp only; walk1) | (leave1; walk_say "STEP leave1"; try dsimp only) | fail "no step")))
    (rename Fr _ _ _ _ => F2); (rename News _ _ _ _ => N2)
    refine process_n (w := w) _ _ _ _ _ _ _ _ _ _ _ _ _ _ _ _ _ x2 dx2 q2 _ k4 k5 k6 ti6 tj6 _ vs6 nn6 kl 0 bo ol B F2 X N2 T rfl ?hoff m2 m3 hI6 ho (by omega) (by decide) ?_
    case hoff => (repeat' refine ownOff_cons3 (by omega) (by omega) (by omega) ?_); exact ownOff_nil3
    intro h7 t7 vs7 lr7 ti7 tj7 tr7 F3 N3 hI7 hlr7
    clear F2 N2
    have heq : lr7 = lr := bInts_inj (by rw [hlr7, hlr])
    subst heq
    have hee : (lr7.toList == lr7.toList) = true := by simp
    repeat (focus ((fail_if_success (with_reducible show wpAny _ _ (PySem.call (Value.ref _) _) _ _ _)); (first | (k_unfold; (try dsimp only)) | (k_end; wrow_close) | walk1 | (dsimp only; walk1) | (leave1; walk_say "STEP leave1"; try dsimp only) | fail "no step")))
    (rename Fr _ _ _ _ => F2); (rename News _ _ _ _ => N2)
    refine process_n (w := w) _ _ _ _ _ _ _ _ _ _ _ _ _ _ _ _ _ x dx l [(q2, W.listOf vs7.toArray nn6), (x2, instObj 38 dx2), (dx2, _), (L + 1 + 1 + 1 + 1 + 1, ot)] k1 k2 k3 ti2 tj2 _ vs2 nn kl (0 + ol.length) bt tl B F2 X (kst_newsOf N2 (by kst_inAny)) T rfl ?hoff l2 l3 hI2 ht (by omega) (by decide) ?_
    case hoff => (repeat' refine ownOff_cons3 (by omega) (by omega) (by omega) ?_); exact ownOff_nil3
    intro h8 t8 vs8 r8 ti8 tj8 tr8 F3 N3 hI8 hr8
    clear F2 N2
    repeat (focus ((fail_if_success (with_reducible show wpAny _ _ (PySem.call (Value.ref _) _) _ _ _)); (first | (k_unfold; (try dsimp only)) | (k_end; wrow_close) | walk1 | (dsimp only; walk1) | (leave1; walk_say "STEP leave1"; try dsimp only) | fail "no step")))
    (rename Fr _ _ _ _ => F2); (rename News _ _ _ _ => N2)
    refine process_n (w := w) _ _ _ _ _ _ _ _ _ _ _ _ _ _ _ _ _ x2 dx2 q2 [] k4 k5 k6 ti7 tj7 _ vs7 nn6 kl (0 + ol.length) bt tl B F2 X (kst_newsOf N2 (by kst_inAny)) T rfl ownOff_nil3 m2 m3 hI7 ht (by omega) (by decide) ?_
    intro h9 t9 vs9 r9 ti9 tj9 tr9 F3 N3 hI9 hr9
    clear F2 N2
    have heq2 : r9 = r8 := bInts_inj (by rw [hr9, hr8])
    subst heq2
    have hee2 : (r9.toList == r9.toList) = true := by simp
    repeat (focus ((first | (k_unfold; (try dsimp only)) | (k_end; wrow_close) | walk1 | (dsimp only; walk1) | (leave1; walk_say "STEP leave1"; try dsimp only) | fail "no step")))
    rw [hee2]
    exact hret _ _ _ (by assumption)
  · have hm0 : (a.fmod 3 == 0) = false := by rw [hm]; rfl
    have hm1 : (a.fmod 3 == 1) = false := by rw [hm]; rfl
    clear hm
    repeat (focus ((fail_if_success (with_reducible show wpAny _ _ (PySem.call (Value.ref _) _) _ _ _)); (first | (k_unfold; (try dsimp only)) | (k_end; wrow_close) | walk1 | (dsimp only; walk1) | (leave1; walk_say "STEP leave1"; try dsimp only) | fail "no step")))
    (rename Fr _ _ _ _ => F2); (rename News _ _ _ _ => N2)
    refine init_b (w := w) _ _ _ _ _ _ _ _ _ _ _ _ _ _ _ _ _ _ kb _ B F2 X N2 T rfl kl hk hk0 (by omega) (by decide) ?_
    intro x2 dx2 q2 h6 t6 vs6 k4 k5 k6 ti6 tj6 nn6 F3 N3 m1 m2 m3 hI6
    clear F2 N2
    k_lt m1
    repeat (focus ((fail_if_success (with_reducible show wpAny _ _ (PySem.call (Value.ref _) _) _ _ _)); (first | (k_unfold; (try dsimp only)) | (k_end; wrow_close) | walk1 | (dsimp only; walk1) | (leave1; walk_say "STEP leave1"; try dsimp only) | fail "no step")))
    (rename Fr _ _ _ _ => F2); (rename News _ _ _ _ => N2)
    refine process_n (w := w) _ _ _ _ _ _ _ _ _ _ _ _ _ _ _ _ _ x2 dx2 q2 _ k4 k5 k6 ti6 tj6 _ vs6 nn6 kl 0 bt tl B F2 X N2 T rfl ?hoff m2 m3 hI6 ht (by omega) (by decide) ?_
    case hoff => (repeat' refine ownOff_cons3 (by omega) (by omega) (by omega) ?_); exact ownOff_nil3
    intro h7 t7 vs7 ar ti7 tj7 tr7 F3 N3 hI7 har
    clear F2 N2
    have hal : (encP (stN kl 0) tl).length = tl.length := encP_len _ _
    have hln : (((encP (stN kl 0) tl).length : Int) != (tl.length : Int)) = false := by rw [hal]; simp
    repeat (focus ((fail_if_success (with_reducible show wpAny _ _ (PySem.call (Value.builtin "min") _) _ _ _)); (first | (k_unfold; (try dsimp only)) | (k_end; wrow_close) | walk1 | (dsimp only; walk1) | (leave1; walk_say "STEP leave1"; try dsimp only) | fail "no step")))
    try (focus (first | (k_unfold; (try dsimp only)) | (k_end; wrow_close) | walk1 | (dsimp only; walk1) | (leave1; walk_say "STEP leave1"; try dsimp only) | fail "no step"))
    obtain ⟨nb, hnb, hn1, hn2⟩ : ∃ nb : Nat, (if (tl.length : Int) < (ol.length : Int) then (tl.length : Int) else (ol.length : Int)) = (nb : Int) ∧ nb ≤ ol.length ∧ nb ≤ tl.length := by
      by_cases hlt : (tl.length : Int) < (ol.length : Int)
      · exact ⟨tl.length, if_pos hlt, by omega, Nat.le_refl _⟩
      · exact ⟨ol.length, if_neg hlt, Nat.le_refl _, by omega⟩
    rw [hnb]
    clear hnb
    repeat (focus ((fail_if_success (with_reducible show wpAny _ _ (subscriptTail _ _ _ _) _ _ _)); (first | (k_unfold; (try dsimp only)) | (k_end; wrow_close) | walk1 | (dsimp only; walk1) | (leave1; walk_say "STEP leave1"; try dsimp only) | fail "no step")))
    refine KBw.item_K hlr (by rw [hll]; omega) (by assumption) (by rw [hll]; exact Int.lt_of_lt_of_le (lt_fix (by assumption)) (by omega)) ?_
    intro t9 k9 q1 q2
    clear q1 q2
    repeat (focus ((fail_if_success (with_reducible show wpAny _ _ (subscriptTail _ _ _ _) _ _ _)); (first | (k_unfold; (try dsimp only)) | (k_end; wrow_close) | walk1 | (dsimp only; walk1) | (leave1; walk_say "STEP leave1"; try dsimp only) | fail "no step")))
    refine KBw.item_K har (by rw [hal]; omega) (by assumption) (by rw [hal]; exact Int.lt_of_lt_of_le (lt_fix (by assumption)) (by omega)) ?_
    intro t10 k10 q1 q2
    clear q1 q2
    repeat (focus ((fail_if_success (with_reducible show wpAny _ _ (subscriptTail _ _ _ _) _ _ _)); (first | (k_unfold; (try dsimp only)) | (k_end; wrow_close) | walk1 | (dsimp only; walk1) | (leave1; walk_say "STEP leave1"; try dsimp only) | fail "no step")))
    refine KBw.item_K ho (by omega) (by assumption) (Int.lt_of_lt_of_le (lt_fix (by assumption)) (by omega)) ?_
    intro t11 k11 q1 q2
    clear q1 q2
    repeat (focus ((fail_if_success (with_reducible show wpAny _ _ (subscriptTail _ _ _ _) _ _ _)); (first | (k_unfold; (try dsimp only)) | (k_end; wrow_close) | walk1 | (dsimp only; walk1) | (leave1; walk_say "STEP leave1"; try dsimp only) | fail "no step")))
    refine KBw.item_K ht (by omega) (by assumption) (Int.lt_of_lt_of_le (lt_fix (by assumption)) (by omega)) ?_
    intro t12 k12 q1 q2
    clear q1 q2
    repeat (focus ((fail_if_success (with_reducible show wpAny _ _ (subscriptTail _ _ _ _) _ _ _)); (first | (k_unfold; (try dsimp only)) | (k_end; wrow_close) | walk1 | (dsimp only; walk1) | (leave1; walk_say "STEP leave1"; try dsimp only) | fail "no step")))
    rw [decide_eq_true (by rw [toNat_fix]; exact xor_places kl ol tl nb hn1 hn2 hoo hto)]
    exact hret _ _ _ (by assumption)
end Mine
namespace Mine
theorem two_of {vs : List Value} {ns : List Int} (h : IntsAre vs (List.take 2 (List.take 2 ns ++ [0, 0]))) : ∃ a t b u, vs = [Value.int a t, Value.int b u] := by
  have key : ∀ (ms : List Int), ms.length = 2 → ∀ vs, IntsAre vs ms → ∃ a t b u, vs = [Value.int a t, Value.int b u] := by
    intro ms hm vs h
    match ms, hm with
    | [x, y], _ =>
      cases h with
      | cons _ t h => cases h with
        | cons _ u h => cases h; exact ⟨_, _, _, _, rfl⟩
  refine key _ ?_ _ h
  simp only [List.length_take, List.length_append, List.length_cons, List.length_nil]; omega

theorem law_holds : PySem.Challenge.rw_co0037_01.Holds := by
  w_top off
  refine hd ?_
  w_strict (k_go0; (all_goals try k_fold))
  (rename Heap.CodeRec _ _ _ => hcd9; clear hcd9)
  (try (rename Dflts _ _ _ _ _ _ _ _ => hD9; clear hD9))
  repeat (focus ((fail_if_success (with_reducible show wpAny _ _ (assign (Expr.Tuple _ _ _) _ _) _ _ _)); (first | (k_unfold; (try dsimp only)) | (k_end; wrow_close) | walk1 | (dsimp only; walk1) | (leave1; walk_say "STEP leave1"; try dsimp only) | fail "no step")))
  (rename IntsAre _ (List.take 2 (_ ++ _)) => hI9)
  obtain ⟨a, ta, b, tb, e9⟩ := two_of hI9
  clear hI9
  subst e9
  repeat (focus ((fail_if_success (with_reducible show wpAny _ _ (execs (Stmt.Assign _ _ _ :: _) _) _ _ _)); (first | (k_unfold; (try dsimp only)) | (k_end; wrow_close) | walk1 | (dsimp only; walk1) | (leave1; walk_say "STEP leave1"; try dsimp only) | fail "no step")))
  try (focus (first | (k_unfold; (try dsimp only)) | (k_end; wrow_close) | walk1 | (dsimp only; walk1) | (leave1; walk_say "STEP leave1"; try dsimp only) | fail "no step"))
  repeat (focus ((fail_if_success (with_reducible show wpAny _ _ (execs (Stmt.Assign _ _ _ :: _) _) _ _ _)); (first | (k_unfold; (try dsimp only)) | (k_end; wrow_close) | walk1 | (dsimp only; walk1) | (leave1; walk_say "STEP leave1"; try dsimp only) | fail "no step")))
  try (focus (first | (k_unfold; (try dsimp only)) | (k_end; wrow_close) | walk1 | (dsimp only; walk1) | (leave1; walk_say "STEP leave1"; try dsimp only) | fail "no step"))
  repeat (focus ((fail_if_success (with_reducible show wpAny _ _ (execs (Stmt.Assign _ _ _ :: _) _) _ _ _)); (first | (k_unfold; (try dsimp only)) | (k_end; wrow_close) | walk1 | (dsimp only; walk1) | (leave1; walk_say "STEP leave1"; try dsimp only) | fail "no step")))
  try (focus (first | (k_unfold; (try dsimp only)) | (k_end; wrow_close) | walk1 | (dsimp only; walk1) | (leave1; walk_say "STEP leave1"; try dsimp only) | fail "no step"))
  repeat (focus ((fail_if_success (with_reducible show wpAny _ _ (execs (Stmt.Assign _ _ _ :: _) _) _ _ _)); (first | (k_unfold; (try dsimp only)) | (k_end; wrow_close) | walk1 | (dsimp only; walk1) | (leave1; walk_say "STEP leave1"; try dsimp only) | fail "no step")))
  try (focus (first | (k_unfold; (try dsimp only)) | (k_end; wrow_close) | walk1 | (dsimp only; walk1) | (leave1; walk_say "STEP leave1"; try dsimp only) | fail "no step"))
  repeat (focus ((fail_if_success (with_reducible show wpAny _ _ (execs (Stmt.Assign _ _ _ :: _) _) _ _ _)); (first | (k_unfold; (try dsimp only)) | (k_end; wrow_close) | walk1 | (dsimp only; walk1) | (leave1; walk_say "STEP leave1"; try dsimp only) | fail "no step")))
  try (focus (first | (k_unfold; (try dsimp only)) | (k_end; wrow_close) | walk1 | (dsimp only; walk1) | (leave1; walk_say "STEP leave1"; try dsimp only) | fail "no step"))
  repeat (focus ((fail_if_success (with_reducible show wpAny _ _ (execs (Stmt.Assign _ _ _ :: _) _) _ _ _)); (first | (k_unfold; (try dsimp only)) | (k_end; wrow_close) | walk1 | (dsimp only; walk1) | (leave1; walk_say "STEP leave1"; try dsimp only) | fail "no step")))
  try (focus (first | (k_unfold; (try dsimp only)) | (k_end; wrow_close) | walk1 | (dsimp only; walk1) | (leave1; walk_say "STEP leave1"; try dsimp only) | fail "no step"))
  repeat (focus ((fail_if_success (with_reducible show wpAny _ _ (execs (Stmt.Assign _ _ _ :: _) _) _ _ _)); (first | (k_unfold; (try dsimp only)) | (k_end; wrow_close) | walk1 | (dsimp only; walk1) | (leave1; walk_say "STEP leave1"; try dsimp only) | fail "no step")))
  (rename Fr _ _ _ _ => F2); (rename News _ _ _ _ => N2)
  (rename Below callerA _ _ _ => K0); (rename ((hd.heap_39 _).In _) => KX); (rename Top _ _ _ _ _ _ => TT)
  refine' law_tail _ _ _ _ _ _ _ _ _ a b _ _ _ _ _ _ ta tb _ _ _ _ _ _ _ _ _ _ K0 F2 KX ?hN TT ?da ?db ?dc ?dt ?d6 ?d7 ?d8 ?hk ?ho ?ht ?e1 ?e2 ?e3 ?e4 ?e5 ?e6 ?ret
  case hN => exact kst_newsOf N2 (by kst_inAny)
  case da => assumption
  case db => assumption
  case dc => assumption
  case dt => assumption
  case d6 => with_unfolding_all assumption
  case d7 => with_unfolding_all assumption
  case d8 => with_unfolding_all assumption
  case hk => (refine KBa.ints_make ?_; assumption)
  case ho => (refine KBa.ints_make ?_; assumption)
  case ht => (refine KBa.ints_make ?_; assumption)
  case e1 => (rw [List.length_map, rangeKs_length]; omega)
  case e2 => (rw [List.length_map, rangeKs_length]; omega)
  case e3 => (rw [List.length_map, rangeKs_length]; omega)
  case e4 => (rw [List.length_map, rangeKs_length]; omega)
  case e5 => (rw [List.length_map, rangeKs_length]; omega)
  case e6 => (rw [List.length_map, rangeKs_length]; omega)
  case' ret => intro h9 t9 m9 F9
  repeat (focus ((first | (k_unfold; (try dsimp only)) | (k_end; wrow_close) | walk1 | (dsimp only; walk1) | (leave1; walk_say "STEP leave1"; try dsimp only) | fail "no step")))
end Mine
theorem PySem.Challenge.cw_co0037_01_holds : PySem.Challenge.rw_co0037_01.Holds := by
  exact Mine.law_holds
