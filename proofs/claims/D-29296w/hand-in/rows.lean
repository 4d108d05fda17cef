section
-- ===== PART A: goes FIRST, ahead of the names: the tables' words, and 'selects' of the private methods out of them =====
/-- a private method of a class that the tables say can be made, by its rows of tables_1 -/
def lw_okq (q : MethodName × Nat) : Prop := (q.1.cls ≠ "java/lang/invoke/MethodHandle" ∧ q.1.cls ≠ "java/lang/invoke/VarHandle") ∧ Cond.instantiable q.1.cls q.2 ∈ tables_1 ∧ Cond.privateMethod q.1 ∈ tables_1 ∧ Cond.instanceMethod q.1 ∈ tables_1
set_option maxRecDepth 100000
theorem lw_t1 {w : Cond} (h : w ∈ tables_1_1) : w ∈ tables_1 := List.mem_append_left _ h
theorem lw_t2 {w : Cond} (h : w ∈ tables_1_2) : w ∈ tables_1 := List.mem_append_right _ h
theorem lw_p0 : lw_okq (⟨"java/lang/Throwable", "fillInStackTrace", "(I)Ljava/lang/Throwable;"⟩, 6) := ⟨⟨by decide +kernel, by decide +kernel⟩, lw_t1 (List.mem_of_getElem? (i := 72) rfl), lw_t1 (List.mem_of_getElem? (i := 70) rfl), lw_t1 (List.mem_of_getElem? (i := 71) rfl)⟩
theorem lw_p1 : lw_okq (⟨"ImmutableLongArray$Builder", "ensureRoomFor", "(I)V"⟩, 2) := ⟨⟨by decide +kernel, by decide +kernel⟩, lw_t1 (List.mem_of_getElem? (i := 102) rfl), lw_t1 (List.mem_of_getElem? (i := 164) rfl), lw_t1 (List.mem_of_getElem? (i := 165) rfl)⟩
theorem lw_p2 : lw_okq (⟨"ImmutableLongArray", "isPartialView", "()Z"⟩, 3) := ⟨⟨by decide +kernel, by decide +kernel⟩, lw_t1 (List.mem_of_getElem? (i := 121) rfl), lw_t2 (List.mem_of_getElem? (i := 37) rfl), lw_t2 (List.mem_of_getElem? (i := 38) rfl)⟩
def lw_privs_1 : List (MethodName × Nat) := [(⟨"java/lang/Throwable", "fillInStackTrace", "(I)Ljava/lang/Throwable;"⟩, 6), (⟨"ImmutableLongArray$Builder", "ensureRoomFor", "(I)V"⟩, 2), (⟨"ImmutableLongArray", "isPartialView", "()Z"⟩, 3)]
theorem lw_r1 : ∀ q ∈ lw_privs_1, lw_okq q := List.forall_mem_cons.mpr ⟨lw_p0, List.forall_mem_cons.mpr ⟨lw_p1, List.forall_mem_cons.mpr ⟨lw_p2, fun _ h => absurd h List.not_mem_nil⟩⟩⟩
def lw_privs : List (MethodName × Nat) := lw_privs_1
def lw_tbl : List Cond := k2_sels lw_privs ++ tables_1
theorem lw_privs_ok : ∀ q ∈ lw_privs, lw_okq q := lw_r1
-- ===== ONE list of words for every method: the tables' words that hold all through a run =====
def lw_all : List Cond := lw_tbl.filter goodWord
/-- a word of the tables by its place: claim/WORDS.tsv -/
theorem lw_w {w : Cond} (i : Nat) (h : lw_tbl[i]? = some w) (g : goodWord w = true) : w ∈ lw_all := List.mem_filter.mpr ⟨List.mem_of_getElem? h, g⟩
theorem lw_all_tbl {w : Cond} (h : w ∈ lw_all) : w ∈ lw_tbl := (List.mem_filter.mp h).1
theorem lw_self : GoodIn lw_all lw_all := fun w h => ⟨h, good_of_word (List.mem_filter.mp h).2⟩
/-- a class's field words, by their places -/
theorem lw_in (ws : List Cond) (ps : List Nat) (hp : ws = ps.filterMap (fun i => lw_tbl[i]?)) (hg : ws.all goodWord = true) : ∀ w ∈ ws, w ∈ lw_all := by
  intro w h
  have h1 := List.all_eq_true.mp hg w h
  rw [hp] at h
  obtain ⟨i, -, hi⟩ := List.mem_filterMap.mp h
  exact lw_w i hi h1
/-- the words of a contract for the method y with code b, L locals, answer r -/
abbrev ws_ (y : MethodName) (b : ByteArray) (L : Nat) (r : Option FieldType) : List Cond := Cond.code y b L r :: lw_all
theorem lw_meth {y : MethodName} {b : ByteArray} {L : Nat} {r : Option FieldType} (h : Cond.code y b L r ∈ lw_all) : GoodIn lw_all (ws_ y b L r) := by
  intro w hw
  rcases List.mem_cons.mp hw with e | e
  · rw [e]
    exact lw_self _ h
  · exact lw_self _ e
theorem lw_app {a c : List Cond} (ha : ∀ w ∈ a, w ∈ lw_all) (hc : GoodIn lw_all c) : GoodIn lw_all (a ++ c) := by
  intro w hw
  rcases List.mem_append.mp hw with e | e
  · exact lw_self w (ha w e)
  · exact hc w e
/-- what a call through an object asks: cwV n hts (lw_V ..) -/
theorem lw_V {own : String} {idx : Nat} {C : String} {y : MethodName} {b : ByteArray} {L : Nat} {r : Option FieldType} (h1 : Cond.methodLink own idx y ∈ lw_all) (h2 : Cond.instanceMethod y ∈ lw_all) (h3 : Cond.selects C y y ∈ lw_all) (h4 : Cond.initialized C ∈ lw_all) (h5 : Cond.code y b L r ∈ lw_all) : GoodIn lw_all (wsV own idx C y (ws_ y b L r)) := by
  refine lw_app ?_ (lw_meth h5)
  intro w hw
  simp only [List.mem_cons, List.not_mem_nil, or_false] at hw
  rcases hw with e | e | e | e
  · rw [e]; exact h1
  · rw [e]; exact h2
  · rw [e]; exact h3
  · rw [e]; exact h4
/-- what a static call asks: va_cwS n hts (lw_S ..) -/
theorem lw_S {own : String} {idx : Nat} {y : MethodName} {b : ByteArray} {L : Nat} {r : Option FieldType} (h1 : Cond.methodLink own idx y ∈ lw_all) (h2 : Cond.static y ∈ lw_all) (h3 : Cond.initialized y.cls ∈ lw_all) (h4 : Cond.code y b L r ∈ lw_all) : GoodIn lw_all (va_wsS own idx y (ws_ y b L r)) := by
  refine lw_app ?_ (lw_meth h4)
  intro w hw
  simp only [List.mem_cons, List.not_mem_nil, or_false] at hw
  rcases hw with e | e | e
  · rw [e]; exact h1
  · rw [e]; exact h2
  · rw [e]; exact h3
/-- the words of a contract for a method WITH HANDLERS (hh: its table) -/
abbrev wsW_ (y : MethodName) (b : ByteArray) (L : Nat) (r : Option FieldType) (hh : List (Nat × Nat × Nat × Nat)) : List Cond := Cond.codeWith y b L r hh :: lw_all
theorem lw_methW {y : MethodName} {b : ByteArray} {L : Nat} {r : Option FieldType} {hh : List (Nat × Nat × Nat × Nat)} (h : Cond.codeWith y b L r hh ∈ lw_all) : GoodIn lw_all (wsW_ y b L r hh) := by
  intro w hw
  rcases List.mem_cons.mp hw with e | e
  · rw [e]
    exact lw_self _ h
  · exact lw_self _ e
/-- any list of words by their places (lw_in), good -/
theorem lw_good {ws : List Cond} (h : ∀ w ∈ ws, w ∈ lw_all) : GoodIn lw_all ws := fun w hw => lw_self w (h w hw)
/-- what a call of a method with handlers asks: vx_cwVW n hts (lw_VW ..), vx_cwSW n hts (lw_SW ..) -/
theorem lw_VW {own : String} {idx : Nat} {C : String} {y : MethodName} {b : ByteArray} {L : Nat} {r : Option FieldType} {hh : List (Nat × Nat × Nat × Nat)} (h1 : Cond.methodLink own idx y ∈ lw_all) (h2 : Cond.instanceMethod y ∈ lw_all) (h3 : Cond.selects C y y ∈ lw_all) (h4 : Cond.initialized C ∈ lw_all) (h5 : Cond.codeWith y b L r hh ∈ lw_all) : GoodIn lw_all (wsV own idx C y (wsW_ y b L r hh)) := by
  refine lw_app ?_ (lw_methW h5)
  intro w hw
  simp only [List.mem_cons, List.not_mem_nil, or_false] at hw
  rcases hw with e | e | e | e
  · rw [e]; exact h1
  · rw [e]; exact h2
  · rw [e]; exact h3
  · rw [e]; exact h4
theorem lw_SW {own : String} {idx : Nat} {y : MethodName} {b : ByteArray} {L : Nat} {r : Option FieldType} {hh : List (Nat × Nat × Nat × Nat)} (h1 : Cond.methodLink own idx y ∈ lw_all) (h2 : Cond.static y ∈ lw_all) (h3 : Cond.initialized y.cls ∈ lw_all) (h4 : Cond.codeWith y b L r hh ∈ lw_all) : GoodIn lw_all (va_wsS own idx y (wsW_ y b L r hh)) := by
  refine lw_app ?_ (lw_methW h4)
  intro w hw
  simp only [List.mem_cons, List.not_mem_nil, or_false] at hw
  rcases hw with e | e | e
  · rw [e]; exact h1
  · rw [e]; exact h2
  · rw [e]; exact h3
/-- a word by its place in its run of the tables -/
theorem lw_at {r : List Cond} (hr : ∀ w ∈ r, w ∈ lw_tbl) {w : Cond} (i : Nat) (h : r[i]? = some w) : w ∈ lw_tbl := hr w (List.mem_of_getElem? h)
theorem lw_g {w : Cond} (h : w ∈ lw_tbl) (g : goodWord w = true) : w ∈ lw_all := List.mem_filter.mpr ⟨h, g⟩
theorem lw_ms : ∀ w ∈ k2_sels lw_privs, w ∈ lw_tbl := fun w h => show w ∈ k2_sels lw_privs ++ tables_1 from List.mem_append_left _ h
theorem lw_m1 : ∀ w ∈ tables_1_1, w ∈ lw_tbl := fun w h => show w ∈ k2_sels lw_privs ++ tables_1 from List.mem_append_right (k2_sels lw_privs) (show w ∈ tables_1 from List.mem_append_left _ h)
theorem lw_m2 : ∀ w ∈ tables_1_2, w ∈ lw_tbl := fun w h => show w ∈ k2_sels lw_privs ++ tables_1 from List.mem_append_right (k2_sels lw_privs) (show w ∈ tables_1 from List.mem_append_right _ h)
theorem qs0 : (Cond.selects "java/lang/Throwable" ⟨"java/lang/Throwable", "fillInStackTrace", "(I)Ljava/lang/Throwable;"⟩ ⟨"java/lang/Throwable", "fillInStackTrace", "(I)Ljava/lang/Throwable;"⟩) ∈ lw_all := lw_g (lw_at lw_ms 0 rfl) rfl
theorem qs1 : (Cond.selects "ImmutableLongArray$Builder" ⟨"ImmutableLongArray$Builder", "ensureRoomFor", "(I)V"⟩ ⟨"ImmutableLongArray$Builder", "ensureRoomFor", "(I)V"⟩) ∈ lw_all := lw_g (lw_at lw_ms 1 rfl) rfl
theorem qs2 : (Cond.selects "ImmutableLongArray" ⟨"ImmutableLongArray", "isPartialView", "()Z"⟩ ⟨"ImmutableLongArray", "isPartialView", "()Z"⟩) ∈ lw_all := lw_g (lw_at lw_ms 2 rfl) rfl
end
section
/-! DECODE ROWS BY BYTES: one lemma an opcode; a method's code is cut into short pieces once, and a row reads its own piece alone. -/
set_option maxRecDepth 100000
/-- the code has just these bytes from pc on -/
def DkAt (code : ByteArray) (pc : Nat) (bs : List UInt8) : Prop := ∀ (j : Nat) (b : UInt8), bs[j]? = some b → code.data.toList[pc + j]? = some b
/-- the piece W has the bytes bs from its place j on -/
def dkIn (W : List UInt8) (j : Nat) (bs : List UInt8) : Bool := decide ((W.drop j).take bs.length = bs)
theorem dk_seg {l W T : List UInt8} {o o2 : Nat} (h : l.drop o = W ++ T) (n : Nat) (hn : W.length = n) (ho : o + n = o2) : l.drop o2 = T := by
  subst ho
  rw [← List.drop_drop, h, List.drop_left' hn]
theorem dk_at {code : ByteArray} {W T bs : List UInt8} {o pc : Nat} (h : code.data.toList.drop o = W ++ T) (j : Nat) (hp : o + j = pc) (hw : dkIn W j bs = true) : DkAt code pc bs := by
  subst hp
  intro i b e
  have h1 := of_decide_eq_true hw
  have h2 : i < bs.length := (List.getElem?_eq_some_iff.mp e).1
  have h3 : W[j + i]? = some b := by
    rw [← h1, List.getElem?_take, if_pos h2, List.getElem?_drop] at e
    exact e
  have h4 : j + i < W.length := (List.getElem?_eq_some_iff.mp h3).1
  have h5 : (code.data.toList.drop o)[j + i]? = some b := by
    rw [h, List.getElem?_append_left h4]
    exact h3
  rw [List.getElem?_drop, ← Nat.add_assoc] at h5
  exact h5
theorem dk_u1 {A : ByteArray} {p : Nat} {b : UInt8} (h : A.data.toList[p]? = some b) : (Reader.u1 : Reader DecodeError Nat) A p = .ok (b.toNat, p + 1) := by
  obtain ⟨h1, h2⟩ := List.getElem?_eq_some_iff.mp h
  have h3 : p < A.size := by simpa using h1
  have h4 : A[p]'h3 = b := h2
  have e : (Reader.u1 : Reader DecodeError Nat) A p = (if h : p < A.size then .ok (A[p].toNat, p + 1) else .error (HasTruncated.truncated p)) := by
    show (do if h : p < A.size then do set (p + 1); Pure.pure A[p].toNat else MonadExcept.throw (HasTruncated.truncated p) : Reader DecodeError Nat) A p = _
    by_cases hi : p < A.size
    · rw [dif_pos hi, dif_pos hi]; rfl
    · rw [dif_neg hi, dif_neg hi]; rfl
  rw [e, dif_pos h3, h4]
theorem dk_bind {α β : Type} {r : Reader DecodeError α} {f : α → Reader DecodeError β} {A : ByteArray} {p s : Nat} {a : α} (h : r A p = .ok (a, s)) : (r >>= f) A p = f a A s := by
  show (do let (a, s) ← r A p; f a A s : Except DecodeError (β × Nat)) = _
  rw [h]
  rfl
theorem dk_map {α β : Type} {r : Reader DecodeError α} {g : α → β} {A : ByteArray} {p s : Nat} {a : α} (h : r A p = .ok (a, s)) : (g <$> r) A p = .ok (g a, s) := by
  show (do let (a, s) ← r A p; .ok (g a, s) : Except DecodeError (β × Nat)) = _
  rw [h]
  rfl
theorem dk_u2 {A : ByteArray} {p : Nat} {a b : UInt8} (h : A.data.toList[p]? = some a) (h2 : A.data.toList[p + 1]? = some b) : (Reader.u2 : Reader DecodeError Nat) A p = .ok (a.toNat * 256 + b.toNat, p + 2) := by
  show (Reader.u1 >>= fun hi => Reader.u1 >>= fun lo => Pure.pure (hi * 256 + lo) : Reader DecodeError Nat) A p = _
  rw [dk_bind (dk_u1 h), dk_bind (dk_u1 h2)]
  rfl
theorem dk_of {code : ByteArray} {pc n : Nat} {i : Instr} (h : Decoder.instr pc code pc = .ok (i, pc + n)) : decode code pc = .ok (i, n) := by
  have e : decode code pc = (match Decoder.instr pc code pc with | .error x => .error x | .ok (j, s) => .ok (j, s - pc)) := by
    show (do let (j, s) ← Decoder.instr pc code pc; Pure.pure (j, s - pc) : Except DecodeError (Instr × Nat)) = _
    cases Decoder.instr pc code pc <;> rfl
  rw [e, h]
  show Except.ok (i, pc + n - pc) = _
  rw [Nat.add_sub_cancel_left]
theorem dk_2 {code : ByteArray} {pc : Nat} (h : DkAt code pc [2]) : decode code pc = .ok (.iconst (-1), 1) := dk_of ((dk_bind (dk_u1 (h 0 _ rfl))).trans rfl)
theorem dk_3 {code : ByteArray} {pc : Nat} (h : DkAt code pc [3]) : decode code pc = .ok (.iconst 0, 1) := dk_of ((dk_bind (dk_u1 (h 0 _ rfl))).trans rfl)
theorem dk_4 {code : ByteArray} {pc : Nat} (h : DkAt code pc [4]) : decode code pc = .ok (.iconst 1, 1) := dk_of ((dk_bind (dk_u1 (h 0 _ rfl))).trans rfl)
theorem dk_5 {code : ByteArray} {pc : Nat} (h : DkAt code pc [5]) : decode code pc = .ok (.iconst 2, 1) := dk_of ((dk_bind (dk_u1 (h 0 _ rfl))).trans rfl)
theorem dk_6 {code : ByteArray} {pc : Nat} (h : DkAt code pc [6]) : decode code pc = .ok (.iconst 3, 1) := dk_of ((dk_bind (dk_u1 (h 0 _ rfl))).trans rfl)
theorem dk_7 {code : ByteArray} {pc : Nat} (h : DkAt code pc [7]) : decode code pc = .ok (.iconst 4, 1) := dk_of ((dk_bind (dk_u1 (h 0 _ rfl))).trans rfl)
theorem dk_9 {code : ByteArray} {pc : Nat} (h : DkAt code pc [9]) : decode code pc = .ok (.lconst 0, 1) := dk_of ((dk_bind (dk_u1 (h 0 _ rfl))).trans rfl)
theorem dk_16 {code : ByteArray} {pc : Nat} (a : UInt8) (h : DkAt code pc [16, a]) : decode code pc = .ok (.bipush (Reader.signed 8 a.toNat), 2) := dk_of ((dk_bind (dk_u1 (h 0 _ rfl))).trans ((dk_bind (dk_map (dk_u1 (h 1 _ rfl)))).trans rfl))
theorem dk_17 {code : ByteArray} {pc : Nat} (a b : UInt8) (h : DkAt code pc [17, a, b]) : decode code pc = .ok (.sipush (Reader.signed 16 (a.toNat * 256 + b.toNat)), 3) := dk_of ((dk_bind (dk_u1 (h 0 _ rfl))).trans ((dk_bind (dk_map (dk_u2 (h 1 _ rfl) (h 2 _ rfl)))).trans rfl))
theorem dk_18 {code : ByteArray} {pc : Nat} (a : UInt8) (h : DkAt code pc [18, a]) : decode code pc = .ok (.ldc a.toNat, 2) := dk_of ((dk_bind (dk_u1 (h 0 _ rfl))).trans ((dk_bind (dk_u1 (h 1 _ rfl))).trans rfl))
theorem dk_19 {code : ByteArray} {pc : Nat} (a b : UInt8) (h : DkAt code pc [19, a, b]) : decode code pc = .ok (.ldc_w (a.toNat * 256 + b.toNat), 3) := dk_of ((dk_bind (dk_u1 (h 0 _ rfl))).trans ((dk_bind (dk_u2 (h 1 _ rfl) (h 2 _ rfl))).trans rfl))
theorem dk_20 {code : ByteArray} {pc : Nat} (a b : UInt8) (h : DkAt code pc [20, a, b]) : decode code pc = .ok (.ldc2_w (a.toNat * 256 + b.toNat), 3) := dk_of ((dk_bind (dk_u1 (h 0 _ rfl))).trans ((dk_bind (dk_u2 (h 1 _ rfl) (h 2 _ rfl))).trans rfl))
theorem dk_21 {code : ByteArray} {pc : Nat} (a : UInt8) (h : DkAt code pc [21, a]) : decode code pc = .ok (.iload a.toNat, 2) := dk_of ((dk_bind (dk_u1 (h 0 _ rfl))).trans ((dk_bind (dk_u1 (h 1 _ rfl))).trans rfl))
theorem dk_22 {code : ByteArray} {pc : Nat} (a : UInt8) (h : DkAt code pc [22, a]) : decode code pc = .ok (.lload a.toNat, 2) := dk_of ((dk_bind (dk_u1 (h 0 _ rfl))).trans ((dk_bind (dk_u1 (h 1 _ rfl))).trans rfl))
theorem dk_25 {code : ByteArray} {pc : Nat} (a : UInt8) (h : DkAt code pc [25, a]) : decode code pc = .ok (.aload a.toNat, 2) := dk_of ((dk_bind (dk_u1 (h 0 _ rfl))).trans ((dk_bind (dk_u1 (h 1 _ rfl))).trans rfl))
theorem dk_26 {code : ByteArray} {pc : Nat} (h : DkAt code pc [26]) : decode code pc = .ok (.iload_n 0, 1) := dk_of ((dk_bind (dk_u1 (h 0 _ rfl))).trans rfl)
theorem dk_27 {code : ByteArray} {pc : Nat} (h : DkAt code pc [27]) : decode code pc = .ok (.iload_n 1, 1) := dk_of ((dk_bind (dk_u1 (h 0 _ rfl))).trans rfl)
theorem dk_28 {code : ByteArray} {pc : Nat} (h : DkAt code pc [28]) : decode code pc = .ok (.iload_n 2, 1) := dk_of ((dk_bind (dk_u1 (h 0 _ rfl))).trans rfl)
theorem dk_29 {code : ByteArray} {pc : Nat} (h : DkAt code pc [29]) : decode code pc = .ok (.iload_n 3, 1) := dk_of ((dk_bind (dk_u1 (h 0 _ rfl))).trans rfl)
theorem dk_30 {code : ByteArray} {pc : Nat} (h : DkAt code pc [30]) : decode code pc = .ok (.lload_n 0, 1) := dk_of ((dk_bind (dk_u1 (h 0 _ rfl))).trans rfl)
theorem dk_31 {code : ByteArray} {pc : Nat} (h : DkAt code pc [31]) : decode code pc = .ok (.lload_n 1, 1) := dk_of ((dk_bind (dk_u1 (h 0 _ rfl))).trans rfl)
theorem dk_32 {code : ByteArray} {pc : Nat} (h : DkAt code pc [32]) : decode code pc = .ok (.lload_n 2, 1) := dk_of ((dk_bind (dk_u1 (h 0 _ rfl))).trans rfl)
theorem dk_33 {code : ByteArray} {pc : Nat} (h : DkAt code pc [33]) : decode code pc = .ok (.lload_n 3, 1) := dk_of ((dk_bind (dk_u1 (h 0 _ rfl))).trans rfl)
theorem dk_42 {code : ByteArray} {pc : Nat} (h : DkAt code pc [42]) : decode code pc = .ok (.aload_n 0, 1) := dk_of ((dk_bind (dk_u1 (h 0 _ rfl))).trans rfl)
theorem dk_43 {code : ByteArray} {pc : Nat} (h : DkAt code pc [43]) : decode code pc = .ok (.aload_n 1, 1) := dk_of ((dk_bind (dk_u1 (h 0 _ rfl))).trans rfl)
theorem dk_44 {code : ByteArray} {pc : Nat} (h : DkAt code pc [44]) : decode code pc = .ok (.aload_n 2, 1) := dk_of ((dk_bind (dk_u1 (h 0 _ rfl))).trans rfl)
theorem dk_45 {code : ByteArray} {pc : Nat} (h : DkAt code pc [45]) : decode code pc = .ok (.aload_n 3, 1) := dk_of ((dk_bind (dk_u1 (h 0 _ rfl))).trans rfl)
theorem dk_46 {code : ByteArray} {pc : Nat} (h : DkAt code pc [46]) : decode code pc = .ok (.iaload, 1) := dk_of ((dk_bind (dk_u1 (h 0 _ rfl))).trans rfl)
theorem dk_47 {code : ByteArray} {pc : Nat} (h : DkAt code pc [47]) : decode code pc = .ok (.laload, 1) := dk_of ((dk_bind (dk_u1 (h 0 _ rfl))).trans rfl)
theorem dk_50 {code : ByteArray} {pc : Nat} (h : DkAt code pc [50]) : decode code pc = .ok (.aaload, 1) := dk_of ((dk_bind (dk_u1 (h 0 _ rfl))).trans rfl)
theorem dk_54 {code : ByteArray} {pc : Nat} (a : UInt8) (h : DkAt code pc [54, a]) : decode code pc = .ok (.istore a.toNat, 2) := dk_of ((dk_bind (dk_u1 (h 0 _ rfl))).trans ((dk_bind (dk_u1 (h 1 _ rfl))).trans rfl))
theorem dk_55 {code : ByteArray} {pc : Nat} (a : UInt8) (h : DkAt code pc [55, a]) : decode code pc = .ok (.lstore a.toNat, 2) := dk_of ((dk_bind (dk_u1 (h 0 _ rfl))).trans ((dk_bind (dk_u1 (h 1 _ rfl))).trans rfl))
theorem dk_58 {code : ByteArray} {pc : Nat} (a : UInt8) (h : DkAt code pc [58, a]) : decode code pc = .ok (.astore a.toNat, 2) := dk_of ((dk_bind (dk_u1 (h 0 _ rfl))).trans ((dk_bind (dk_u1 (h 1 _ rfl))).trans rfl))
theorem dk_59 {code : ByteArray} {pc : Nat} (h : DkAt code pc [59]) : decode code pc = .ok (.istore_n 0, 1) := dk_of ((dk_bind (dk_u1 (h 0 _ rfl))).trans rfl)
theorem dk_60 {code : ByteArray} {pc : Nat} (h : DkAt code pc [60]) : decode code pc = .ok (.istore_n 1, 1) := dk_of ((dk_bind (dk_u1 (h 0 _ rfl))).trans rfl)
theorem dk_61 {code : ByteArray} {pc : Nat} (h : DkAt code pc [61]) : decode code pc = .ok (.istore_n 2, 1) := dk_of ((dk_bind (dk_u1 (h 0 _ rfl))).trans rfl)
theorem dk_62 {code : ByteArray} {pc : Nat} (h : DkAt code pc [62]) : decode code pc = .ok (.istore_n 3, 1) := dk_of ((dk_bind (dk_u1 (h 0 _ rfl))).trans rfl)
theorem dk_65 {code : ByteArray} {pc : Nat} (h : DkAt code pc [65]) : decode code pc = .ok (.lstore_n 2, 1) := dk_of ((dk_bind (dk_u1 (h 0 _ rfl))).trans rfl)
theorem dk_66 {code : ByteArray} {pc : Nat} (h : DkAt code pc [66]) : decode code pc = .ok (.lstore_n 3, 1) := dk_of ((dk_bind (dk_u1 (h 0 _ rfl))).trans rfl)
theorem dk_76 {code : ByteArray} {pc : Nat} (h : DkAt code pc [76]) : decode code pc = .ok (.astore_n 1, 1) := dk_of ((dk_bind (dk_u1 (h 0 _ rfl))).trans rfl)
theorem dk_77 {code : ByteArray} {pc : Nat} (h : DkAt code pc [77]) : decode code pc = .ok (.astore_n 2, 1) := dk_of ((dk_bind (dk_u1 (h 0 _ rfl))).trans rfl)
theorem dk_78 {code : ByteArray} {pc : Nat} (h : DkAt code pc [78]) : decode code pc = .ok (.astore_n 3, 1) := dk_of ((dk_bind (dk_u1 (h 0 _ rfl))).trans rfl)
theorem dk_80 {code : ByteArray} {pc : Nat} (h : DkAt code pc [80]) : decode code pc = .ok (.lastore, 1) := dk_of ((dk_bind (dk_u1 (h 0 _ rfl))).trans rfl)
theorem dk_83 {code : ByteArray} {pc : Nat} (h : DkAt code pc [83]) : decode code pc = .ok (.aastore, 1) := dk_of ((dk_bind (dk_u1 (h 0 _ rfl))).trans rfl)
theorem dk_87 {code : ByteArray} {pc : Nat} (h : DkAt code pc [87]) : decode code pc = .ok (.pop, 1) := dk_of ((dk_bind (dk_u1 (h 0 _ rfl))).trans rfl)
theorem dk_89 {code : ByteArray} {pc : Nat} (h : DkAt code pc [89]) : decode code pc = .ok (.dup, 1) := dk_of ((dk_bind (dk_u1 (h 0 _ rfl))).trans rfl)
theorem dk_96 {code : ByteArray} {pc : Nat} (h : DkAt code pc [96]) : decode code pc = .ok (.iadd, 1) := dk_of ((dk_bind (dk_u1 (h 0 _ rfl))).trans rfl)
theorem dk_97 {code : ByteArray} {pc : Nat} (h : DkAt code pc [97]) : decode code pc = .ok (.ladd, 1) := dk_of ((dk_bind (dk_u1 (h 0 _ rfl))).trans rfl)
theorem dk_100 {code : ByteArray} {pc : Nat} (h : DkAt code pc [100]) : decode code pc = .ok (.isub, 1) := dk_of ((dk_bind (dk_u1 (h 0 _ rfl))).trans rfl)
theorem dk_104 {code : ByteArray} {pc : Nat} (h : DkAt code pc [104]) : decode code pc = .ok (.imul, 1) := dk_of ((dk_bind (dk_u1 (h 0 _ rfl))).trans rfl)
theorem dk_105 {code : ByteArray} {pc : Nat} (h : DkAt code pc [105]) : decode code pc = .ok (.lmul, 1) := dk_of ((dk_bind (dk_u1 (h 0 _ rfl))).trans rfl)
theorem dk_112 {code : ByteArray} {pc : Nat} (h : DkAt code pc [112]) : decode code pc = .ok (.irem, 1) := dk_of ((dk_bind (dk_u1 (h 0 _ rfl))).trans rfl)
theorem dk_120 {code : ByteArray} {pc : Nat} (h : DkAt code pc [120]) : decode code pc = .ok (.ishl, 1) := dk_of ((dk_bind (dk_u1 (h 0 _ rfl))).trans rfl)
theorem dk_121 {code : ByteArray} {pc : Nat} (h : DkAt code pc [121]) : decode code pc = .ok (.lshl, 1) := dk_of ((dk_bind (dk_u1 (h 0 _ rfl))).trans rfl)
theorem dk_122 {code : ByteArray} {pc : Nat} (h : DkAt code pc [122]) : decode code pc = .ok (.ishr, 1) := dk_of ((dk_bind (dk_u1 (h 0 _ rfl))).trans rfl)
theorem dk_124 {code : ByteArray} {pc : Nat} (h : DkAt code pc [124]) : decode code pc = .ok (.iushr, 1) := dk_of ((dk_bind (dk_u1 (h 0 _ rfl))).trans rfl)
theorem dk_125 {code : ByteArray} {pc : Nat} (h : DkAt code pc [125]) : decode code pc = .ok (.lushr, 1) := dk_of ((dk_bind (dk_u1 (h 0 _ rfl))).trans rfl)
theorem dk_126 {code : ByteArray} {pc : Nat} (h : DkAt code pc [126]) : decode code pc = .ok (.iand, 1) := dk_of ((dk_bind (dk_u1 (h 0 _ rfl))).trans rfl)
theorem dk_127 {code : ByteArray} {pc : Nat} (h : DkAt code pc [127]) : decode code pc = .ok (.land, 1) := dk_of ((dk_bind (dk_u1 (h 0 _ rfl))).trans rfl)
theorem dk_129 {code : ByteArray} {pc : Nat} (h : DkAt code pc [129]) : decode code pc = .ok (.lor, 1) := dk_of ((dk_bind (dk_u1 (h 0 _ rfl))).trans rfl)
theorem dk_131 {code : ByteArray} {pc : Nat} (h : DkAt code pc [131]) : decode code pc = .ok (.lxor, 1) := dk_of ((dk_bind (dk_u1 (h 0 _ rfl))).trans rfl)
theorem dk_132 {code : ByteArray} {pc : Nat} (a b : UInt8) (h : DkAt code pc [132, a, b]) : decode code pc = .ok (.iinc a.toNat (Reader.signed 8 b.toNat), 3) := dk_of ((dk_bind (dk_u1 (h 0 _ rfl))).trans ((dk_bind (dk_u1 (h 1 _ rfl))).trans ((dk_bind (dk_map (dk_u1 (h 2 _ rfl)))).trans rfl)))
theorem dk_133 {code : ByteArray} {pc : Nat} (h : DkAt code pc [133]) : decode code pc = .ok (.i2l, 1) := dk_of ((dk_bind (dk_u1 (h 0 _ rfl))).trans rfl)
theorem dk_136 {code : ByteArray} {pc : Nat} (h : DkAt code pc [136]) : decode code pc = .ok (.l2i, 1) := dk_of ((dk_bind (dk_u1 (h 0 _ rfl))).trans rfl)
theorem dk_148 {code : ByteArray} {pc : Nat} (h : DkAt code pc [148]) : decode code pc = .ok (.lcmp, 1) := dk_of ((dk_bind (dk_u1 (h 0 _ rfl))).trans rfl)
theorem dk_153 {code : ByteArray} {pc : Nat} (a b : UInt8) (h : DkAt code pc [153, a, b]) : decode code pc = .ok (.ifCond .eq (Reader.signed 16 (a.toNat * 256 + b.toNat)), 3) := dk_of ((dk_bind (dk_u1 (h 0 _ rfl))).trans ((dk_bind (dk_map (dk_u2 (h 1 _ rfl) (h 2 _ rfl)))).trans rfl))
theorem dk_154 {code : ByteArray} {pc : Nat} (a b : UInt8) (h : DkAt code pc [154, a, b]) : decode code pc = .ok (.ifCond .ne (Reader.signed 16 (a.toNat * 256 + b.toNat)), 3) := dk_of ((dk_bind (dk_u1 (h 0 _ rfl))).trans ((dk_bind (dk_map (dk_u2 (h 1 _ rfl) (h 2 _ rfl)))).trans rfl))
theorem dk_155 {code : ByteArray} {pc : Nat} (a b : UInt8) (h : DkAt code pc [155, a, b]) : decode code pc = .ok (.ifCond .lt (Reader.signed 16 (a.toNat * 256 + b.toNat)), 3) := dk_of ((dk_bind (dk_u1 (h 0 _ rfl))).trans ((dk_bind (dk_map (dk_u2 (h 1 _ rfl) (h 2 _ rfl)))).trans rfl))
theorem dk_156 {code : ByteArray} {pc : Nat} (a b : UInt8) (h : DkAt code pc [156, a, b]) : decode code pc = .ok (.ifCond .ge (Reader.signed 16 (a.toNat * 256 + b.toNat)), 3) := dk_of ((dk_bind (dk_u1 (h 0 _ rfl))).trans ((dk_bind (dk_map (dk_u2 (h 1 _ rfl) (h 2 _ rfl)))).trans rfl))
theorem dk_157 {code : ByteArray} {pc : Nat} (a b : UInt8) (h : DkAt code pc [157, a, b]) : decode code pc = .ok (.ifCond .gt (Reader.signed 16 (a.toNat * 256 + b.toNat)), 3) := dk_of ((dk_bind (dk_u1 (h 0 _ rfl))).trans ((dk_bind (dk_map (dk_u2 (h 1 _ rfl) (h 2 _ rfl)))).trans rfl))
theorem dk_159 {code : ByteArray} {pc : Nat} (a b : UInt8) (h : DkAt code pc [159, a, b]) : decode code pc = .ok (.if_icmp .eq (Reader.signed 16 (a.toNat * 256 + b.toNat)), 3) := dk_of ((dk_bind (dk_u1 (h 0 _ rfl))).trans ((dk_bind (dk_map (dk_u2 (h 1 _ rfl) (h 2 _ rfl)))).trans rfl))
theorem dk_160 {code : ByteArray} {pc : Nat} (a b : UInt8) (h : DkAt code pc [160, a, b]) : decode code pc = .ok (.if_icmp .ne (Reader.signed 16 (a.toNat * 256 + b.toNat)), 3) := dk_of ((dk_bind (dk_u1 (h 0 _ rfl))).trans ((dk_bind (dk_map (dk_u2 (h 1 _ rfl) (h 2 _ rfl)))).trans rfl))
theorem dk_161 {code : ByteArray} {pc : Nat} (a b : UInt8) (h : DkAt code pc [161, a, b]) : decode code pc = .ok (.if_icmp .lt (Reader.signed 16 (a.toNat * 256 + b.toNat)), 3) := dk_of ((dk_bind (dk_u1 (h 0 _ rfl))).trans ((dk_bind (dk_map (dk_u2 (h 1 _ rfl) (h 2 _ rfl)))).trans rfl))
theorem dk_162 {code : ByteArray} {pc : Nat} (a b : UInt8) (h : DkAt code pc [162, a, b]) : decode code pc = .ok (.if_icmp .ge (Reader.signed 16 (a.toNat * 256 + b.toNat)), 3) := dk_of ((dk_bind (dk_u1 (h 0 _ rfl))).trans ((dk_bind (dk_map (dk_u2 (h 1 _ rfl) (h 2 _ rfl)))).trans rfl))
theorem dk_163 {code : ByteArray} {pc : Nat} (a b : UInt8) (h : DkAt code pc [163, a, b]) : decode code pc = .ok (.if_icmp .gt (Reader.signed 16 (a.toNat * 256 + b.toNat)), 3) := dk_of ((dk_bind (dk_u1 (h 0 _ rfl))).trans ((dk_bind (dk_map (dk_u2 (h 1 _ rfl) (h 2 _ rfl)))).trans rfl))
theorem dk_164 {code : ByteArray} {pc : Nat} (a b : UInt8) (h : DkAt code pc [164, a, b]) : decode code pc = .ok (.if_icmp .le (Reader.signed 16 (a.toNat * 256 + b.toNat)), 3) := dk_of ((dk_bind (dk_u1 (h 0 _ rfl))).trans ((dk_bind (dk_map (dk_u2 (h 1 _ rfl) (h 2 _ rfl)))).trans rfl))
theorem dk_166 {code : ByteArray} {pc : Nat} (a b : UInt8) (h : DkAt code pc [166, a, b]) : decode code pc = .ok (.if_acmp .ne (Reader.signed 16 (a.toNat * 256 + b.toNat)), 3) := dk_of ((dk_bind (dk_u1 (h 0 _ rfl))).trans ((dk_bind (dk_map (dk_u2 (h 1 _ rfl) (h 2 _ rfl)))).trans rfl))
theorem dk_167 {code : ByteArray} {pc : Nat} (a b : UInt8) (h : DkAt code pc [167, a, b]) : decode code pc = .ok (.goto (Reader.signed 16 (a.toNat * 256 + b.toNat)), 3) := dk_of ((dk_bind (dk_u1 (h 0 _ rfl))).trans ((dk_bind (dk_map (dk_u2 (h 1 _ rfl) (h 2 _ rfl)))).trans rfl))
theorem dk_172 {code : ByteArray} {pc : Nat} (h : DkAt code pc [172]) : decode code pc = .ok (.ireturn, 1) := dk_of ((dk_bind (dk_u1 (h 0 _ rfl))).trans rfl)
theorem dk_173 {code : ByteArray} {pc : Nat} (h : DkAt code pc [173]) : decode code pc = .ok (.lreturn, 1) := dk_of ((dk_bind (dk_u1 (h 0 _ rfl))).trans rfl)
theorem dk_176 {code : ByteArray} {pc : Nat} (h : DkAt code pc [176]) : decode code pc = .ok (.areturn, 1) := dk_of ((dk_bind (dk_u1 (h 0 _ rfl))).trans rfl)
theorem dk_177 {code : ByteArray} {pc : Nat} (h : DkAt code pc [177]) : decode code pc = .ok (.return_, 1) := dk_of ((dk_bind (dk_u1 (h 0 _ rfl))).trans rfl)
theorem dk_178 {code : ByteArray} {pc : Nat} (a b : UInt8) (h : DkAt code pc [178, a, b]) : decode code pc = .ok (.getstatic (a.toNat * 256 + b.toNat), 3) := dk_of ((dk_bind (dk_u1 (h 0 _ rfl))).trans ((dk_bind (dk_u2 (h 1 _ rfl) (h 2 _ rfl))).trans rfl))
theorem dk_180 {code : ByteArray} {pc : Nat} (a b : UInt8) (h : DkAt code pc [180, a, b]) : decode code pc = .ok (.getfield (a.toNat * 256 + b.toNat), 3) := dk_of ((dk_bind (dk_u1 (h 0 _ rfl))).trans ((dk_bind (dk_u2 (h 1 _ rfl) (h 2 _ rfl))).trans rfl))
theorem dk_181 {code : ByteArray} {pc : Nat} (a b : UInt8) (h : DkAt code pc [181, a, b]) : decode code pc = .ok (.putfield (a.toNat * 256 + b.toNat), 3) := dk_of ((dk_bind (dk_u1 (h 0 _ rfl))).trans ((dk_bind (dk_u2 (h 1 _ rfl) (h 2 _ rfl))).trans rfl))
theorem dk_182 {code : ByteArray} {pc : Nat} (a b : UInt8) (h : DkAt code pc [182, a, b]) : decode code pc = .ok (.invokevirtual (a.toNat * 256 + b.toNat), 3) := dk_of ((dk_bind (dk_u1 (h 0 _ rfl))).trans ((dk_bind (dk_u2 (h 1 _ rfl) (h 2 _ rfl))).trans rfl))
theorem dk_183 {code : ByteArray} {pc : Nat} (a b : UInt8) (h : DkAt code pc [183, a, b]) : decode code pc = .ok (.invokespecial (a.toNat * 256 + b.toNat), 3) := dk_of ((dk_bind (dk_u1 (h 0 _ rfl))).trans ((dk_bind (dk_u2 (h 1 _ rfl) (h 2 _ rfl))).trans rfl))
theorem dk_184 {code : ByteArray} {pc : Nat} (a b : UInt8) (h : DkAt code pc [184, a, b]) : decode code pc = .ok (.invokestatic (a.toNat * 256 + b.toNat), 3) := dk_of ((dk_bind (dk_u1 (h 0 _ rfl))).trans ((dk_bind (dk_u2 (h 1 _ rfl) (h 2 _ rfl))).trans rfl))
theorem dk_187 {code : ByteArray} {pc : Nat} (a b : UInt8) (h : DkAt code pc [187, a, b]) : decode code pc = .ok (.new (a.toNat * 256 + b.toNat), 3) := dk_of ((dk_bind (dk_u1 (h 0 _ rfl))).trans ((dk_bind (dk_u2 (h 1 _ rfl) (h 2 _ rfl))).trans rfl))
theorem dk_188_11 {code : ByteArray} {pc : Nat} (h : DkAt code pc [188, 11]) : decode code pc = .ok (.newarray .long, 2) := dk_of ((dk_bind (dk_u1 (h 0 _ rfl))).trans ((dk_bind (dk_u1 (h 1 _ rfl))).trans rfl))
theorem dk_189 {code : ByteArray} {pc : Nat} (a b : UInt8) (h : DkAt code pc [189, a, b]) : decode code pc = .ok (.anewarray (a.toNat * 256 + b.toNat), 3) := dk_of ((dk_bind (dk_u1 (h 0 _ rfl))).trans ((dk_bind (dk_u2 (h 1 _ rfl) (h 2 _ rfl))).trans rfl))
theorem dk_190 {code : ByteArray} {pc : Nat} (h : DkAt code pc [190]) : decode code pc = .ok (.arraylength, 1) := dk_of ((dk_bind (dk_u1 (h 0 _ rfl))).trans rfl)
theorem dk_191 {code : ByteArray} {pc : Nat} (h : DkAt code pc [191]) : decode code pc = .ok (.athrow, 1) := dk_of ((dk_bind (dk_u1 (h 0 _ rfl))).trans rfl)
theorem dk_192 {code : ByteArray} {pc : Nat} (a b : UInt8) (h : DkAt code pc [192, a, b]) : decode code pc = .ok (.checkcast (a.toNat * 256 + b.toNat), 3) := dk_of ((dk_bind (dk_u1 (h 0 _ rfl))).trans ((dk_bind (dk_u2 (h 1 _ rfl) (h 2 _ rfl))).trans rfl))
theorem dk_193 {code : ByteArray} {pc : Nat} (a b : UInt8) (h : DkAt code pc [193, a, b]) : decode code pc = .ok (.instanceof (a.toNat * 256 + b.toNat), 3) := dk_of ((dk_bind (dk_u1 (h 0 _ rfl))).trans ((dk_bind (dk_u2 (h 1 _ rfl) (h 2 _ rfl))).trans rfl))
end
section
/-! FixedRowDesk -/
set_option maxRecDepth 100000
def RX0 : String := "FixedRowDesk"
def TX0 : u_T := fun k => match k with
  | 0 => ("FixedRowDesk", "maker", "LImmutableLongArray$Builder;", false)
  | 1 => ("FixedRowDesk", "made", "I", false)
  | _ => ("FixedRowDesk", "rows", "[LImmutableLongArray;", true)
def tyX0 : Nat → FieldType := fun k => match k with
  | 0 => .object "ImmutableLongArray$Builder"
  | 1 => .int
  | _ => .array (.object "ImmutableLongArray")
abbrev wsX00 : List Cond := u_ws RX0 TX0 3
theorem nmX0 : ∀ a, a < 3 → ∀ b, b < 3 → a ≠ b → (TX0 a).2.1 ≠ (TX0 b).2.1 := by decide +kernel
theorem tyX0_ok : ∀ k, k < 3 → parseFieldDescriptor (TX0 k).2.2.1 = some (tyX0 k) := by decide +kernel
abbrev cX0_init : ByteArray := prog_1_method_1_code
def yX0_init : MethodName := ⟨RX0, "<init>", "()V"⟩
def dkwX0_init_1 : List UInt8 := [162, 0, 20, 42, 180, 0, 19, 27, 27, 133, 184, 0, 23, 83, 132, 1, 1, 167, 255, 237, 177]
abbrev dktX0_init_1 : List UInt8 := dkwX0_init_1 ++ []
def dkwX0_init_0 : List UInt8 := [42, 183, 0, 1, 42, 7, 184, 0, 7, 181, 0, 13, 42, 7, 189, 0, 8, 181, 0, 19, 3, 60, 27, 7]
abbrev dktX0_init_0 : List UInt8 := dkwX0_init_0 ++ dktX0_init_1
theorem dksX0_init_0 : cX0_init.data.toList.drop 0 = dktX0_init_0 := by decide +kernel
theorem dksX0_init_1 : cX0_init.data.toList.drop 24 = dktX0_init_1 := dk_seg dksX0_init_0 24 rfl rfl
theorem dX0_init_0 : decode cX0_init 0 = .ok (.aload_n 0, 1) := dk_42 (dk_at dksX0_init_0 0 rfl rfl)
theorem dX0_init_1 : decode cX0_init 1 = .ok (.invokespecial 1, 3) := dk_183 0 1 (dk_at dksX0_init_0 1 rfl rfl)
theorem dX0_init_4 : decode cX0_init 4 = .ok (.aload_n 0, 1) := dk_42 (dk_at dksX0_init_0 4 rfl rfl)
theorem dX0_init_5 : decode cX0_init 5 = .ok (.iconst 4, 1) := dk_7 (dk_at dksX0_init_0 5 rfl rfl)
theorem dX0_init_6 : decode cX0_init 6 = .ok (.invokestatic 7, 3) := dk_184 0 7 (dk_at dksX0_init_0 6 rfl rfl)
theorem dX0_init_9 : decode cX0_init 9 = .ok (.putfield 13, 3) := dk_181 0 13 (dk_at dksX0_init_0 9 rfl rfl)
theorem dX0_init_12 : decode cX0_init 12 = .ok (.aload_n 0, 1) := dk_42 (dk_at dksX0_init_0 12 rfl rfl)
theorem dX0_init_13 : decode cX0_init 13 = .ok (.iconst 4, 1) := dk_7 (dk_at dksX0_init_0 13 rfl rfl)
theorem dX0_init_14 : decode cX0_init 14 = .ok (.anewarray 8, 3) := dk_189 0 8 (dk_at dksX0_init_0 14 rfl rfl)
theorem dX0_init_17 : decode cX0_init 17 = .ok (.putfield 19, 3) := dk_181 0 19 (dk_at dksX0_init_0 17 rfl rfl)
theorem dX0_init_20 : decode cX0_init 20 = .ok (.iconst 0, 1) := dk_3 (dk_at dksX0_init_0 20 rfl rfl)
theorem dX0_init_21 : decode cX0_init 21 = .ok (.istore_n 1, 1) := dk_60 (dk_at dksX0_init_0 21 rfl rfl)
theorem dX0_init_22 : decode cX0_init 22 = .ok (.iload_n 1, 1) := dk_27 (dk_at dksX0_init_0 22 rfl rfl)
theorem dX0_init_23 : decode cX0_init 23 = .ok (.iconst 4, 1) := dk_7 (dk_at dksX0_init_0 23 rfl rfl)
theorem dX0_init_24 : decode cX0_init 24 = .ok (.if_icmp .ge 20, 3) := dk_162 0 20 (dk_at dksX0_init_1 0 rfl rfl)
theorem dX0_init_27 : decode cX0_init 27 = .ok (.aload_n 0, 1) := dk_42 (dk_at dksX0_init_1 3 rfl rfl)
theorem dX0_init_28 : decode cX0_init 28 = .ok (.getfield 19, 3) := dk_180 0 19 (dk_at dksX0_init_1 4 rfl rfl)
theorem dX0_init_31 : decode cX0_init 31 = .ok (.iload_n 1, 1) := dk_27 (dk_at dksX0_init_1 7 rfl rfl)
theorem dX0_init_32 : decode cX0_init 32 = .ok (.iload_n 1, 1) := dk_27 (dk_at dksX0_init_1 8 rfl rfl)
theorem dX0_init_33 : decode cX0_init 33 = .ok (.i2l, 1) := dk_133 (dk_at dksX0_init_1 9 rfl rfl)
theorem dX0_init_34 : decode cX0_init 34 = .ok (.invokestatic 23, 3) := dk_184 0 23 (dk_at dksX0_init_1 10 rfl rfl)
theorem dX0_init_37 : decode cX0_init 37 = .ok (.aastore, 1) := dk_83 (dk_at dksX0_init_1 13 rfl rfl)
theorem dX0_init_38 : decode cX0_init 38 = .ok (.iinc 1 1, 3) := dk_132 1 1 (dk_at dksX0_init_1 14 rfl rfl)
theorem dX0_init_41 : decode cX0_init 41 = .ok (.goto (-19), 3) := dk_167 255 237 (dk_at dksX0_init_1 17 rfl rfl)
theorem dX0_init_44 : decode cX0_init 44 = .ok (.return_, 1) := dk_177 (dk_at dksX0_init_1 20 rfl rfl)
abbrev cX0_add : ByteArray := prog_1_method_3_code
def yX0_add : MethodName := ⟨RX0, "add", "(II)Z"⟩
def dkwX0_add_1 : List UInt8 := [180, 0, 13, 27, 28, 184, 0, 33, 182, 0, 36, 87, 4, 172]
abbrev dktX0_add_1 : List UInt8 := dkwX0_add_1 ++ []
def dkwX0_add_0 : List UInt8 := [42, 180, 0, 29, 16, 96, 161, 0, 5, 3, 172, 42, 89, 180, 0, 29, 4, 96, 181, 0, 29, 42]
abbrev dktX0_add_0 : List UInt8 := dkwX0_add_0 ++ dktX0_add_1
theorem dksX0_add_0 : cX0_add.data.toList.drop 0 = dktX0_add_0 := by decide +kernel
theorem dksX0_add_1 : cX0_add.data.toList.drop 22 = dktX0_add_1 := dk_seg dksX0_add_0 22 rfl rfl
theorem dX0_add_0 : decode cX0_add 0 = .ok (.aload_n 0, 1) := dk_42 (dk_at dksX0_add_0 0 rfl rfl)
theorem dX0_add_1 : decode cX0_add 1 = .ok (.getfield 29, 3) := dk_180 0 29 (dk_at dksX0_add_0 1 rfl rfl)
theorem dX0_add_4 : decode cX0_add 4 = .ok (.bipush 96, 2) := dk_16 96 (dk_at dksX0_add_0 4 rfl rfl)
theorem dX0_add_6 : decode cX0_add 6 = .ok (.if_icmp .lt 5, 3) := dk_161 0 5 (dk_at dksX0_add_0 6 rfl rfl)
theorem dX0_add_9 : decode cX0_add 9 = .ok (.iconst 0, 1) := dk_3 (dk_at dksX0_add_0 9 rfl rfl)
theorem dX0_add_10 : decode cX0_add 10 = .ok (.ireturn, 1) := dk_172 (dk_at dksX0_add_0 10 rfl rfl)
theorem dX0_add_11 : decode cX0_add 11 = .ok (.aload_n 0, 1) := dk_42 (dk_at dksX0_add_0 11 rfl rfl)
theorem dX0_add_12 : decode cX0_add 12 = .ok (.dup, 1) := dk_89 (dk_at dksX0_add_0 12 rfl rfl)
theorem dX0_add_13 : decode cX0_add 13 = .ok (.getfield 29, 3) := dk_180 0 29 (dk_at dksX0_add_0 13 rfl rfl)
theorem dX0_add_16 : decode cX0_add 16 = .ok (.iconst 1, 1) := dk_4 (dk_at dksX0_add_0 16 rfl rfl)
theorem dX0_add_17 : decode cX0_add 17 = .ok (.iadd, 1) := dk_96 (dk_at dksX0_add_0 17 rfl rfl)
theorem dX0_add_18 : decode cX0_add 18 = .ok (.putfield 29, 3) := dk_181 0 29 (dk_at dksX0_add_0 18 rfl rfl)
theorem dX0_add_21 : decode cX0_add 21 = .ok (.aload_n 0, 1) := dk_42 (dk_at dksX0_add_0 21 rfl rfl)
theorem dX0_add_22 : decode cX0_add 22 = .ok (.getfield 13, 3) := dk_180 0 13 (dk_at dksX0_add_1 0 rfl rfl)
theorem dX0_add_25 : decode cX0_add 25 = .ok (.iload_n 1, 1) := dk_27 (dk_at dksX0_add_1 3 rfl rfl)
theorem dX0_add_26 : decode cX0_add 26 = .ok (.iload_n 2, 1) := dk_28 (dk_at dksX0_add_1 4 rfl rfl)
theorem dX0_add_27 : decode cX0_add 27 = .ok (.invokestatic 33, 3) := dk_184 0 33 (dk_at dksX0_add_1 5 rfl rfl)
theorem dX0_add_30 : decode cX0_add 30 = .ok (.invokevirtual 36, 3) := dk_182 0 36 (dk_at dksX0_add_1 8 rfl rfl)
theorem dX0_add_33 : decode cX0_add 33 = .ok (.pop, 1) := dk_87 (dk_at dksX0_add_1 11 rfl rfl)
theorem dX0_add_34 : decode cX0_add 34 = .ok (.iconst 1, 1) := dk_4 (dk_at dksX0_add_1 12 rfl rfl)
theorem dX0_add_35 : decode cX0_add 35 = .ok (.ireturn, 1) := dk_172 (dk_at dksX0_add_1 13 rfl rfl)
abbrev cX0_of : ByteArray := prog_1_method_2_code
def yX0_of : MethodName := ⟨RX0, "of", "(II)J"⟩
def dkwX0_of_0 : List UInt8 := [26, 133, 16, 32, 121, 27, 133, 20, 0, 27, 127, 129, 173]
abbrev dktX0_of_0 : List UInt8 := dkwX0_of_0 ++ []
theorem dksX0_of_0 : cX0_of.data.toList.drop 0 = dktX0_of_0 := by decide +kernel
theorem dX0_of_0 : decode cX0_of 0 = .ok (.iload_n 0, 1) := dk_26 (dk_at dksX0_of_0 0 rfl rfl)
theorem dX0_of_1 : decode cX0_of 1 = .ok (.i2l, 1) := dk_133 (dk_at dksX0_of_0 1 rfl rfl)
theorem dX0_of_2 : decode cX0_of 2 = .ok (.bipush 32, 2) := dk_16 32 (dk_at dksX0_of_0 2 rfl rfl)
theorem dX0_of_4 : decode cX0_of 4 = .ok (.lshl, 1) := dk_121 (dk_at dksX0_of_0 4 rfl rfl)
theorem dX0_of_5 : decode cX0_of 5 = .ok (.iload_n 1, 1) := dk_27 (dk_at dksX0_of_0 5 rfl rfl)
theorem dX0_of_6 : decode cX0_of 6 = .ok (.i2l, 1) := dk_133 (dk_at dksX0_of_0 6 rfl rfl)
theorem dX0_of_7 : decode cX0_of 7 = .ok (.ldc2_w 27, 3) := dk_20 0 27 (dk_at dksX0_of_0 7 rfl rfl)
theorem dX0_of_10 : decode cX0_of 10 = .ok (.land, 1) := dk_127 (dk_at dksX0_of_0 10 rfl rfl)
theorem dX0_of_11 : decode cX0_of 11 = .ok (.lor, 1) := dk_129 (dk_at dksX0_of_0 11 rfl rfl)
theorem dX0_of_12 : decode cX0_of 12 = .ok (.lreturn, 1) := dk_173 (dk_at dksX0_of_0 12 rfl rfl)
abbrev cX0_addRow : ByteArray := prog_1_method_4_code
def yX0_addRow : MethodName := ⟨RX0, "addRow", "(I)Z"⟩
def dkwX0_addRow_2 : List UInt8 := [182, 0, 46, 87, 4, 172]
abbrev dktX0_addRow_2 : List UInt8 := dkwX0_addRow_2 ++ []
def dkwX0_addRow_1 : List UInt8 := [172, 42, 89, 180, 0, 29, 28, 96, 181, 0, 29, 42, 180, 0, 13, 42, 180, 0, 19, 27, 6, 126, 50]
abbrev dktX0_addRow_1 : List UInt8 := dkwX0_addRow_1 ++ dktX0_addRow_2
def dkwX0_addRow_0 : List UInt8 := [42, 180, 0, 19, 27, 6, 126, 50, 182, 0, 42, 61, 42, 180, 0, 29, 28, 96, 16, 96, 164, 0, 5, 3]
abbrev dktX0_addRow_0 : List UInt8 := dkwX0_addRow_0 ++ dktX0_addRow_1
theorem dksX0_addRow_0 : cX0_addRow.data.toList.drop 0 = dktX0_addRow_0 := by decide +kernel
theorem dksX0_addRow_1 : cX0_addRow.data.toList.drop 24 = dktX0_addRow_1 := dk_seg dksX0_addRow_0 24 rfl rfl
theorem dksX0_addRow_2 : cX0_addRow.data.toList.drop 47 = dktX0_addRow_2 := dk_seg dksX0_addRow_1 23 rfl rfl
theorem dX0_addRow_0 : decode cX0_addRow 0 = .ok (.aload_n 0, 1) := dk_42 (dk_at dksX0_addRow_0 0 rfl rfl)
theorem dX0_addRow_1 : decode cX0_addRow 1 = .ok (.getfield 19, 3) := dk_180 0 19 (dk_at dksX0_addRow_0 1 rfl rfl)
theorem dX0_addRow_4 : decode cX0_addRow 4 = .ok (.iload_n 1, 1) := dk_27 (dk_at dksX0_addRow_0 4 rfl rfl)
theorem dX0_addRow_5 : decode cX0_addRow 5 = .ok (.iconst 3, 1) := dk_6 (dk_at dksX0_addRow_0 5 rfl rfl)
theorem dX0_addRow_6 : decode cX0_addRow 6 = .ok (.iand, 1) := dk_126 (dk_at dksX0_addRow_0 6 rfl rfl)
theorem dX0_addRow_7 : decode cX0_addRow 7 = .ok (.aaload, 1) := dk_50 (dk_at dksX0_addRow_0 7 rfl rfl)
theorem dX0_addRow_8 : decode cX0_addRow 8 = .ok (.invokevirtual 42, 3) := dk_182 0 42 (dk_at dksX0_addRow_0 8 rfl rfl)
theorem dX0_addRow_11 : decode cX0_addRow 11 = .ok (.istore_n 2, 1) := dk_61 (dk_at dksX0_addRow_0 11 rfl rfl)
theorem dX0_addRow_12 : decode cX0_addRow 12 = .ok (.aload_n 0, 1) := dk_42 (dk_at dksX0_addRow_0 12 rfl rfl)
theorem dX0_addRow_13 : decode cX0_addRow 13 = .ok (.getfield 29, 3) := dk_180 0 29 (dk_at dksX0_addRow_0 13 rfl rfl)
theorem dX0_addRow_16 : decode cX0_addRow 16 = .ok (.iload_n 2, 1) := dk_28 (dk_at dksX0_addRow_0 16 rfl rfl)
theorem dX0_addRow_17 : decode cX0_addRow 17 = .ok (.iadd, 1) := dk_96 (dk_at dksX0_addRow_0 17 rfl rfl)
theorem dX0_addRow_18 : decode cX0_addRow 18 = .ok (.bipush 96, 2) := dk_16 96 (dk_at dksX0_addRow_0 18 rfl rfl)
theorem dX0_addRow_20 : decode cX0_addRow 20 = .ok (.if_icmp .le 5, 3) := dk_164 0 5 (dk_at dksX0_addRow_0 20 rfl rfl)
theorem dX0_addRow_23 : decode cX0_addRow 23 = .ok (.iconst 0, 1) := dk_3 (dk_at dksX0_addRow_0 23 rfl rfl)
theorem dX0_addRow_24 : decode cX0_addRow 24 = .ok (.ireturn, 1) := dk_172 (dk_at dksX0_addRow_1 0 rfl rfl)
theorem dX0_addRow_25 : decode cX0_addRow 25 = .ok (.aload_n 0, 1) := dk_42 (dk_at dksX0_addRow_1 1 rfl rfl)
theorem dX0_addRow_26 : decode cX0_addRow 26 = .ok (.dup, 1) := dk_89 (dk_at dksX0_addRow_1 2 rfl rfl)
theorem dX0_addRow_27 : decode cX0_addRow 27 = .ok (.getfield 29, 3) := dk_180 0 29 (dk_at dksX0_addRow_1 3 rfl rfl)
theorem dX0_addRow_30 : decode cX0_addRow 30 = .ok (.iload_n 2, 1) := dk_28 (dk_at dksX0_addRow_1 6 rfl rfl)
theorem dX0_addRow_31 : decode cX0_addRow 31 = .ok (.iadd, 1) := dk_96 (dk_at dksX0_addRow_1 7 rfl rfl)
theorem dX0_addRow_32 : decode cX0_addRow 32 = .ok (.putfield 29, 3) := dk_181 0 29 (dk_at dksX0_addRow_1 8 rfl rfl)
theorem dX0_addRow_35 : decode cX0_addRow 35 = .ok (.aload_n 0, 1) := dk_42 (dk_at dksX0_addRow_1 11 rfl rfl)
theorem dX0_addRow_36 : decode cX0_addRow 36 = .ok (.getfield 13, 3) := dk_180 0 13 (dk_at dksX0_addRow_1 12 rfl rfl)
theorem dX0_addRow_39 : decode cX0_addRow 39 = .ok (.aload_n 0, 1) := dk_42 (dk_at dksX0_addRow_1 15 rfl rfl)
theorem dX0_addRow_40 : decode cX0_addRow 40 = .ok (.getfield 19, 3) := dk_180 0 19 (dk_at dksX0_addRow_1 16 rfl rfl)
theorem dX0_addRow_43 : decode cX0_addRow 43 = .ok (.iload_n 1, 1) := dk_27 (dk_at dksX0_addRow_1 19 rfl rfl)
theorem dX0_addRow_44 : decode cX0_addRow 44 = .ok (.iconst 3, 1) := dk_6 (dk_at dksX0_addRow_1 20 rfl rfl)
theorem dX0_addRow_45 : decode cX0_addRow 45 = .ok (.iand, 1) := dk_126 (dk_at dksX0_addRow_1 21 rfl rfl)
theorem dX0_addRow_46 : decode cX0_addRow 46 = .ok (.aaload, 1) := dk_50 (dk_at dksX0_addRow_1 22 rfl rfl)
theorem dX0_addRow_47 : decode cX0_addRow 47 = .ok (.invokevirtual 46, 3) := dk_182 0 46 (dk_at dksX0_addRow_2 0 rfl rfl)
theorem dX0_addRow_50 : decode cX0_addRow 50 = .ok (.pop, 1) := dk_87 (dk_at dksX0_addRow_2 3 rfl rfl)
theorem dX0_addRow_51 : decode cX0_addRow 51 = .ok (.iconst 1, 1) := dk_4 (dk_at dksX0_addRow_2 4 rfl rfl)
theorem dX0_addRow_52 : decode cX0_addRow 52 = .ok (.ireturn, 1) := dk_172 (dk_at dksX0_addRow_2 5 rfl rfl)
abbrev cX0_build : ByteArray := prog_1_method_5_code
def yX0_build : MethodName := ⟨RX0, "build", "(I)I"⟩
def dkwX0_build_1 : List UInt8 := [182, 0, 42, 172]
abbrev dktX0_build_1 : List UInt8 := dkwX0_build_1 ++ []
def dkwX0_build_0 : List UInt8 := [42, 180, 0, 19, 27, 6, 126, 42, 180, 0, 13, 182, 0, 50, 83, 42, 180, 0, 19, 27, 6, 126, 50]
abbrev dktX0_build_0 : List UInt8 := dkwX0_build_0 ++ dktX0_build_1
theorem dksX0_build_0 : cX0_build.data.toList.drop 0 = dktX0_build_0 := by decide +kernel
theorem dksX0_build_1 : cX0_build.data.toList.drop 23 = dktX0_build_1 := dk_seg dksX0_build_0 23 rfl rfl
theorem dX0_build_0 : decode cX0_build 0 = .ok (.aload_n 0, 1) := dk_42 (dk_at dksX0_build_0 0 rfl rfl)
theorem dX0_build_1 : decode cX0_build 1 = .ok (.getfield 19, 3) := dk_180 0 19 (dk_at dksX0_build_0 1 rfl rfl)
theorem dX0_build_4 : decode cX0_build 4 = .ok (.iload_n 1, 1) := dk_27 (dk_at dksX0_build_0 4 rfl rfl)
theorem dX0_build_5 : decode cX0_build 5 = .ok (.iconst 3, 1) := dk_6 (dk_at dksX0_build_0 5 rfl rfl)
theorem dX0_build_6 : decode cX0_build 6 = .ok (.iand, 1) := dk_126 (dk_at dksX0_build_0 6 rfl rfl)
theorem dX0_build_7 : decode cX0_build 7 = .ok (.aload_n 0, 1) := dk_42 (dk_at dksX0_build_0 7 rfl rfl)
theorem dX0_build_8 : decode cX0_build 8 = .ok (.getfield 13, 3) := dk_180 0 13 (dk_at dksX0_build_0 8 rfl rfl)
theorem dX0_build_11 : decode cX0_build 11 = .ok (.invokevirtual 50, 3) := dk_182 0 50 (dk_at dksX0_build_0 11 rfl rfl)
theorem dX0_build_14 : decode cX0_build 14 = .ok (.aastore, 1) := dk_83 (dk_at dksX0_build_0 14 rfl rfl)
theorem dX0_build_15 : decode cX0_build 15 = .ok (.aload_n 0, 1) := dk_42 (dk_at dksX0_build_0 15 rfl rfl)
theorem dX0_build_16 : decode cX0_build 16 = .ok (.getfield 19, 3) := dk_180 0 19 (dk_at dksX0_build_0 16 rfl rfl)
theorem dX0_build_19 : decode cX0_build 19 = .ok (.iload_n 1, 1) := dk_27 (dk_at dksX0_build_0 19 rfl rfl)
theorem dX0_build_20 : decode cX0_build 20 = .ok (.iconst 3, 1) := dk_6 (dk_at dksX0_build_0 20 rfl rfl)
theorem dX0_build_21 : decode cX0_build 21 = .ok (.iand, 1) := dk_126 (dk_at dksX0_build_0 21 rfl rfl)
theorem dX0_build_22 : decode cX0_build 22 = .ok (.aaload, 1) := dk_50 (dk_at dksX0_build_0 22 rfl rfl)
theorem dX0_build_23 : decode cX0_build 23 = .ok (.invokevirtual 42, 3) := dk_182 0 42 (dk_at dksX0_build_1 0 rfl rfl)
theorem dX0_build_26 : decode cX0_build 26 = .ok (.ireturn, 1) := dk_172 (dk_at dksX0_build_1 3 rfl rfl)
abbrev cX0_anew : ByteArray := prog_1_method_6_code
def yX0_anew : MethodName := ⟨RX0, "anew", "(I)V"⟩
def dkwX0_anew_0 : List UInt8 := [42, 27, 16, 31, 126, 184, 0, 7, 181, 0, 13, 42, 3, 181, 0, 29, 177]
abbrev dktX0_anew_0 : List UInt8 := dkwX0_anew_0 ++ []
theorem dksX0_anew_0 : cX0_anew.data.toList.drop 0 = dktX0_anew_0 := by decide +kernel
theorem dX0_anew_0 : decode cX0_anew 0 = .ok (.aload_n 0, 1) := dk_42 (dk_at dksX0_anew_0 0 rfl rfl)
theorem dX0_anew_1 : decode cX0_anew 1 = .ok (.iload_n 1, 1) := dk_27 (dk_at dksX0_anew_0 1 rfl rfl)
theorem dX0_anew_2 : decode cX0_anew 2 = .ok (.bipush 31, 2) := dk_16 31 (dk_at dksX0_anew_0 2 rfl rfl)
theorem dX0_anew_4 : decode cX0_anew 4 = .ok (.iand, 1) := dk_126 (dk_at dksX0_anew_0 4 rfl rfl)
theorem dX0_anew_5 : decode cX0_anew 5 = .ok (.invokestatic 7, 3) := dk_184 0 7 (dk_at dksX0_anew_0 5 rfl rfl)
theorem dX0_anew_8 : decode cX0_anew 8 = .ok (.putfield 13, 3) := dk_181 0 13 (dk_at dksX0_anew_0 8 rfl rfl)
theorem dX0_anew_11 : decode cX0_anew 11 = .ok (.aload_n 0, 1) := dk_42 (dk_at dksX0_anew_0 11 rfl rfl)
theorem dX0_anew_12 : decode cX0_anew 12 = .ok (.iconst 0, 1) := dk_3 (dk_at dksX0_anew_0 12 rfl rfl)
theorem dX0_anew_13 : decode cX0_anew 13 = .ok (.putfield 29, 3) := dk_181 0 29 (dk_at dksX0_anew_0 13 rfl rfl)
theorem dX0_anew_16 : decode cX0_anew 16 = .ok (.return_, 1) := dk_177 (dk_at dksX0_anew_0 16 rfl rfl)
abbrev cX0_part : ByteArray := prog_1_method_7_code
def yX0_part : MethodName := ⟨RX0, "part", "(IIII)I"⟩
def dkwX0_part_2 : List UInt8 := [126, 25, 5, 21, 6, 21, 6, 21, 7, 96, 182, 0, 55, 83, 21, 7, 172]
abbrev dktX0_part_2 : List UInt8 := dkwX0_part_2 ++ []
def dkwX0_part_1 : List UInt8 := [21, 4, 18, 54, 126, 25, 5, 182, 0, 42, 21, 6, 100, 4, 96, 112, 54, 7, 42, 180, 0, 19, 27, 6]
abbrev dktX0_part_1 : List UInt8 := dkwX0_part_1 ++ dktX0_part_2
def dkwX0_part_0 : List UInt8 := [42, 180, 0, 19, 28, 6, 126, 50, 58, 5, 29, 18, 54, 126, 25, 5, 182, 0, 42, 4, 96, 112, 54, 6]
abbrev dktX0_part_0 : List UInt8 := dkwX0_part_0 ++ dktX0_part_1
theorem dksX0_part_0 : cX0_part.data.toList.drop 0 = dktX0_part_0 := by decide +kernel
theorem dksX0_part_1 : cX0_part.data.toList.drop 24 = dktX0_part_1 := dk_seg dksX0_part_0 24 rfl rfl
theorem dksX0_part_2 : cX0_part.data.toList.drop 48 = dktX0_part_2 := dk_seg dksX0_part_1 24 rfl rfl
theorem dX0_part_0 : decode cX0_part 0 = .ok (.aload_n 0, 1) := dk_42 (dk_at dksX0_part_0 0 rfl rfl)
theorem dX0_part_1 : decode cX0_part 1 = .ok (.getfield 19, 3) := dk_180 0 19 (dk_at dksX0_part_0 1 rfl rfl)
theorem dX0_part_4 : decode cX0_part 4 = .ok (.iload_n 2, 1) := dk_28 (dk_at dksX0_part_0 4 rfl rfl)
theorem dX0_part_5 : decode cX0_part 5 = .ok (.iconst 3, 1) := dk_6 (dk_at dksX0_part_0 5 rfl rfl)
theorem dX0_part_6 : decode cX0_part 6 = .ok (.iand, 1) := dk_126 (dk_at dksX0_part_0 6 rfl rfl)
theorem dX0_part_7 : decode cX0_part 7 = .ok (.aaload, 1) := dk_50 (dk_at dksX0_part_0 7 rfl rfl)
theorem dX0_part_8 : decode cX0_part 8 = .ok (.astore 5, 2) := dk_58 5 (dk_at dksX0_part_0 8 rfl rfl)
theorem dX0_part_10 : decode cX0_part 10 = .ok (.iload_n 3, 1) := dk_29 (dk_at dksX0_part_0 10 rfl rfl)
theorem dX0_part_11 : decode cX0_part 11 = .ok (.ldc 54, 2) := dk_18 54 (dk_at dksX0_part_0 11 rfl rfl)
theorem dX0_part_13 : decode cX0_part 13 = .ok (.iand, 1) := dk_126 (dk_at dksX0_part_0 13 rfl rfl)
theorem dX0_part_14 : decode cX0_part 14 = .ok (.aload 5, 2) := dk_25 5 (dk_at dksX0_part_0 14 rfl rfl)
theorem dX0_part_16 : decode cX0_part 16 = .ok (.invokevirtual 42, 3) := dk_182 0 42 (dk_at dksX0_part_0 16 rfl rfl)
theorem dX0_part_19 : decode cX0_part 19 = .ok (.iconst 1, 1) := dk_4 (dk_at dksX0_part_0 19 rfl rfl)
theorem dX0_part_20 : decode cX0_part 20 = .ok (.iadd, 1) := dk_96 (dk_at dksX0_part_0 20 rfl rfl)
theorem dX0_part_21 : decode cX0_part 21 = .ok (.irem, 1) := dk_112 (dk_at dksX0_part_0 21 rfl rfl)
theorem dX0_part_22 : decode cX0_part 22 = .ok (.istore 6, 2) := dk_54 6 (dk_at dksX0_part_0 22 rfl rfl)
theorem dX0_part_24 : decode cX0_part 24 = .ok (.iload 4, 2) := dk_21 4 (dk_at dksX0_part_1 0 rfl rfl)
theorem dX0_part_26 : decode cX0_part 26 = .ok (.ldc 54, 2) := dk_18 54 (dk_at dksX0_part_1 2 rfl rfl)
theorem dX0_part_28 : decode cX0_part 28 = .ok (.iand, 1) := dk_126 (dk_at dksX0_part_1 4 rfl rfl)
theorem dX0_part_29 : decode cX0_part 29 = .ok (.aload 5, 2) := dk_25 5 (dk_at dksX0_part_1 5 rfl rfl)
theorem dX0_part_31 : decode cX0_part 31 = .ok (.invokevirtual 42, 3) := dk_182 0 42 (dk_at dksX0_part_1 7 rfl rfl)
theorem dX0_part_34 : decode cX0_part 34 = .ok (.iload 6, 2) := dk_21 6 (dk_at dksX0_part_1 10 rfl rfl)
theorem dX0_part_36 : decode cX0_part 36 = .ok (.isub, 1) := dk_100 (dk_at dksX0_part_1 12 rfl rfl)
theorem dX0_part_37 : decode cX0_part 37 = .ok (.iconst 1, 1) := dk_4 (dk_at dksX0_part_1 13 rfl rfl)
theorem dX0_part_38 : decode cX0_part 38 = .ok (.iadd, 1) := dk_96 (dk_at dksX0_part_1 14 rfl rfl)
theorem dX0_part_39 : decode cX0_part 39 = .ok (.irem, 1) := dk_112 (dk_at dksX0_part_1 15 rfl rfl)
theorem dX0_part_40 : decode cX0_part 40 = .ok (.istore 7, 2) := dk_54 7 (dk_at dksX0_part_1 16 rfl rfl)
theorem dX0_part_42 : decode cX0_part 42 = .ok (.aload_n 0, 1) := dk_42 (dk_at dksX0_part_1 18 rfl rfl)
theorem dX0_part_43 : decode cX0_part 43 = .ok (.getfield 19, 3) := dk_180 0 19 (dk_at dksX0_part_1 19 rfl rfl)
theorem dX0_part_46 : decode cX0_part 46 = .ok (.iload_n 1, 1) := dk_27 (dk_at dksX0_part_1 22 rfl rfl)
theorem dX0_part_47 : decode cX0_part 47 = .ok (.iconst 3, 1) := dk_6 (dk_at dksX0_part_1 23 rfl rfl)
theorem dX0_part_48 : decode cX0_part 48 = .ok (.iand, 1) := dk_126 (dk_at dksX0_part_2 0 rfl rfl)
theorem dX0_part_49 : decode cX0_part 49 = .ok (.aload 5, 2) := dk_25 5 (dk_at dksX0_part_2 1 rfl rfl)
theorem dX0_part_51 : decode cX0_part 51 = .ok (.iload 6, 2) := dk_21 6 (dk_at dksX0_part_2 3 rfl rfl)
theorem dX0_part_53 : decode cX0_part 53 = .ok (.iload 6, 2) := dk_21 6 (dk_at dksX0_part_2 5 rfl rfl)
theorem dX0_part_55 : decode cX0_part 55 = .ok (.iload 7, 2) := dk_21 7 (dk_at dksX0_part_2 7 rfl rfl)
theorem dX0_part_57 : decode cX0_part 57 = .ok (.iadd, 1) := dk_96 (dk_at dksX0_part_2 9 rfl rfl)
theorem dX0_part_58 : decode cX0_part 58 = .ok (.invokevirtual 55, 3) := dk_182 0 55 (dk_at dksX0_part_2 10 rfl rfl)
theorem dX0_part_61 : decode cX0_part 61 = .ok (.aastore, 1) := dk_83 (dk_at dksX0_part_2 13 rfl rfl)
theorem dX0_part_62 : decode cX0_part 62 = .ok (.iload 7, 2) := dk_21 7 (dk_at dksX0_part_2 14 rfl rfl)
theorem dX0_part_64 : decode cX0_part 64 = .ok (.ireturn, 1) := dk_172 (dk_at dksX0_part_2 16 rfl rfl)
abbrev cX0_trim : ByteArray := prog_1_method_8_code
def yX0_trim : MethodName := ⟨RX0, "trim", "(I)V"⟩
def dkwX0_trim_0 : List UInt8 := [42, 180, 0, 19, 27, 6, 126, 42, 180, 0, 19, 27, 6, 126, 50, 182, 0, 59, 83, 177]
abbrev dktX0_trim_0 : List UInt8 := dkwX0_trim_0 ++ []
theorem dksX0_trim_0 : cX0_trim.data.toList.drop 0 = dktX0_trim_0 := by decide +kernel
theorem dX0_trim_0 : decode cX0_trim 0 = .ok (.aload_n 0, 1) := dk_42 (dk_at dksX0_trim_0 0 rfl rfl)
theorem dX0_trim_1 : decode cX0_trim 1 = .ok (.getfield 19, 3) := dk_180 0 19 (dk_at dksX0_trim_0 1 rfl rfl)
theorem dX0_trim_4 : decode cX0_trim 4 = .ok (.iload_n 1, 1) := dk_27 (dk_at dksX0_trim_0 4 rfl rfl)
theorem dX0_trim_5 : decode cX0_trim 5 = .ok (.iconst 3, 1) := dk_6 (dk_at dksX0_trim_0 5 rfl rfl)
theorem dX0_trim_6 : decode cX0_trim 6 = .ok (.iand, 1) := dk_126 (dk_at dksX0_trim_0 6 rfl rfl)
theorem dX0_trim_7 : decode cX0_trim 7 = .ok (.aload_n 0, 1) := dk_42 (dk_at dksX0_trim_0 7 rfl rfl)
theorem dX0_trim_8 : decode cX0_trim 8 = .ok (.getfield 19, 3) := dk_180 0 19 (dk_at dksX0_trim_0 8 rfl rfl)
theorem dX0_trim_11 : decode cX0_trim 11 = .ok (.iload_n 1, 1) := dk_27 (dk_at dksX0_trim_0 11 rfl rfl)
theorem dX0_trim_12 : decode cX0_trim 12 = .ok (.iconst 3, 1) := dk_6 (dk_at dksX0_trim_0 12 rfl rfl)
theorem dX0_trim_13 : decode cX0_trim 13 = .ok (.iand, 1) := dk_126 (dk_at dksX0_trim_0 13 rfl rfl)
theorem dX0_trim_14 : decode cX0_trim 14 = .ok (.aaload, 1) := dk_50 (dk_at dksX0_trim_0 14 rfl rfl)
theorem dX0_trim_15 : decode cX0_trim 15 = .ok (.invokevirtual 59, 3) := dk_182 0 59 (dk_at dksX0_trim_0 15 rfl rfl)
theorem dX0_trim_18 : decode cX0_trim 18 = .ok (.aastore, 1) := dk_83 (dk_at dksX0_trim_0 18 rfl rfl)
theorem dX0_trim_19 : decode cX0_trim 19 = .ok (.return_, 1) := dk_177 (dk_at dksX0_trim_0 19 rfl rfl)
abbrev cX0_get : ByteArray := prog_1_method_9_code
def yX0_get : MethodName := ⟨RX0, "get", "(II)J"⟩
def dkwX0_get_1 : List UInt8 := [126, 45, 182, 0, 42, 112, 182, 0, 66, 173]
abbrev dktX0_get_1 : List UInt8 := dkwX0_get_1 ++ []
def dkwX0_get_0 : List UInt8 := [42, 180, 0, 19, 27, 6, 126, 50, 78, 45, 182, 0, 62, 153, 0, 7, 9, 167, 0, 16, 45, 28, 18, 54]
abbrev dktX0_get_0 : List UInt8 := dkwX0_get_0 ++ dktX0_get_1
theorem dksX0_get_0 : cX0_get.data.toList.drop 0 = dktX0_get_0 := by decide +kernel
theorem dksX0_get_1 : cX0_get.data.toList.drop 24 = dktX0_get_1 := dk_seg dksX0_get_0 24 rfl rfl
theorem dX0_get_0 : decode cX0_get 0 = .ok (.aload_n 0, 1) := dk_42 (dk_at dksX0_get_0 0 rfl rfl)
theorem dX0_get_1 : decode cX0_get 1 = .ok (.getfield 19, 3) := dk_180 0 19 (dk_at dksX0_get_0 1 rfl rfl)
theorem dX0_get_4 : decode cX0_get 4 = .ok (.iload_n 1, 1) := dk_27 (dk_at dksX0_get_0 4 rfl rfl)
theorem dX0_get_5 : decode cX0_get 5 = .ok (.iconst 3, 1) := dk_6 (dk_at dksX0_get_0 5 rfl rfl)
theorem dX0_get_6 : decode cX0_get 6 = .ok (.iand, 1) := dk_126 (dk_at dksX0_get_0 6 rfl rfl)
theorem dX0_get_7 : decode cX0_get 7 = .ok (.aaload, 1) := dk_50 (dk_at dksX0_get_0 7 rfl rfl)
theorem dX0_get_8 : decode cX0_get 8 = .ok (.astore_n 3, 1) := dk_78 (dk_at dksX0_get_0 8 rfl rfl)
theorem dX0_get_9 : decode cX0_get 9 = .ok (.aload_n 3, 1) := dk_45 (dk_at dksX0_get_0 9 rfl rfl)
theorem dX0_get_10 : decode cX0_get 10 = .ok (.invokevirtual 62, 3) := dk_182 0 62 (dk_at dksX0_get_0 10 rfl rfl)
theorem dX0_get_13 : decode cX0_get 13 = .ok (.ifCond .eq 7, 3) := dk_153 0 7 (dk_at dksX0_get_0 13 rfl rfl)
theorem dX0_get_16 : decode cX0_get 16 = .ok (.lconst 0, 1) := dk_9 (dk_at dksX0_get_0 16 rfl rfl)
theorem dX0_get_17 : decode cX0_get 17 = .ok (.goto 16, 3) := dk_167 0 16 (dk_at dksX0_get_0 17 rfl rfl)
theorem dX0_get_20 : decode cX0_get 20 = .ok (.aload_n 3, 1) := dk_45 (dk_at dksX0_get_0 20 rfl rfl)
theorem dX0_get_21 : decode cX0_get 21 = .ok (.iload_n 2, 1) := dk_28 (dk_at dksX0_get_0 21 rfl rfl)
theorem dX0_get_22 : decode cX0_get 22 = .ok (.ldc 54, 2) := dk_18 54 (dk_at dksX0_get_0 22 rfl rfl)
theorem dX0_get_24 : decode cX0_get 24 = .ok (.iand, 1) := dk_126 (dk_at dksX0_get_1 0 rfl rfl)
theorem dX0_get_25 : decode cX0_get 25 = .ok (.aload_n 3, 1) := dk_45 (dk_at dksX0_get_1 1 rfl rfl)
theorem dX0_get_26 : decode cX0_get 26 = .ok (.invokevirtual 42, 3) := dk_182 0 42 (dk_at dksX0_get_1 2 rfl rfl)
theorem dX0_get_29 : decode cX0_get 29 = .ok (.irem, 1) := dk_112 (dk_at dksX0_get_1 5 rfl rfl)
theorem dX0_get_30 : decode cX0_get 30 = .ok (.invokevirtual 66, 3) := dk_182 0 66 (dk_at dksX0_get_1 6 rfl rfl)
theorem dX0_get_33 : decode cX0_get 33 = .ok (.lreturn, 1) := dk_173 (dk_at dksX0_get_1 9 rfl rfl)
abbrev cX0_first : ByteArray := prog_1_method_10_code
def yX0_first : MethodName := ⟨RX0, "first", "(III)I"⟩
def dkwX0_first_0 : List UInt8 := [42, 180, 0, 19, 27, 6, 126, 50, 28, 29, 184, 0, 33, 182, 0, 70, 172]
abbrev dktX0_first_0 : List UInt8 := dkwX0_first_0 ++ []
theorem dksX0_first_0 : cX0_first.data.toList.drop 0 = dktX0_first_0 := by decide +kernel
theorem dX0_first_0 : decode cX0_first 0 = .ok (.aload_n 0, 1) := dk_42 (dk_at dksX0_first_0 0 rfl rfl)
theorem dX0_first_1 : decode cX0_first 1 = .ok (.getfield 19, 3) := dk_180 0 19 (dk_at dksX0_first_0 1 rfl rfl)
theorem dX0_first_4 : decode cX0_first 4 = .ok (.iload_n 1, 1) := dk_27 (dk_at dksX0_first_0 4 rfl rfl)
theorem dX0_first_5 : decode cX0_first 5 = .ok (.iconst 3, 1) := dk_6 (dk_at dksX0_first_0 5 rfl rfl)
theorem dX0_first_6 : decode cX0_first 6 = .ok (.iand, 1) := dk_126 (dk_at dksX0_first_0 6 rfl rfl)
theorem dX0_first_7 : decode cX0_first 7 = .ok (.aaload, 1) := dk_50 (dk_at dksX0_first_0 7 rfl rfl)
theorem dX0_first_8 : decode cX0_first 8 = .ok (.iload_n 2, 1) := dk_28 (dk_at dksX0_first_0 8 rfl rfl)
theorem dX0_first_9 : decode cX0_first 9 = .ok (.iload_n 3, 1) := dk_29 (dk_at dksX0_first_0 9 rfl rfl)
theorem dX0_first_10 : decode cX0_first 10 = .ok (.invokestatic 33, 3) := dk_184 0 33 (dk_at dksX0_first_0 10 rfl rfl)
theorem dX0_first_13 : decode cX0_first 13 = .ok (.invokevirtual 70, 3) := dk_182 0 70 (dk_at dksX0_first_0 13 rfl rfl)
theorem dX0_first_16 : decode cX0_first 16 = .ok (.ireturn, 1) := dk_172 (dk_at dksX0_first_0 16 rfl rfl)
abbrev cX0_last : ByteArray := prog_1_method_11_code
def yX0_last : MethodName := ⟨RX0, "last", "(III)I"⟩
def dkwX0_last_0 : List UInt8 := [42, 180, 0, 19, 27, 6, 126, 50, 28, 29, 184, 0, 33, 182, 0, 74, 172]
abbrev dktX0_last_0 : List UInt8 := dkwX0_last_0 ++ []
theorem dksX0_last_0 : cX0_last.data.toList.drop 0 = dktX0_last_0 := by decide +kernel
theorem dX0_last_0 : decode cX0_last 0 = .ok (.aload_n 0, 1) := dk_42 (dk_at dksX0_last_0 0 rfl rfl)
theorem dX0_last_1 : decode cX0_last 1 = .ok (.getfield 19, 3) := dk_180 0 19 (dk_at dksX0_last_0 1 rfl rfl)
theorem dX0_last_4 : decode cX0_last 4 = .ok (.iload_n 1, 1) := dk_27 (dk_at dksX0_last_0 4 rfl rfl)
theorem dX0_last_5 : decode cX0_last 5 = .ok (.iconst 3, 1) := dk_6 (dk_at dksX0_last_0 5 rfl rfl)
theorem dX0_last_6 : decode cX0_last 6 = .ok (.iand, 1) := dk_126 (dk_at dksX0_last_0 6 rfl rfl)
theorem dX0_last_7 : decode cX0_last 7 = .ok (.aaload, 1) := dk_50 (dk_at dksX0_last_0 7 rfl rfl)
theorem dX0_last_8 : decode cX0_last 8 = .ok (.iload_n 2, 1) := dk_28 (dk_at dksX0_last_0 8 rfl rfl)
theorem dX0_last_9 : decode cX0_last 9 = .ok (.iload_n 3, 1) := dk_29 (dk_at dksX0_last_0 9 rfl rfl)
theorem dX0_last_10 : decode cX0_last 10 = .ok (.invokestatic 33, 3) := dk_184 0 33 (dk_at dksX0_last_0 10 rfl rfl)
theorem dX0_last_13 : decode cX0_last 13 = .ok (.invokevirtual 74, 3) := dk_182 0 74 (dk_at dksX0_last_0 13 rfl rfl)
theorem dX0_last_16 : decode cX0_last 16 = .ok (.ireturn, 1) := dk_172 (dk_at dksX0_last_0 16 rfl rfl)
abbrev cX0_holds : ByteArray := prog_1_method_12_code
def yX0_holds : MethodName := ⟨RX0, "holds", "(III)Z"⟩
def dkwX0_holds_0 : List UInt8 := [42, 180, 0, 19, 27, 6, 126, 50, 28, 29, 184, 0, 33, 182, 0, 77, 172]
abbrev dktX0_holds_0 : List UInt8 := dkwX0_holds_0 ++ []
theorem dksX0_holds_0 : cX0_holds.data.toList.drop 0 = dktX0_holds_0 := by decide +kernel
theorem dX0_holds_0 : decode cX0_holds 0 = .ok (.aload_n 0, 1) := dk_42 (dk_at dksX0_holds_0 0 rfl rfl)
theorem dX0_holds_1 : decode cX0_holds 1 = .ok (.getfield 19, 3) := dk_180 0 19 (dk_at dksX0_holds_0 1 rfl rfl)
theorem dX0_holds_4 : decode cX0_holds 4 = .ok (.iload_n 1, 1) := dk_27 (dk_at dksX0_holds_0 4 rfl rfl)
theorem dX0_holds_5 : decode cX0_holds 5 = .ok (.iconst 3, 1) := dk_6 (dk_at dksX0_holds_0 5 rfl rfl)
theorem dX0_holds_6 : decode cX0_holds 6 = .ok (.iand, 1) := dk_126 (dk_at dksX0_holds_0 6 rfl rfl)
theorem dX0_holds_7 : decode cX0_holds 7 = .ok (.aaload, 1) := dk_50 (dk_at dksX0_holds_0 7 rfl rfl)
theorem dX0_holds_8 : decode cX0_holds 8 = .ok (.iload_n 2, 1) := dk_28 (dk_at dksX0_holds_0 8 rfl rfl)
theorem dX0_holds_9 : decode cX0_holds 9 = .ok (.iload_n 3, 1) := dk_29 (dk_at dksX0_holds_0 9 rfl rfl)
theorem dX0_holds_10 : decode cX0_holds 10 = .ok (.invokestatic 33, 3) := dk_184 0 33 (dk_at dksX0_holds_0 10 rfl rfl)
theorem dX0_holds_13 : decode cX0_holds 13 = .ok (.invokevirtual 77, 3) := dk_182 0 77 (dk_at dksX0_holds_0 13 rfl rfl)
theorem dX0_holds_16 : decode cX0_holds 16 = .ok (.ireturn, 1) := dk_172 (dk_at dksX0_holds_0 16 rfl rfl)
abbrev cX0_length : ByteArray := prog_1_method_13_code
def yX0_length : MethodName := ⟨RX0, "length", "(I)I"⟩
def dkwX0_length_0 : List UInt8 := [42, 180, 0, 19, 27, 6, 126, 50, 182, 0, 42, 172]
abbrev dktX0_length_0 : List UInt8 := dkwX0_length_0 ++ []
theorem dksX0_length_0 : cX0_length.data.toList.drop 0 = dktX0_length_0 := by decide +kernel
theorem dX0_length_0 : decode cX0_length 0 = .ok (.aload_n 0, 1) := dk_42 (dk_at dksX0_length_0 0 rfl rfl)
theorem dX0_length_1 : decode cX0_length 1 = .ok (.getfield 19, 3) := dk_180 0 19 (dk_at dksX0_length_0 1 rfl rfl)
theorem dX0_length_4 : decode cX0_length 4 = .ok (.iload_n 1, 1) := dk_27 (dk_at dksX0_length_0 4 rfl rfl)
theorem dX0_length_5 : decode cX0_length 5 = .ok (.iconst 3, 1) := dk_6 (dk_at dksX0_length_0 5 rfl rfl)
theorem dX0_length_6 : decode cX0_length 6 = .ok (.iand, 1) := dk_126 (dk_at dksX0_length_0 6 rfl rfl)
theorem dX0_length_7 : decode cX0_length 7 = .ok (.aaload, 1) := dk_50 (dk_at dksX0_length_0 7 rfl rfl)
theorem dX0_length_8 : decode cX0_length 8 = .ok (.invokevirtual 42, 3) := dk_182 0 42 (dk_at dksX0_length_0 8 rfl rfl)
theorem dX0_length_11 : decode cX0_length 11 = .ok (.ireturn, 1) := dk_172 (dk_at dksX0_length_0 11 rfl rfl)
abbrev cX0_same : ByteArray := prog_1_method_14_code
def yX0_same : MethodName := ⟨RX0, "same", "(II)Z"⟩
def dkwX0_same_0 : List UInt8 := [42, 180, 0, 19, 27, 6, 126, 50, 42, 180, 0, 19, 28, 6, 126, 50, 182, 0, 81, 172]
abbrev dktX0_same_0 : List UInt8 := dkwX0_same_0 ++ []
theorem dksX0_same_0 : cX0_same.data.toList.drop 0 = dktX0_same_0 := by decide +kernel
theorem dX0_same_0 : decode cX0_same 0 = .ok (.aload_n 0, 1) := dk_42 (dk_at dksX0_same_0 0 rfl rfl)
theorem dX0_same_1 : decode cX0_same 1 = .ok (.getfield 19, 3) := dk_180 0 19 (dk_at dksX0_same_0 1 rfl rfl)
theorem dX0_same_4 : decode cX0_same 4 = .ok (.iload_n 1, 1) := dk_27 (dk_at dksX0_same_0 4 rfl rfl)
theorem dX0_same_5 : decode cX0_same 5 = .ok (.iconst 3, 1) := dk_6 (dk_at dksX0_same_0 5 rfl rfl)
theorem dX0_same_6 : decode cX0_same 6 = .ok (.iand, 1) := dk_126 (dk_at dksX0_same_0 6 rfl rfl)
theorem dX0_same_7 : decode cX0_same 7 = .ok (.aaload, 1) := dk_50 (dk_at dksX0_same_0 7 rfl rfl)
theorem dX0_same_8 : decode cX0_same 8 = .ok (.aload_n 0, 1) := dk_42 (dk_at dksX0_same_0 8 rfl rfl)
theorem dX0_same_9 : decode cX0_same 9 = .ok (.getfield 19, 3) := dk_180 0 19 (dk_at dksX0_same_0 9 rfl rfl)
theorem dX0_same_12 : decode cX0_same 12 = .ok (.iload_n 2, 1) := dk_28 (dk_at dksX0_same_0 12 rfl rfl)
theorem dX0_same_13 : decode cX0_same 13 = .ok (.iconst 3, 1) := dk_6 (dk_at dksX0_same_0 13 rfl rfl)
theorem dX0_same_14 : decode cX0_same 14 = .ok (.iand, 1) := dk_126 (dk_at dksX0_same_0 14 rfl rfl)
theorem dX0_same_15 : decode cX0_same 15 = .ok (.aaload, 1) := dk_50 (dk_at dksX0_same_0 15 rfl rfl)
theorem dX0_same_16 : decode cX0_same 16 = .ok (.invokevirtual 81, 3) := dk_182 0 81 (dk_at dksX0_same_0 16 rfl rfl)
theorem dX0_same_19 : decode cX0_same 19 = .ok (.ireturn, 1) := dk_172 (dk_at dksX0_same_0 19 rfl rfl)
abbrev cX0_hash : ByteArray := prog_1_method_15_code
def yX0_hash : MethodName := ⟨RX0, "hash", "(I)I"⟩
def dkwX0_hash_0 : List UInt8 := [42, 180, 0, 19, 27, 6, 126, 50, 182, 0, 85, 172]
abbrev dktX0_hash_0 : List UInt8 := dkwX0_hash_0 ++ []
theorem dksX0_hash_0 : cX0_hash.data.toList.drop 0 = dktX0_hash_0 := by decide +kernel
theorem dX0_hash_0 : decode cX0_hash 0 = .ok (.aload_n 0, 1) := dk_42 (dk_at dksX0_hash_0 0 rfl rfl)
theorem dX0_hash_1 : decode cX0_hash 1 = .ok (.getfield 19, 3) := dk_180 0 19 (dk_at dksX0_hash_0 1 rfl rfl)
theorem dX0_hash_4 : decode cX0_hash 4 = .ok (.iload_n 1, 1) := dk_27 (dk_at dksX0_hash_0 4 rfl rfl)
theorem dX0_hash_5 : decode cX0_hash 5 = .ok (.iconst 3, 1) := dk_6 (dk_at dksX0_hash_0 5 rfl rfl)
theorem dX0_hash_6 : decode cX0_hash 6 = .ok (.iand, 1) := dk_126 (dk_at dksX0_hash_0 6 rfl rfl)
theorem dX0_hash_7 : decode cX0_hash 7 = .ok (.aaload, 1) := dk_50 (dk_at dksX0_hash_0 7 rfl rfl)
theorem dX0_hash_8 : decode cX0_hash 8 = .ok (.invokevirtual 85, 3) := dk_182 0 85 (dk_at dksX0_hash_0 8 rfl rfl)
theorem dX0_hash_11 : decode cX0_hash 11 = .ok (.ireturn, 1) := dk_172 (dk_at dksX0_hash_0 11 rfl rfl)
abbrev cX0_whole : ByteArray := prog_1_method_16_code
def yX0_whole : MethodName := ⟨RX0, "whole", "(I)J"⟩
def dkwX0_whole_1 : List UInt8 := [33, 20, 0, 92, 105, 44, 21, 5, 47, 97, 66, 132, 5, 1, 167, 255, 235, 33, 173]
abbrev dktX0_whole_1 : List UInt8 := dkwX0_whole_1 ++ []
def dkwX0_whole_0 : List UInt8 := [42, 180, 0, 19, 27, 6, 126, 50, 182, 0, 88, 77, 9, 66, 3, 54, 5, 21, 5, 44, 190, 162, 0, 20]
abbrev dktX0_whole_0 : List UInt8 := dkwX0_whole_0 ++ dktX0_whole_1
theorem dksX0_whole_0 : cX0_whole.data.toList.drop 0 = dktX0_whole_0 := by decide +kernel
theorem dksX0_whole_1 : cX0_whole.data.toList.drop 24 = dktX0_whole_1 := dk_seg dksX0_whole_0 24 rfl rfl
theorem dX0_whole_0 : decode cX0_whole 0 = .ok (.aload_n 0, 1) := dk_42 (dk_at dksX0_whole_0 0 rfl rfl)
theorem dX0_whole_1 : decode cX0_whole 1 = .ok (.getfield 19, 3) := dk_180 0 19 (dk_at dksX0_whole_0 1 rfl rfl)
theorem dX0_whole_4 : decode cX0_whole 4 = .ok (.iload_n 1, 1) := dk_27 (dk_at dksX0_whole_0 4 rfl rfl)
theorem dX0_whole_5 : decode cX0_whole 5 = .ok (.iconst 3, 1) := dk_6 (dk_at dksX0_whole_0 5 rfl rfl)
theorem dX0_whole_6 : decode cX0_whole 6 = .ok (.iand, 1) := dk_126 (dk_at dksX0_whole_0 6 rfl rfl)
theorem dX0_whole_7 : decode cX0_whole 7 = .ok (.aaload, 1) := dk_50 (dk_at dksX0_whole_0 7 rfl rfl)
theorem dX0_whole_8 : decode cX0_whole 8 = .ok (.invokevirtual 88, 3) := dk_182 0 88 (dk_at dksX0_whole_0 8 rfl rfl)
theorem dX0_whole_11 : decode cX0_whole 11 = .ok (.astore_n 2, 1) := dk_77 (dk_at dksX0_whole_0 11 rfl rfl)
theorem dX0_whole_12 : decode cX0_whole 12 = .ok (.lconst 0, 1) := dk_9 (dk_at dksX0_whole_0 12 rfl rfl)
theorem dX0_whole_13 : decode cX0_whole 13 = .ok (.lstore_n 3, 1) := dk_66 (dk_at dksX0_whole_0 13 rfl rfl)
theorem dX0_whole_14 : decode cX0_whole 14 = .ok (.iconst 0, 1) := dk_3 (dk_at dksX0_whole_0 14 rfl rfl)
theorem dX0_whole_15 : decode cX0_whole 15 = .ok (.istore 5, 2) := dk_54 5 (dk_at dksX0_whole_0 15 rfl rfl)
theorem dX0_whole_17 : decode cX0_whole 17 = .ok (.iload 5, 2) := dk_21 5 (dk_at dksX0_whole_0 17 rfl rfl)
theorem dX0_whole_19 : decode cX0_whole 19 = .ok (.aload_n 2, 1) := dk_44 (dk_at dksX0_whole_0 19 rfl rfl)
theorem dX0_whole_20 : decode cX0_whole 20 = .ok (.arraylength, 1) := dk_190 (dk_at dksX0_whole_0 20 rfl rfl)
theorem dX0_whole_21 : decode cX0_whole 21 = .ok (.if_icmp .ge 20, 3) := dk_162 0 20 (dk_at dksX0_whole_0 21 rfl rfl)
theorem dX0_whole_24 : decode cX0_whole 24 = .ok (.lload_n 3, 1) := dk_33 (dk_at dksX0_whole_1 0 rfl rfl)
theorem dX0_whole_25 : decode cX0_whole 25 = .ok (.ldc2_w 92, 3) := dk_20 0 92 (dk_at dksX0_whole_1 1 rfl rfl)
theorem dX0_whole_28 : decode cX0_whole 28 = .ok (.lmul, 1) := dk_105 (dk_at dksX0_whole_1 4 rfl rfl)
theorem dX0_whole_29 : decode cX0_whole 29 = .ok (.aload_n 2, 1) := dk_44 (dk_at dksX0_whole_1 5 rfl rfl)
theorem dX0_whole_30 : decode cX0_whole 30 = .ok (.iload 5, 2) := dk_21 5 (dk_at dksX0_whole_1 6 rfl rfl)
theorem dX0_whole_32 : decode cX0_whole 32 = .ok (.laload, 1) := dk_47 (dk_at dksX0_whole_1 8 rfl rfl)
theorem dX0_whole_33 : decode cX0_whole 33 = .ok (.ladd, 1) := dk_97 (dk_at dksX0_whole_1 9 rfl rfl)
theorem dX0_whole_34 : decode cX0_whole 34 = .ok (.lstore_n 3, 1) := dk_66 (dk_at dksX0_whole_1 10 rfl rfl)
theorem dX0_whole_35 : decode cX0_whole 35 = .ok (.iinc 5 1, 3) := dk_132 5 1 (dk_at dksX0_whole_1 11 rfl rfl)
theorem dX0_whole_38 : decode cX0_whole 38 = .ok (.goto (-21), 3) := dk_167 255 235 (dk_at dksX0_whole_1 14 rfl rfl)
theorem dX0_whole_41 : decode cX0_whole 41 = .ok (.lload_n 3, 1) := dk_33 (dk_at dksX0_whole_1 17 rfl rfl)
theorem dX0_whole_42 : decode cX0_whole 42 = .ok (.lreturn, 1) := dk_173 (dk_at dksX0_whole_1 18 rfl rfl)
theorem q4 : (Jvm.Cond.initialized "FixedRowDesk") ∈ lw_all := lw_g (lw_at lw_m1 1 rfl) rfl
theorem q22 : (Jvm.Cond.instantiable "FixedRowDesk" (3 : Nat)) ∈ lw_all := lw_g (lw_at lw_m1 19 rfl) rfl
theorem q24 : (Jvm.Cond.instanceMethod ({ cls := "FixedRowDesk", name := "<init>", desc := "()V" } : Jvm.MethodName)) ∈ lw_all := lw_g (lw_at lw_m1 21 rfl) rfl
theorem q25 : (Jvm.Cond.code ({ cls := "FixedRowDesk", name := "<init>", desc := "()V" } : Jvm.MethodName) prog_1_method_1_code (2 : Nat) (Option.none : Option Jvm.ClassFile.FieldType)) ∈ lw_all := lw_g (lw_at lw_m1 22 rfl) rfl
theorem q26 : (Jvm.Cond.methodLink "FixedRowDesk" (1 : Nat) ({ cls := "java/lang/Object", name := "<init>", desc := "()V" } : Jvm.MethodName)) ∈ lw_all := lw_g (lw_at lw_m1 23 rfl) rfl
theorem q29 : (Jvm.Cond.methodLink "FixedRowDesk" (7 : Nat) ({ cls := "ImmutableLongArray", name := "builder", desc := "(I)LImmutableLongArray$Builder;" } : Jvm.MethodName)) ∈ lw_all := lw_g (lw_at lw_m1 26 rfl) rfl
theorem q118 : (Jvm.Cond.classLink "FixedRowDesk" (8 : Nat) "ImmutableLongArray") ∈ lw_all := lw_g (lw_at lw_m1 115 rfl) rfl
theorem q120 : (Jvm.Cond.methodLink "FixedRowDesk" (23 : Nat) ({ cls := "ImmutableLongArray", name := "of", desc := "(J)LImmutableLongArray;" } : Jvm.MethodName)) ∈ lw_all := lw_g (lw_at lw_m1 117 rfl) rfl
theorem q144 : (Jvm.Cond.fieldLink "FixedRowDesk" (13 : Nat) "FixedRowDesk" "maker" "LImmutableLongArray$Builder;") ∈ lw_all := lw_g (lw_at lw_m1 141 rfl) rfl
theorem q145 : (Jvm.Cond.fieldLink "FixedRowDesk" (29 : Nat) "FixedRowDesk" "made" "I") ∈ lw_all := lw_g (lw_at lw_m1 142 rfl) rfl
theorem q146 : (Jvm.Cond.fieldLink "FixedRowDesk" (19 : Nat) "FixedRowDesk" "rows" "[LImmutableLongArray;") ∈ lw_all := lw_g (lw_at lw_m1 143 rfl) rfl
theorem q147 : (Jvm.Cond.lays "FixedRowDesk" "FixedRowDesk" "maker" "LImmutableLongArray$Builder;") ∈ lw_all := lw_g (lw_at lw_m1 144 rfl) rfl
theorem q148 : (Jvm.Cond.soleField "FixedRowDesk" "maker") ∈ lw_all := lw_g (lw_at lw_m1 145 rfl) rfl
theorem q149 : (Jvm.Cond.lays "FixedRowDesk" "FixedRowDesk" "made" "I") ∈ lw_all := lw_g (lw_at lw_m1 146 rfl) rfl
theorem q150 : (Jvm.Cond.soleField "FixedRowDesk" "made") ∈ lw_all := lw_g (lw_at lw_m1 147 rfl) rfl
theorem q151 : (Jvm.Cond.laysFinal "FixedRowDesk" "FixedRowDesk" "rows" "[LImmutableLongArray;") ∈ lw_all := lw_g (lw_at lw_m1 148 rfl) rfl
theorem q152 : (Jvm.Cond.soleField "FixedRowDesk" "rows") ∈ lw_all := lw_g (lw_at lw_m1 149 rfl) rfl
theorem q153 : (Jvm.Cond.superclass "FixedRowDesk" "java/lang/Object") ∈ lw_all := lw_g (lw_at lw_m1 150 rfl) rfl
theorem q155 : (Jvm.Cond.instanceMethod ({ cls := "FixedRowDesk", name := "add", desc := "(II)Z" } : Jvm.MethodName)) ∈ lw_all := lw_g (lw_at lw_m1 152 rfl) rfl
theorem q156 : (Jvm.Cond.selects "FixedRowDesk" ({ cls := "FixedRowDesk", name := "add", desc := "(II)Z" } : Jvm.MethodName) ({ cls := "FixedRowDesk", name := "add", desc := "(II)Z" } : Jvm.MethodName)) ∈ lw_all := lw_g (lw_at lw_m1 153 rfl) rfl
theorem q157 : (Jvm.Cond.code ({ cls := "FixedRowDesk", name := "add", desc := "(II)Z" } : Jvm.MethodName) prog_1_method_3_code (3 : Nat) (Option.some Jvm.ClassFile.FieldType.boolean)) ∈ lw_all := lw_g (lw_at lw_m1 154 rfl) rfl
theorem q158 : (Jvm.Cond.methodLink "FixedRowDesk" (33 : Nat) ({ cls := "FixedRowDesk", name := "of", desc := "(II)J" } : Jvm.MethodName)) ∈ lw_all := lw_g (lw_at lw_m1 155 rfl) rfl
theorem q159 : (Jvm.Cond.static ({ cls := "FixedRowDesk", name := "of", desc := "(II)J" } : Jvm.MethodName)) ∈ lw_all := lw_g (lw_at lw_m1 156 rfl) rfl
theorem q160 : (Jvm.Cond.code ({ cls := "FixedRowDesk", name := "of", desc := "(II)J" } : Jvm.MethodName) prog_1_method_2_code (2 : Nat) (Option.some Jvm.ClassFile.FieldType.long)) ∈ lw_all := lw_g (lw_at lw_m1 157 rfl) rfl
theorem q161 : (Jvm.Cond.constantLong "FixedRowDesk" (27 : Nat) (4294967295 : Int64)) ∈ lw_all := lw_g (lw_at lw_m1 158 rfl) rfl
theorem q162 : (Jvm.Cond.methodLink "FixedRowDesk" (36 : Nat) ({ cls := "ImmutableLongArray$Builder", name := "add", desc := "(J)LImmutableLongArray$Builder;" } : Jvm.MethodName)) ∈ lw_all := lw_g (lw_at lw_m1 159 rfl) rfl
theorem q215 : (Jvm.Cond.instanceMethod ({ cls := "FixedRowDesk", name := "addRow", desc := "(I)Z" } : Jvm.MethodName)) ∈ lw_all := lw_g (lw_at lw_m1 212 rfl) rfl
theorem q216 : (Jvm.Cond.selects "FixedRowDesk" ({ cls := "FixedRowDesk", name := "addRow", desc := "(I)Z" } : Jvm.MethodName) ({ cls := "FixedRowDesk", name := "addRow", desc := "(I)Z" } : Jvm.MethodName)) ∈ lw_all := lw_g (lw_at lw_m1 213 rfl) rfl
theorem q217 : (Jvm.Cond.code ({ cls := "FixedRowDesk", name := "addRow", desc := "(I)Z" } : Jvm.MethodName) prog_1_method_4_code (3 : Nat) (Option.some Jvm.ClassFile.FieldType.boolean)) ∈ lw_all := lw_g (lw_at lw_m1 214 rfl) rfl
theorem q218 : (Jvm.Cond.methodLink "FixedRowDesk" (42 : Nat) ({ cls := "ImmutableLongArray", name := "length", desc := "()I" } : Jvm.MethodName)) ∈ lw_all := lw_g (lw_at lw_m1 215 rfl) rfl
theorem q222 : (Jvm.Cond.methodLink "FixedRowDesk" (46 : Nat) ({ cls := "ImmutableLongArray$Builder", name := "addAll", desc := "(LImmutableLongArray;)LImmutableLongArray$Builder;" } : Jvm.MethodName)) ∈ lw_all := lw_g (lw_at lw_m1 219 rfl) rfl
theorem q229 : (Jvm.Cond.instanceMethod ({ cls := "FixedRowDesk", name := "build", desc := "(I)I" } : Jvm.MethodName)) ∈ lw_all := lw_g (lw_at lw_m1 226 rfl) rfl
theorem q230 : (Jvm.Cond.selects "FixedRowDesk" ({ cls := "FixedRowDesk", name := "build", desc := "(I)I" } : Jvm.MethodName) ({ cls := "FixedRowDesk", name := "build", desc := "(I)I" } : Jvm.MethodName)) ∈ lw_all := lw_g (lw_at lw_m1 227 rfl) rfl
theorem q231 : (Jvm.Cond.code ({ cls := "FixedRowDesk", name := "build", desc := "(I)I" } : Jvm.MethodName) prog_1_method_5_code (2 : Nat) (Option.some Jvm.ClassFile.FieldType.int)) ∈ lw_all := lw_g (lw_at lw_m1 228 rfl) rfl
theorem q232 : (Jvm.Cond.methodLink "FixedRowDesk" (50 : Nat) ({ cls := "ImmutableLongArray$Builder", name := "build", desc := "()LImmutableLongArray;" } : Jvm.MethodName)) ∈ lw_all := lw_g (lw_at lw_m1 229 rfl) rfl
theorem q240 : (Jvm.Cond.instanceMethod ({ cls := "FixedRowDesk", name := "anew", desc := "(I)V" } : Jvm.MethodName)) ∈ lw_all := lw_g (lw_at lw_m1 237 rfl) rfl
theorem q241 : (Jvm.Cond.selects "FixedRowDesk" ({ cls := "FixedRowDesk", name := "anew", desc := "(I)V" } : Jvm.MethodName) ({ cls := "FixedRowDesk", name := "anew", desc := "(I)V" } : Jvm.MethodName)) ∈ lw_all := lw_g (lw_at lw_m1 238 rfl) rfl
theorem q242 : (Jvm.Cond.code ({ cls := "FixedRowDesk", name := "anew", desc := "(I)V" } : Jvm.MethodName) prog_1_method_6_code (2 : Nat) (Option.none : Option Jvm.ClassFile.FieldType)) ∈ lw_all := lw_g (lw_at lw_m1 239 rfl) rfl
theorem q244 : (Jvm.Cond.instanceMethod ({ cls := "FixedRowDesk", name := "part", desc := "(IIII)I" } : Jvm.MethodName)) ∈ lw_all := lw_g (lw_at lw_m2 1 rfl) rfl
theorem q245 : (Jvm.Cond.selects "FixedRowDesk" ({ cls := "FixedRowDesk", name := "part", desc := "(IIII)I" } : Jvm.MethodName) ({ cls := "FixedRowDesk", name := "part", desc := "(IIII)I" } : Jvm.MethodName)) ∈ lw_all := lw_g (lw_at lw_m2 2 rfl) rfl
theorem q246 : (Jvm.Cond.code ({ cls := "FixedRowDesk", name := "part", desc := "(IIII)I" } : Jvm.MethodName) prog_1_method_7_code (8 : Nat) (Option.some Jvm.ClassFile.FieldType.int)) ∈ lw_all := lw_g (lw_at lw_m2 3 rfl) rfl
theorem q247 : (Jvm.Cond.constant "FixedRowDesk" (54 : Nat) (2147483647 : Int32)) ∈ lw_all := lw_g (lw_at lw_m2 4 rfl) rfl
theorem q248 : (Jvm.Cond.methodLink "FixedRowDesk" (55 : Nat) ({ cls := "ImmutableLongArray", name := "subArray", desc := "(II)LImmutableLongArray;" } : Jvm.MethodName)) ∈ lw_all := lw_g (lw_at lw_m2 5 rfl) rfl
theorem q272 : (Jvm.Cond.instanceMethod ({ cls := "FixedRowDesk", name := "trim", desc := "(I)V" } : Jvm.MethodName)) ∈ lw_all := lw_g (lw_at lw_m2 29 rfl) rfl
theorem q273 : (Jvm.Cond.selects "FixedRowDesk" ({ cls := "FixedRowDesk", name := "trim", desc := "(I)V" } : Jvm.MethodName) ({ cls := "FixedRowDesk", name := "trim", desc := "(I)V" } : Jvm.MethodName)) ∈ lw_all := lw_g (lw_at lw_m2 30 rfl) rfl
theorem q274 : (Jvm.Cond.code ({ cls := "FixedRowDesk", name := "trim", desc := "(I)V" } : Jvm.MethodName) prog_1_method_8_code (2 : Nat) (Option.none : Option Jvm.ClassFile.FieldType)) ∈ lw_all := lw_g (lw_at lw_m2 31 rfl) rfl
theorem q275 : (Jvm.Cond.methodLink "FixedRowDesk" (59 : Nat) ({ cls := "ImmutableLongArray", name := "trimmed", desc := "()LImmutableLongArray;" } : Jvm.MethodName)) ∈ lw_all := lw_g (lw_at lw_m2 32 rfl) rfl
theorem q297 : (Jvm.Cond.instanceMethod ({ cls := "FixedRowDesk", name := "get", desc := "(II)J" } : Jvm.MethodName)) ∈ lw_all := lw_g (lw_at lw_m2 54 rfl) rfl
theorem q298 : (Jvm.Cond.selects "FixedRowDesk" ({ cls := "FixedRowDesk", name := "get", desc := "(II)J" } : Jvm.MethodName) ({ cls := "FixedRowDesk", name := "get", desc := "(II)J" } : Jvm.MethodName)) ∈ lw_all := lw_g (lw_at lw_m2 55 rfl) rfl
theorem q299 : (Jvm.Cond.code ({ cls := "FixedRowDesk", name := "get", desc := "(II)J" } : Jvm.MethodName) prog_1_method_9_code (4 : Nat) (Option.some Jvm.ClassFile.FieldType.long)) ∈ lw_all := lw_g (lw_at lw_m2 56 rfl) rfl
theorem q300 : (Jvm.Cond.methodLink "FixedRowDesk" (62 : Nat) ({ cls := "ImmutableLongArray", name := "isEmpty", desc := "()Z" } : Jvm.MethodName)) ∈ lw_all := lw_g (lw_at lw_m2 57 rfl) rfl
theorem q304 : (Jvm.Cond.methodLink "FixedRowDesk" (66 : Nat) ({ cls := "ImmutableLongArray", name := "get", desc := "(I)J" } : Jvm.MethodName)) ∈ lw_all := lw_g (lw_at lw_m2 61 rfl) rfl
theorem q316 : (Jvm.Cond.instanceMethod ({ cls := "FixedRowDesk", name := "first", desc := "(III)I" } : Jvm.MethodName)) ∈ lw_all := lw_g (lw_at lw_m2 73 rfl) rfl
theorem q317 : (Jvm.Cond.selects "FixedRowDesk" ({ cls := "FixedRowDesk", name := "first", desc := "(III)I" } : Jvm.MethodName) ({ cls := "FixedRowDesk", name := "first", desc := "(III)I" } : Jvm.MethodName)) ∈ lw_all := lw_g (lw_at lw_m2 74 rfl) rfl
theorem q318 : (Jvm.Cond.code ({ cls := "FixedRowDesk", name := "first", desc := "(III)I" } : Jvm.MethodName) prog_1_method_10_code (4 : Nat) (Option.some Jvm.ClassFile.FieldType.int)) ∈ lw_all := lw_g (lw_at lw_m2 75 rfl) rfl
theorem q319 : (Jvm.Cond.methodLink "FixedRowDesk" (70 : Nat) ({ cls := "ImmutableLongArray", name := "indexOf", desc := "(J)I" } : Jvm.MethodName)) ∈ lw_all := lw_g (lw_at lw_m2 76 rfl) rfl
theorem q324 : (Jvm.Cond.instanceMethod ({ cls := "FixedRowDesk", name := "last", desc := "(III)I" } : Jvm.MethodName)) ∈ lw_all := lw_g (lw_at lw_m2 81 rfl) rfl
theorem q325 : (Jvm.Cond.selects "FixedRowDesk" ({ cls := "FixedRowDesk", name := "last", desc := "(III)I" } : Jvm.MethodName) ({ cls := "FixedRowDesk", name := "last", desc := "(III)I" } : Jvm.MethodName)) ∈ lw_all := lw_g (lw_at lw_m2 82 rfl) rfl
theorem q326 : (Jvm.Cond.code ({ cls := "FixedRowDesk", name := "last", desc := "(III)I" } : Jvm.MethodName) prog_1_method_11_code (4 : Nat) (Option.some Jvm.ClassFile.FieldType.int)) ∈ lw_all := lw_g (lw_at lw_m2 83 rfl) rfl
theorem q327 : (Jvm.Cond.methodLink "FixedRowDesk" (74 : Nat) ({ cls := "ImmutableLongArray", name := "lastIndexOf", desc := "(J)I" } : Jvm.MethodName)) ∈ lw_all := lw_g (lw_at lw_m2 84 rfl) rfl
theorem q332 : (Jvm.Cond.instanceMethod ({ cls := "FixedRowDesk", name := "holds", desc := "(III)Z" } : Jvm.MethodName)) ∈ lw_all := lw_g (lw_at lw_m2 89 rfl) rfl
theorem q333 : (Jvm.Cond.selects "FixedRowDesk" ({ cls := "FixedRowDesk", name := "holds", desc := "(III)Z" } : Jvm.MethodName) ({ cls := "FixedRowDesk", name := "holds", desc := "(III)Z" } : Jvm.MethodName)) ∈ lw_all := lw_g (lw_at lw_m2 90 rfl) rfl
theorem q334 : (Jvm.Cond.code ({ cls := "FixedRowDesk", name := "holds", desc := "(III)Z" } : Jvm.MethodName) prog_1_method_12_code (4 : Nat) (Option.some Jvm.ClassFile.FieldType.boolean)) ∈ lw_all := lw_g (lw_at lw_m2 91 rfl) rfl
theorem q335 : (Jvm.Cond.methodLink "FixedRowDesk" (77 : Nat) ({ cls := "ImmutableLongArray", name := "contains", desc := "(J)Z" } : Jvm.MethodName)) ∈ lw_all := lw_g (lw_at lw_m2 92 rfl) rfl
theorem q341 : (Jvm.Cond.instanceMethod ({ cls := "FixedRowDesk", name := "length", desc := "(I)I" } : Jvm.MethodName)) ∈ lw_all := lw_g (lw_at lw_m2 98 rfl) rfl
theorem q342 : (Jvm.Cond.selects "FixedRowDesk" ({ cls := "FixedRowDesk", name := "length", desc := "(I)I" } : Jvm.MethodName) ({ cls := "FixedRowDesk", name := "length", desc := "(I)I" } : Jvm.MethodName)) ∈ lw_all := lw_g (lw_at lw_m2 99 rfl) rfl
theorem q343 : (Jvm.Cond.code ({ cls := "FixedRowDesk", name := "length", desc := "(I)I" } : Jvm.MethodName) prog_1_method_13_code (2 : Nat) (Option.some Jvm.ClassFile.FieldType.int)) ∈ lw_all := lw_g (lw_at lw_m2 100 rfl) rfl
theorem q345 : (Jvm.Cond.instanceMethod ({ cls := "FixedRowDesk", name := "same", desc := "(II)Z" } : Jvm.MethodName)) ∈ lw_all := lw_g (lw_at lw_m2 102 rfl) rfl
theorem q346 : (Jvm.Cond.selects "FixedRowDesk" ({ cls := "FixedRowDesk", name := "same", desc := "(II)Z" } : Jvm.MethodName) ({ cls := "FixedRowDesk", name := "same", desc := "(II)Z" } : Jvm.MethodName)) ∈ lw_all := lw_g (lw_at lw_m2 103 rfl) rfl
theorem q347 : (Jvm.Cond.code ({ cls := "FixedRowDesk", name := "same", desc := "(II)Z" } : Jvm.MethodName) prog_1_method_14_code (3 : Nat) (Option.some Jvm.ClassFile.FieldType.boolean)) ∈ lw_all := lw_g (lw_at lw_m2 104 rfl) rfl
theorem q348 : (Jvm.Cond.methodLink "FixedRowDesk" (81 : Nat) ({ cls := "ImmutableLongArray", name := "equals", desc := "(Ljava/lang/Object;)Z" } : Jvm.MethodName)) ∈ lw_all := lw_g (lw_at lw_m2 105 rfl) rfl
theorem q354 : (Jvm.Cond.instanceMethod ({ cls := "FixedRowDesk", name := "hash", desc := "(I)I" } : Jvm.MethodName)) ∈ lw_all := lw_g (lw_at lw_m2 111 rfl) rfl
theorem q355 : (Jvm.Cond.selects "FixedRowDesk" ({ cls := "FixedRowDesk", name := "hash", desc := "(I)I" } : Jvm.MethodName) ({ cls := "FixedRowDesk", name := "hash", desc := "(I)I" } : Jvm.MethodName)) ∈ lw_all := lw_g (lw_at lw_m2 112 rfl) rfl
theorem q356 : (Jvm.Cond.code ({ cls := "FixedRowDesk", name := "hash", desc := "(I)I" } : Jvm.MethodName) prog_1_method_15_code (2 : Nat) (Option.some Jvm.ClassFile.FieldType.int)) ∈ lw_all := lw_g (lw_at lw_m2 113 rfl) rfl
theorem q357 : (Jvm.Cond.methodLink "FixedRowDesk" (85 : Nat) ({ cls := "ImmutableLongArray", name := "hashCode", desc := "()I" } : Jvm.MethodName)) ∈ lw_all := lw_g (lw_at lw_m2 114 rfl) rfl
theorem q365 : (Jvm.Cond.instanceMethod ({ cls := "FixedRowDesk", name := "whole", desc := "(I)J" } : Jvm.MethodName)) ∈ lw_all := lw_g (lw_at lw_m2 122 rfl) rfl
theorem q366 : (Jvm.Cond.selects "FixedRowDesk" ({ cls := "FixedRowDesk", name := "whole", desc := "(I)J" } : Jvm.MethodName) ({ cls := "FixedRowDesk", name := "whole", desc := "(I)J" } : Jvm.MethodName)) ∈ lw_all := lw_g (lw_at lw_m2 123 rfl) rfl
theorem q367 : (Jvm.Cond.code ({ cls := "FixedRowDesk", name := "whole", desc := "(I)J" } : Jvm.MethodName) prog_1_method_16_code (6 : Nat) (Option.some Jvm.ClassFile.FieldType.long)) ∈ lw_all := lw_g (lw_at lw_m2 124 rfl) rfl
theorem q368 : (Jvm.Cond.methodLink "FixedRowDesk" (88 : Nat) ({ cls := "ImmutableLongArray", name := "toArray", desc := "()[J" } : Jvm.MethodName)) ∈ lw_all := lw_g (lw_at lw_m2 125 rfl) rfl
theorem q369 : (Jvm.Cond.constantLong "FixedRowDesk" (92 : Nat) (31 : Int64)) ∈ lw_all := lw_g (lw_at lw_m2 126 rfl) rfl
theorem in_X0 : ∀ w ∈ wsX00, w ∈ lw_all := lw_in wsX00 [147, 149, 151] (by decide +kernel) (by decide +kernel)
/-! ImmutableLongArray -/
set_option maxRecDepth 100000
def RX1 : String := "ImmutableLongArray"
def TX1 : u_T := fun k => match k with
  | 0 => ("ImmutableLongArray", "array", "[J", true)
  | 1 => ("ImmutableLongArray", "start", "I", true)
  | _ => ("ImmutableLongArray", "end", "I", true)
def tyX1 : Nat → FieldType := fun k => match k with
  | 0 => .array .long
  | 1 => .int
  | _ => .int
abbrev wsX10 : List Cond := u_ws RX1 TX1 3
theorem nmX1 : ∀ a, a < 3 → ∀ b, b < 3 → a ≠ b → (TX1 a).2.1 ≠ (TX1 b).2.1 := by decide +kernel
theorem tyX1_ok : ∀ k, k < 3 → parseFieldDescriptor (TX1 k).2.2.1 = some (tyX1 k) := by decide +kernel
abbrev cX1_builder : ByteArray := prog_4_method_2_code
def yX1_builder : MethodName := ⟨RX1, "builder", "(I)LImmutableLongArray$Builder;"⟩
def dkwX1_builder_0 : List UInt8 := [26, 155, 0, 7, 4, 167, 0, 4, 3, 18, 7, 26, 184, 0, 9, 187, 0, 15, 89, 26, 183, 0, 17, 176]
abbrev dktX1_builder_0 : List UInt8 := dkwX1_builder_0 ++ []
theorem dksX1_builder_0 : cX1_builder.data.toList.drop 0 = dktX1_builder_0 := by decide +kernel
theorem dX1_builder_0 : decode cX1_builder 0 = .ok (.iload_n 0, 1) := dk_26 (dk_at dksX1_builder_0 0 rfl rfl)
theorem dX1_builder_1 : decode cX1_builder 1 = .ok (.ifCond .lt 7, 3) := dk_155 0 7 (dk_at dksX1_builder_0 1 rfl rfl)
theorem dX1_builder_4 : decode cX1_builder 4 = .ok (.iconst 1, 1) := dk_4 (dk_at dksX1_builder_0 4 rfl rfl)
theorem dX1_builder_5 : decode cX1_builder 5 = .ok (.goto 4, 3) := dk_167 0 4 (dk_at dksX1_builder_0 5 rfl rfl)
theorem dX1_builder_8 : decode cX1_builder 8 = .ok (.iconst 0, 1) := dk_3 (dk_at dksX1_builder_0 8 rfl rfl)
theorem dX1_builder_9 : decode cX1_builder 9 = .ok (.ldc 7, 2) := dk_18 7 (dk_at dksX1_builder_0 9 rfl rfl)
theorem dX1_builder_11 : decode cX1_builder 11 = .ok (.iload_n 0, 1) := dk_26 (dk_at dksX1_builder_0 11 rfl rfl)
theorem dX1_builder_12 : decode cX1_builder 12 = .ok (.invokestatic 9, 3) := dk_184 0 9 (dk_at dksX1_builder_0 12 rfl rfl)
theorem dX1_builder_15 : decode cX1_builder 15 = .ok (.new 15, 3) := dk_187 0 15 (dk_at dksX1_builder_0 15 rfl rfl)
theorem dX1_builder_18 : decode cX1_builder 18 = .ok (.dup, 1) := dk_89 (dk_at dksX1_builder_0 18 rfl rfl)
theorem dX1_builder_19 : decode cX1_builder 19 = .ok (.iload_n 0, 1) := dk_26 (dk_at dksX1_builder_0 19 rfl rfl)
theorem dX1_builder_20 : decode cX1_builder 20 = .ok (.invokespecial 17, 3) := dk_183 0 17 (dk_at dksX1_builder_0 20 rfl rfl)
theorem dX1_builder_23 : decode cX1_builder 23 = .ok (.areturn, 1) := dk_176 (dk_at dksX1_builder_0 23 rfl rfl)
abbrev cX1_of : ByteArray := prog_4_method_1_code
def yX1_of : MethodName := ⟨RX1, "of", "(J)LImmutableLongArray;"⟩
def dkwX1_of_0 : List UInt8 := [187, 0, 1, 89, 4, 188, 11, 89, 3, 30, 80, 183, 0, 3, 176]
abbrev dktX1_of_0 : List UInt8 := dkwX1_of_0 ++ []
theorem dksX1_of_0 : cX1_of.data.toList.drop 0 = dktX1_of_0 := by decide +kernel
theorem dX1_of_0 : decode cX1_of 0 = .ok (.new 1, 3) := dk_187 0 1 (dk_at dksX1_of_0 0 rfl rfl)
theorem dX1_of_3 : decode cX1_of 3 = .ok (.dup, 1) := dk_89 (dk_at dksX1_of_0 3 rfl rfl)
theorem dX1_of_4 : decode cX1_of 4 = .ok (.iconst 1, 1) := dk_4 (dk_at dksX1_of_0 4 rfl rfl)
theorem dX1_of_5 : decode cX1_of 5 = .ok (.newarray .long, 2) := dk_188_11 (dk_at dksX1_of_0 5 rfl rfl)
theorem dX1_of_7 : decode cX1_of 7 = .ok (.dup, 1) := dk_89 (dk_at dksX1_of_0 7 rfl rfl)
theorem dX1_of_8 : decode cX1_of 8 = .ok (.iconst 0, 1) := dk_3 (dk_at dksX1_of_0 8 rfl rfl)
theorem dX1_of_9 : decode cX1_of 9 = .ok (.lload_n 0, 1) := dk_30 (dk_at dksX1_of_0 9 rfl rfl)
theorem dX1_of_10 : decode cX1_of 10 = .ok (.lastore, 1) := dk_80 (dk_at dksX1_of_0 10 rfl rfl)
theorem dX1_of_11 : decode cX1_of 11 = .ok (.invokespecial 3, 3) := dk_183 0 3 (dk_at dksX1_of_0 11 rfl rfl)
theorem dX1_of_14 : decode cX1_of 14 = .ok (.areturn, 1) := dk_176 (dk_at dksX1_of_0 14 rfl rfl)
abbrev cX1_init : ByteArray := prog_4_method_3_code
def yX1_init : MethodName := ⟨RX1, "<init>", "([J)V"⟩
def dkwX1_init_0 : List UInt8 := [42, 43, 3, 43, 190, 183, 0, 20, 177]
abbrev dktX1_init_0 : List UInt8 := dkwX1_init_0 ++ []
theorem dksX1_init_0 : cX1_init.data.toList.drop 0 = dktX1_init_0 := by decide +kernel
theorem dX1_init_0 : decode cX1_init 0 = .ok (.aload_n 0, 1) := dk_42 (dk_at dksX1_init_0 0 rfl rfl)
theorem dX1_init_1 : decode cX1_init 1 = .ok (.aload_n 1, 1) := dk_43 (dk_at dksX1_init_0 1 rfl rfl)
theorem dX1_init_2 : decode cX1_init 2 = .ok (.iconst 0, 1) := dk_3 (dk_at dksX1_init_0 2 rfl rfl)
theorem dX1_init_3 : decode cX1_init 3 = .ok (.aload_n 1, 1) := dk_43 (dk_at dksX1_init_0 3 rfl rfl)
theorem dX1_init_4 : decode cX1_init 4 = .ok (.arraylength, 1) := dk_190 (dk_at dksX1_init_0 4 rfl rfl)
theorem dX1_init_5 : decode cX1_init 5 = .ok (.invokespecial 20, 3) := dk_183 0 20 (dk_at dksX1_init_0 5 rfl rfl)
theorem dX1_init_8 : decode cX1_init 8 = .ok (.return_, 1) := dk_177 (dk_at dksX1_init_0 8 rfl rfl)
abbrev cX1_init_2 : ByteArray := prog_4_method_4_code
def yX1_init_2 : MethodName := ⟨RX1, "<init>", "([JII)V"⟩
def dkwX1_init_2_0 : List UInt8 := [42, 183, 0, 23, 42, 43, 181, 0, 28, 42, 28, 181, 0, 32, 42, 29, 181, 0, 36, 177]
abbrev dktX1_init_2_0 : List UInt8 := dkwX1_init_2_0 ++ []
theorem dksX1_init_2_0 : cX1_init_2.data.toList.drop 0 = dktX1_init_2_0 := by decide +kernel
theorem dX1_init_2_0 : decode cX1_init_2 0 = .ok (.aload_n 0, 1) := dk_42 (dk_at dksX1_init_2_0 0 rfl rfl)
theorem dX1_init_2_1 : decode cX1_init_2 1 = .ok (.invokespecial 23, 3) := dk_183 0 23 (dk_at dksX1_init_2_0 1 rfl rfl)
theorem dX1_init_2_4 : decode cX1_init_2 4 = .ok (.aload_n 0, 1) := dk_42 (dk_at dksX1_init_2_0 4 rfl rfl)
theorem dX1_init_2_5 : decode cX1_init_2 5 = .ok (.aload_n 1, 1) := dk_43 (dk_at dksX1_init_2_0 5 rfl rfl)
theorem dX1_init_2_6 : decode cX1_init_2 6 = .ok (.putfield 28, 3) := dk_181 0 28 (dk_at dksX1_init_2_0 6 rfl rfl)
theorem dX1_init_2_9 : decode cX1_init_2 9 = .ok (.aload_n 0, 1) := dk_42 (dk_at dksX1_init_2_0 9 rfl rfl)
theorem dX1_init_2_10 : decode cX1_init_2 10 = .ok (.iload_n 2, 1) := dk_28 (dk_at dksX1_init_2_0 10 rfl rfl)
theorem dX1_init_2_11 : decode cX1_init_2 11 = .ok (.putfield 32, 3) := dk_181 0 32 (dk_at dksX1_init_2_0 11 rfl rfl)
theorem dX1_init_2_14 : decode cX1_init_2 14 = .ok (.aload_n 0, 1) := dk_42 (dk_at dksX1_init_2_0 14 rfl rfl)
theorem dX1_init_2_15 : decode cX1_init_2 15 = .ok (.iload_n 3, 1) := dk_29 (dk_at dksX1_init_2_0 15 rfl rfl)
theorem dX1_init_2_16 : decode cX1_init_2 16 = .ok (.putfield 36, 3) := dk_181 0 36 (dk_at dksX1_init_2_0 16 rfl rfl)
theorem dX1_init_2_19 : decode cX1_init_2 19 = .ok (.return_, 1) := dk_177 (dk_at dksX1_init_2_0 19 rfl rfl)
abbrev cX1_length : ByteArray := prog_4_method_5_code
def yX1_length : MethodName := ⟨RX1, "length", "()I"⟩
def dkwX1_length_0 : List UInt8 := [42, 180, 0, 36, 42, 180, 0, 32, 100, 172]
abbrev dktX1_length_0 : List UInt8 := dkwX1_length_0 ++ []
theorem dksX1_length_0 : cX1_length.data.toList.drop 0 = dktX1_length_0 := by decide +kernel
theorem dX1_length_0 : decode cX1_length 0 = .ok (.aload_n 0, 1) := dk_42 (dk_at dksX1_length_0 0 rfl rfl)
theorem dX1_length_1 : decode cX1_length 1 = .ok (.getfield 36, 3) := dk_180 0 36 (dk_at dksX1_length_0 1 rfl rfl)
theorem dX1_length_4 : decode cX1_length 4 = .ok (.aload_n 0, 1) := dk_42 (dk_at dksX1_length_0 4 rfl rfl)
theorem dX1_length_5 : decode cX1_length 5 = .ok (.getfield 32, 3) := dk_180 0 32 (dk_at dksX1_length_0 5 rfl rfl)
theorem dX1_length_8 : decode cX1_length 8 = .ok (.isub, 1) := dk_100 (dk_at dksX1_length_0 8 rfl rfl)
theorem dX1_length_9 : decode cX1_length 9 = .ok (.ireturn, 1) := dk_172 (dk_at dksX1_length_0 9 rfl rfl)
abbrev cX1_subArray : ByteArray := prog_4_method_12_code
def yX1_subArray : MethodName := ⟨RX1, "subArray", "(II)LImmutableLongArray;"⟩
def dkwX1_subArray_2 : List UInt8 := [183, 0, 20, 176]
abbrev dktX1_subArray_2 : List UInt8 := dkwX1_subArray_2 ++ []
def dkwX1_subArray_1 : List UInt8 := [167, 0, 26, 187, 0, 1, 89, 42, 180, 0, 28, 42, 180, 0, 32, 27, 96, 42, 180, 0, 32, 28, 96]
abbrev dktX1_subArray_1 : List UInt8 := dkwX1_subArray_1 ++ dktX1_subArray_2
def dkwX1_subArray_0 : List UInt8 := [27, 28, 42, 182, 0, 39, 184, 0, 57, 27, 28, 160, 0, 16, 187, 0, 1, 89, 3, 188, 11, 183, 0, 3]
abbrev dktX1_subArray_0 : List UInt8 := dkwX1_subArray_0 ++ dktX1_subArray_1
theorem dksX1_subArray_0 : cX1_subArray.data.toList.drop 0 = dktX1_subArray_0 := by decide +kernel
theorem dksX1_subArray_1 : cX1_subArray.data.toList.drop 24 = dktX1_subArray_1 := dk_seg dksX1_subArray_0 24 rfl rfl
theorem dksX1_subArray_2 : cX1_subArray.data.toList.drop 47 = dktX1_subArray_2 := dk_seg dksX1_subArray_1 23 rfl rfl
theorem dX1_subArray_0 : decode cX1_subArray 0 = .ok (.iload_n 1, 1) := dk_27 (dk_at dksX1_subArray_0 0 rfl rfl)
theorem dX1_subArray_1 : decode cX1_subArray 1 = .ok (.iload_n 2, 1) := dk_28 (dk_at dksX1_subArray_0 1 rfl rfl)
theorem dX1_subArray_2 : decode cX1_subArray 2 = .ok (.aload_n 0, 1) := dk_42 (dk_at dksX1_subArray_0 2 rfl rfl)
theorem dX1_subArray_3 : decode cX1_subArray 3 = .ok (.invokevirtual 39, 3) := dk_182 0 39 (dk_at dksX1_subArray_0 3 rfl rfl)
theorem dX1_subArray_6 : decode cX1_subArray 6 = .ok (.invokestatic 57, 3) := dk_184 0 57 (dk_at dksX1_subArray_0 6 rfl rfl)
theorem dX1_subArray_9 : decode cX1_subArray 9 = .ok (.iload_n 1, 1) := dk_27 (dk_at dksX1_subArray_0 9 rfl rfl)
theorem dX1_subArray_10 : decode cX1_subArray 10 = .ok (.iload_n 2, 1) := dk_28 (dk_at dksX1_subArray_0 10 rfl rfl)
theorem dX1_subArray_11 : decode cX1_subArray 11 = .ok (.if_icmp .ne 16, 3) := dk_160 0 16 (dk_at dksX1_subArray_0 11 rfl rfl)
theorem dX1_subArray_14 : decode cX1_subArray 14 = .ok (.new 1, 3) := dk_187 0 1 (dk_at dksX1_subArray_0 14 rfl rfl)
theorem dX1_subArray_17 : decode cX1_subArray 17 = .ok (.dup, 1) := dk_89 (dk_at dksX1_subArray_0 17 rfl rfl)
theorem dX1_subArray_18 : decode cX1_subArray 18 = .ok (.iconst 0, 1) := dk_3 (dk_at dksX1_subArray_0 18 rfl rfl)
theorem dX1_subArray_19 : decode cX1_subArray 19 = .ok (.newarray .long, 2) := dk_188_11 (dk_at dksX1_subArray_0 19 rfl rfl)
theorem dX1_subArray_21 : decode cX1_subArray 21 = .ok (.invokespecial 3, 3) := dk_183 0 3 (dk_at dksX1_subArray_0 21 rfl rfl)
theorem dX1_subArray_24 : decode cX1_subArray 24 = .ok (.goto 26, 3) := dk_167 0 26 (dk_at dksX1_subArray_1 0 rfl rfl)
theorem dX1_subArray_27 : decode cX1_subArray 27 = .ok (.new 1, 3) := dk_187 0 1 (dk_at dksX1_subArray_1 3 rfl rfl)
theorem dX1_subArray_30 : decode cX1_subArray 30 = .ok (.dup, 1) := dk_89 (dk_at dksX1_subArray_1 6 rfl rfl)
theorem dX1_subArray_31 : decode cX1_subArray 31 = .ok (.aload_n 0, 1) := dk_42 (dk_at dksX1_subArray_1 7 rfl rfl)
theorem dX1_subArray_32 : decode cX1_subArray 32 = .ok (.getfield 28, 3) := dk_180 0 28 (dk_at dksX1_subArray_1 8 rfl rfl)
theorem dX1_subArray_35 : decode cX1_subArray 35 = .ok (.aload_n 0, 1) := dk_42 (dk_at dksX1_subArray_1 11 rfl rfl)
theorem dX1_subArray_36 : decode cX1_subArray 36 = .ok (.getfield 32, 3) := dk_180 0 32 (dk_at dksX1_subArray_1 12 rfl rfl)
theorem dX1_subArray_39 : decode cX1_subArray 39 = .ok (.iload_n 1, 1) := dk_27 (dk_at dksX1_subArray_1 15 rfl rfl)
theorem dX1_subArray_40 : decode cX1_subArray 40 = .ok (.iadd, 1) := dk_96 (dk_at dksX1_subArray_1 16 rfl rfl)
theorem dX1_subArray_41 : decode cX1_subArray 41 = .ok (.aload_n 0, 1) := dk_42 (dk_at dksX1_subArray_1 17 rfl rfl)
theorem dX1_subArray_42 : decode cX1_subArray 42 = .ok (.getfield 32, 3) := dk_180 0 32 (dk_at dksX1_subArray_1 18 rfl rfl)
theorem dX1_subArray_45 : decode cX1_subArray 45 = .ok (.iload_n 2, 1) := dk_28 (dk_at dksX1_subArray_1 21 rfl rfl)
theorem dX1_subArray_46 : decode cX1_subArray 46 = .ok (.iadd, 1) := dk_96 (dk_at dksX1_subArray_1 22 rfl rfl)
theorem dX1_subArray_47 : decode cX1_subArray 47 = .ok (.invokespecial 20, 3) := dk_183 0 20 (dk_at dksX1_subArray_2 0 rfl rfl)
theorem dX1_subArray_50 : decode cX1_subArray 50 = .ok (.areturn, 1) := dk_176 (dk_at dksX1_subArray_2 3 rfl rfl)
abbrev cX1_trimmed : ByteArray := prog_4_method_15_code
def yX1_trimmed : MethodName := ⟨RX1, "trimmed", "()LImmutableLongArray;"⟩
def dkwX1_trimmed_0 : List UInt8 := [42, 182, 0, 70, 153, 0, 17, 187, 0, 1, 89, 42, 182, 0, 74, 183, 0, 3, 167, 0, 4, 42, 176]
abbrev dktX1_trimmed_0 : List UInt8 := dkwX1_trimmed_0 ++ []
theorem dksX1_trimmed_0 : cX1_trimmed.data.toList.drop 0 = dktX1_trimmed_0 := by decide +kernel
theorem dX1_trimmed_0 : decode cX1_trimmed 0 = .ok (.aload_n 0, 1) := dk_42 (dk_at dksX1_trimmed_0 0 rfl rfl)
theorem dX1_trimmed_1 : decode cX1_trimmed 1 = .ok (.invokevirtual 70, 3) := dk_182 0 70 (dk_at dksX1_trimmed_0 1 rfl rfl)
theorem dX1_trimmed_4 : decode cX1_trimmed 4 = .ok (.ifCond .eq 17, 3) := dk_153 0 17 (dk_at dksX1_trimmed_0 4 rfl rfl)
theorem dX1_trimmed_7 : decode cX1_trimmed 7 = .ok (.new 1, 3) := dk_187 0 1 (dk_at dksX1_trimmed_0 7 rfl rfl)
theorem dX1_trimmed_10 : decode cX1_trimmed 10 = .ok (.dup, 1) := dk_89 (dk_at dksX1_trimmed_0 10 rfl rfl)
theorem dX1_trimmed_11 : decode cX1_trimmed 11 = .ok (.aload_n 0, 1) := dk_42 (dk_at dksX1_trimmed_0 11 rfl rfl)
theorem dX1_trimmed_12 : decode cX1_trimmed 12 = .ok (.invokevirtual 74, 3) := dk_182 0 74 (dk_at dksX1_trimmed_0 12 rfl rfl)
theorem dX1_trimmed_15 : decode cX1_trimmed 15 = .ok (.invokespecial 3, 3) := dk_183 0 3 (dk_at dksX1_trimmed_0 15 rfl rfl)
theorem dX1_trimmed_18 : decode cX1_trimmed 18 = .ok (.goto 4, 3) := dk_167 0 4 (dk_at dksX1_trimmed_0 18 rfl rfl)
theorem dX1_trimmed_21 : decode cX1_trimmed 21 = .ok (.aload_n 0, 1) := dk_42 (dk_at dksX1_trimmed_0 21 rfl rfl)
theorem dX1_trimmed_22 : decode cX1_trimmed 22 = .ok (.areturn, 1) := dk_176 (dk_at dksX1_trimmed_0 22 rfl rfl)
abbrev cX1_isPartialView : ByteArray := prog_4_method_16_code
def yX1_isPartialView : MethodName := ⟨RX1, "isPartialView", "()Z"⟩
def dkwX1_isPartialView_1 : List UInt8 := [172]
abbrev dktX1_isPartialView_1 : List UInt8 := dkwX1_isPartialView_1 ++ []
def dkwX1_isPartialView_0 : List UInt8 := [42, 180, 0, 32, 157, 0, 15, 42, 180, 0, 36, 42, 180, 0, 28, 190, 162, 0, 7, 4, 167, 0, 4, 3]
abbrev dktX1_isPartialView_0 : List UInt8 := dkwX1_isPartialView_0 ++ dktX1_isPartialView_1
theorem dksX1_isPartialView_0 : cX1_isPartialView.data.toList.drop 0 = dktX1_isPartialView_0 := by decide +kernel
theorem dksX1_isPartialView_1 : cX1_isPartialView.data.toList.drop 24 = dktX1_isPartialView_1 := dk_seg dksX1_isPartialView_0 24 rfl rfl
theorem dX1_isPartialView_0 : decode cX1_isPartialView 0 = .ok (.aload_n 0, 1) := dk_42 (dk_at dksX1_isPartialView_0 0 rfl rfl)
theorem dX1_isPartialView_1 : decode cX1_isPartialView 1 = .ok (.getfield 32, 3) := dk_180 0 32 (dk_at dksX1_isPartialView_0 1 rfl rfl)
theorem dX1_isPartialView_4 : decode cX1_isPartialView 4 = .ok (.ifCond .gt 15, 3) := dk_157 0 15 (dk_at dksX1_isPartialView_0 4 rfl rfl)
theorem dX1_isPartialView_7 : decode cX1_isPartialView 7 = .ok (.aload_n 0, 1) := dk_42 (dk_at dksX1_isPartialView_0 7 rfl rfl)
theorem dX1_isPartialView_8 : decode cX1_isPartialView 8 = .ok (.getfield 36, 3) := dk_180 0 36 (dk_at dksX1_isPartialView_0 8 rfl rfl)
theorem dX1_isPartialView_11 : decode cX1_isPartialView 11 = .ok (.aload_n 0, 1) := dk_42 (dk_at dksX1_isPartialView_0 11 rfl rfl)
theorem dX1_isPartialView_12 : decode cX1_isPartialView 12 = .ok (.getfield 28, 3) := dk_180 0 28 (dk_at dksX1_isPartialView_0 12 rfl rfl)
theorem dX1_isPartialView_15 : decode cX1_isPartialView 15 = .ok (.arraylength, 1) := dk_190 (dk_at dksX1_isPartialView_0 15 rfl rfl)
theorem dX1_isPartialView_16 : decode cX1_isPartialView 16 = .ok (.if_icmp .ge 7, 3) := dk_162 0 7 (dk_at dksX1_isPartialView_0 16 rfl rfl)
theorem dX1_isPartialView_19 : decode cX1_isPartialView 19 = .ok (.iconst 1, 1) := dk_4 (dk_at dksX1_isPartialView_0 19 rfl rfl)
theorem dX1_isPartialView_20 : decode cX1_isPartialView 20 = .ok (.goto 4, 3) := dk_167 0 4 (dk_at dksX1_isPartialView_0 20 rfl rfl)
theorem dX1_isPartialView_23 : decode cX1_isPartialView 23 = .ok (.iconst 0, 1) := dk_3 (dk_at dksX1_isPartialView_0 23 rfl rfl)
theorem dX1_isPartialView_24 : decode cX1_isPartialView 24 = .ok (.ireturn, 1) := dk_172 (dk_at dksX1_isPartialView_1 0 rfl rfl)
abbrev cX1_toArray : ByteArray := prog_4_method_11_code
def yX1_toArray : MethodName := ⟨RX1, "toArray", "()[J"⟩
def dkwX1_toArray_0 : List UInt8 := [42, 180, 0, 28, 42, 180, 0, 32, 42, 180, 0, 36, 184, 0, 51, 176]
abbrev dktX1_toArray_0 : List UInt8 := dkwX1_toArray_0 ++ []
theorem dksX1_toArray_0 : cX1_toArray.data.toList.drop 0 = dktX1_toArray_0 := by decide +kernel
theorem dX1_toArray_0 : decode cX1_toArray 0 = .ok (.aload_n 0, 1) := dk_42 (dk_at dksX1_toArray_0 0 rfl rfl)
theorem dX1_toArray_1 : decode cX1_toArray 1 = .ok (.getfield 28, 3) := dk_180 0 28 (dk_at dksX1_toArray_0 1 rfl rfl)
theorem dX1_toArray_4 : decode cX1_toArray 4 = .ok (.aload_n 0, 1) := dk_42 (dk_at dksX1_toArray_0 4 rfl rfl)
theorem dX1_toArray_5 : decode cX1_toArray 5 = .ok (.getfield 32, 3) := dk_180 0 32 (dk_at dksX1_toArray_0 5 rfl rfl)
theorem dX1_toArray_8 : decode cX1_toArray 8 = .ok (.aload_n 0, 1) := dk_42 (dk_at dksX1_toArray_0 8 rfl rfl)
theorem dX1_toArray_9 : decode cX1_toArray 9 = .ok (.getfield 36, 3) := dk_180 0 36 (dk_at dksX1_toArray_0 9 rfl rfl)
theorem dX1_toArray_12 : decode cX1_toArray 12 = .ok (.invokestatic 51, 3) := dk_184 0 51 (dk_at dksX1_toArray_0 12 rfl rfl)
theorem dX1_toArray_15 : decode cX1_toArray 15 = .ok (.areturn, 1) := dk_176 (dk_at dksX1_toArray_0 15 rfl rfl)
abbrev cX1_isEmpty : ByteArray := prog_4_method_6_code
def yX1_isEmpty : MethodName := ⟨RX1, "isEmpty", "()Z"⟩
def dkwX1_isEmpty_0 : List UInt8 := [42, 180, 0, 36, 42, 180, 0, 32, 160, 0, 7, 4, 167, 0, 4, 3, 172]
abbrev dktX1_isEmpty_0 : List UInt8 := dkwX1_isEmpty_0 ++ []
theorem dksX1_isEmpty_0 : cX1_isEmpty.data.toList.drop 0 = dktX1_isEmpty_0 := by decide +kernel
theorem dX1_isEmpty_0 : decode cX1_isEmpty 0 = .ok (.aload_n 0, 1) := dk_42 (dk_at dksX1_isEmpty_0 0 rfl rfl)
theorem dX1_isEmpty_1 : decode cX1_isEmpty 1 = .ok (.getfield 36, 3) := dk_180 0 36 (dk_at dksX1_isEmpty_0 1 rfl rfl)
theorem dX1_isEmpty_4 : decode cX1_isEmpty 4 = .ok (.aload_n 0, 1) := dk_42 (dk_at dksX1_isEmpty_0 4 rfl rfl)
theorem dX1_isEmpty_5 : decode cX1_isEmpty 5 = .ok (.getfield 32, 3) := dk_180 0 32 (dk_at dksX1_isEmpty_0 5 rfl rfl)
theorem dX1_isEmpty_8 : decode cX1_isEmpty 8 = .ok (.if_icmp .ne 7, 3) := dk_160 0 7 (dk_at dksX1_isEmpty_0 8 rfl rfl)
theorem dX1_isEmpty_11 : decode cX1_isEmpty 11 = .ok (.iconst 1, 1) := dk_4 (dk_at dksX1_isEmpty_0 11 rfl rfl)
theorem dX1_isEmpty_12 : decode cX1_isEmpty 12 = .ok (.goto 4, 3) := dk_167 0 4 (dk_at dksX1_isEmpty_0 12 rfl rfl)
theorem dX1_isEmpty_15 : decode cX1_isEmpty 15 = .ok (.iconst 0, 1) := dk_3 (dk_at dksX1_isEmpty_0 15 rfl rfl)
theorem dX1_isEmpty_16 : decode cX1_isEmpty 16 = .ok (.ireturn, 1) := dk_172 (dk_at dksX1_isEmpty_0 16 rfl rfl)
abbrev cX1_get : ByteArray := prog_4_method_7_code
def yX1_get : MethodName := ⟨RX1, "get", "(I)J"⟩
def dkwX1_get_0 : List UInt8 := [27, 42, 182, 0, 39, 184, 0, 43, 87, 42, 180, 0, 28, 42, 180, 0, 32, 27, 96, 47, 173]
abbrev dktX1_get_0 : List UInt8 := dkwX1_get_0 ++ []
theorem dksX1_get_0 : cX1_get.data.toList.drop 0 = dktX1_get_0 := by decide +kernel
theorem dX1_get_0 : decode cX1_get 0 = .ok (.iload_n 1, 1) := dk_27 (dk_at dksX1_get_0 0 rfl rfl)
theorem dX1_get_1 : decode cX1_get 1 = .ok (.aload_n 0, 1) := dk_42 (dk_at dksX1_get_0 1 rfl rfl)
theorem dX1_get_2 : decode cX1_get 2 = .ok (.invokevirtual 39, 3) := dk_182 0 39 (dk_at dksX1_get_0 2 rfl rfl)
theorem dX1_get_5 : decode cX1_get 5 = .ok (.invokestatic 43, 3) := dk_184 0 43 (dk_at dksX1_get_0 5 rfl rfl)
theorem dX1_get_8 : decode cX1_get 8 = .ok (.pop, 1) := dk_87 (dk_at dksX1_get_0 8 rfl rfl)
theorem dX1_get_9 : decode cX1_get 9 = .ok (.aload_n 0, 1) := dk_42 (dk_at dksX1_get_0 9 rfl rfl)
theorem dX1_get_10 : decode cX1_get 10 = .ok (.getfield 28, 3) := dk_180 0 28 (dk_at dksX1_get_0 10 rfl rfl)
theorem dX1_get_13 : decode cX1_get 13 = .ok (.aload_n 0, 1) := dk_42 (dk_at dksX1_get_0 13 rfl rfl)
theorem dX1_get_14 : decode cX1_get 14 = .ok (.getfield 32, 3) := dk_180 0 32 (dk_at dksX1_get_0 14 rfl rfl)
theorem dX1_get_17 : decode cX1_get 17 = .ok (.iload_n 1, 1) := dk_27 (dk_at dksX1_get_0 17 rfl rfl)
theorem dX1_get_18 : decode cX1_get 18 = .ok (.iadd, 1) := dk_96 (dk_at dksX1_get_0 18 rfl rfl)
theorem dX1_get_19 : decode cX1_get 19 = .ok (.laload, 1) := dk_47 (dk_at dksX1_get_0 19 rfl rfl)
theorem dX1_get_20 : decode cX1_get 20 = .ok (.lreturn, 1) := dk_173 (dk_at dksX1_get_0 20 rfl rfl)
abbrev cX1_indexOf : ByteArray := prog_4_method_8_code
def yX1_indexOf : MethodName := ⟨RX1, "indexOf", "(J)I"⟩
def dkwX1_indexOf_1 : List UInt8 := [29, 42, 180, 0, 32, 100, 172, 132, 3, 1, 167, 255, 227, 2, 172]
abbrev dktX1_indexOf_1 : List UInt8 := dkwX1_indexOf_1 ++ []
def dkwX1_indexOf_0 : List UInt8 := [42, 180, 0, 32, 62, 29, 42, 180, 0, 36, 162, 0, 27, 42, 180, 0, 28, 29, 47, 31, 148, 154, 0, 10]
abbrev dktX1_indexOf_0 : List UInt8 := dkwX1_indexOf_0 ++ dktX1_indexOf_1
theorem dksX1_indexOf_0 : cX1_indexOf.data.toList.drop 0 = dktX1_indexOf_0 := by decide +kernel
theorem dksX1_indexOf_1 : cX1_indexOf.data.toList.drop 24 = dktX1_indexOf_1 := dk_seg dksX1_indexOf_0 24 rfl rfl
theorem dX1_indexOf_0 : decode cX1_indexOf 0 = .ok (.aload_n 0, 1) := dk_42 (dk_at dksX1_indexOf_0 0 rfl rfl)
theorem dX1_indexOf_1 : decode cX1_indexOf 1 = .ok (.getfield 32, 3) := dk_180 0 32 (dk_at dksX1_indexOf_0 1 rfl rfl)
theorem dX1_indexOf_4 : decode cX1_indexOf 4 = .ok (.istore_n 3, 1) := dk_62 (dk_at dksX1_indexOf_0 4 rfl rfl)
theorem dX1_indexOf_5 : decode cX1_indexOf 5 = .ok (.iload_n 3, 1) := dk_29 (dk_at dksX1_indexOf_0 5 rfl rfl)
theorem dX1_indexOf_6 : decode cX1_indexOf 6 = .ok (.aload_n 0, 1) := dk_42 (dk_at dksX1_indexOf_0 6 rfl rfl)
theorem dX1_indexOf_7 : decode cX1_indexOf 7 = .ok (.getfield 36, 3) := dk_180 0 36 (dk_at dksX1_indexOf_0 7 rfl rfl)
theorem dX1_indexOf_10 : decode cX1_indexOf 10 = .ok (.if_icmp .ge 27, 3) := dk_162 0 27 (dk_at dksX1_indexOf_0 10 rfl rfl)
theorem dX1_indexOf_13 : decode cX1_indexOf 13 = .ok (.aload_n 0, 1) := dk_42 (dk_at dksX1_indexOf_0 13 rfl rfl)
theorem dX1_indexOf_14 : decode cX1_indexOf 14 = .ok (.getfield 28, 3) := dk_180 0 28 (dk_at dksX1_indexOf_0 14 rfl rfl)
theorem dX1_indexOf_17 : decode cX1_indexOf 17 = .ok (.iload_n 3, 1) := dk_29 (dk_at dksX1_indexOf_0 17 rfl rfl)
theorem dX1_indexOf_18 : decode cX1_indexOf 18 = .ok (.laload, 1) := dk_47 (dk_at dksX1_indexOf_0 18 rfl rfl)
theorem dX1_indexOf_19 : decode cX1_indexOf 19 = .ok (.lload_n 1, 1) := dk_31 (dk_at dksX1_indexOf_0 19 rfl rfl)
theorem dX1_indexOf_20 : decode cX1_indexOf 20 = .ok (.lcmp, 1) := dk_148 (dk_at dksX1_indexOf_0 20 rfl rfl)
theorem dX1_indexOf_21 : decode cX1_indexOf 21 = .ok (.ifCond .ne 10, 3) := dk_154 0 10 (dk_at dksX1_indexOf_0 21 rfl rfl)
theorem dX1_indexOf_24 : decode cX1_indexOf 24 = .ok (.iload_n 3, 1) := dk_29 (dk_at dksX1_indexOf_1 0 rfl rfl)
theorem dX1_indexOf_25 : decode cX1_indexOf 25 = .ok (.aload_n 0, 1) := dk_42 (dk_at dksX1_indexOf_1 1 rfl rfl)
theorem dX1_indexOf_26 : decode cX1_indexOf 26 = .ok (.getfield 32, 3) := dk_180 0 32 (dk_at dksX1_indexOf_1 2 rfl rfl)
theorem dX1_indexOf_29 : decode cX1_indexOf 29 = .ok (.isub, 1) := dk_100 (dk_at dksX1_indexOf_1 5 rfl rfl)
theorem dX1_indexOf_30 : decode cX1_indexOf 30 = .ok (.ireturn, 1) := dk_172 (dk_at dksX1_indexOf_1 6 rfl rfl)
theorem dX1_indexOf_31 : decode cX1_indexOf 31 = .ok (.iinc 3 1, 3) := dk_132 3 1 (dk_at dksX1_indexOf_1 7 rfl rfl)
theorem dX1_indexOf_34 : decode cX1_indexOf 34 = .ok (.goto (-29), 3) := dk_167 255 227 (dk_at dksX1_indexOf_1 10 rfl rfl)
theorem dX1_indexOf_37 : decode cX1_indexOf 37 = .ok (.iconst (-1), 1) := dk_2 (dk_at dksX1_indexOf_1 13 rfl rfl)
theorem dX1_indexOf_38 : decode cX1_indexOf 38 = .ok (.ireturn, 1) := dk_172 (dk_at dksX1_indexOf_1 14 rfl rfl)
abbrev cX1_lastIndexOf : ByteArray := prog_4_method_9_code
def yX1_lastIndexOf : MethodName := ⟨RX1, "lastIndexOf", "(J)I"⟩
def dkwX1_lastIndexOf_1 : List UInt8 := [154, 0, 10, 29, 42, 180, 0, 32, 100, 172, 132, 3, 255, 167, 255, 227, 2, 172]
abbrev dktX1_lastIndexOf_1 : List UInt8 := dkwX1_lastIndexOf_1 ++ []
def dkwX1_lastIndexOf_0 : List UInt8 := [42, 180, 0, 36, 4, 100, 62, 29, 42, 180, 0, 32, 161, 0, 27, 42, 180, 0, 28, 29, 47, 31, 148]
abbrev dktX1_lastIndexOf_0 : List UInt8 := dkwX1_lastIndexOf_0 ++ dktX1_lastIndexOf_1
theorem dksX1_lastIndexOf_0 : cX1_lastIndexOf.data.toList.drop 0 = dktX1_lastIndexOf_0 := by decide +kernel
theorem dksX1_lastIndexOf_1 : cX1_lastIndexOf.data.toList.drop 23 = dktX1_lastIndexOf_1 := dk_seg dksX1_lastIndexOf_0 23 rfl rfl
theorem dX1_lastIndexOf_0 : decode cX1_lastIndexOf 0 = .ok (.aload_n 0, 1) := dk_42 (dk_at dksX1_lastIndexOf_0 0 rfl rfl)
theorem dX1_lastIndexOf_1 : decode cX1_lastIndexOf 1 = .ok (.getfield 36, 3) := dk_180 0 36 (dk_at dksX1_lastIndexOf_0 1 rfl rfl)
theorem dX1_lastIndexOf_4 : decode cX1_lastIndexOf 4 = .ok (.iconst 1, 1) := dk_4 (dk_at dksX1_lastIndexOf_0 4 rfl rfl)
theorem dX1_lastIndexOf_5 : decode cX1_lastIndexOf 5 = .ok (.isub, 1) := dk_100 (dk_at dksX1_lastIndexOf_0 5 rfl rfl)
theorem dX1_lastIndexOf_6 : decode cX1_lastIndexOf 6 = .ok (.istore_n 3, 1) := dk_62 (dk_at dksX1_lastIndexOf_0 6 rfl rfl)
theorem dX1_lastIndexOf_7 : decode cX1_lastIndexOf 7 = .ok (.iload_n 3, 1) := dk_29 (dk_at dksX1_lastIndexOf_0 7 rfl rfl)
theorem dX1_lastIndexOf_8 : decode cX1_lastIndexOf 8 = .ok (.aload_n 0, 1) := dk_42 (dk_at dksX1_lastIndexOf_0 8 rfl rfl)
theorem dX1_lastIndexOf_9 : decode cX1_lastIndexOf 9 = .ok (.getfield 32, 3) := dk_180 0 32 (dk_at dksX1_lastIndexOf_0 9 rfl rfl)
theorem dX1_lastIndexOf_12 : decode cX1_lastIndexOf 12 = .ok (.if_icmp .lt 27, 3) := dk_161 0 27 (dk_at dksX1_lastIndexOf_0 12 rfl rfl)
theorem dX1_lastIndexOf_15 : decode cX1_lastIndexOf 15 = .ok (.aload_n 0, 1) := dk_42 (dk_at dksX1_lastIndexOf_0 15 rfl rfl)
theorem dX1_lastIndexOf_16 : decode cX1_lastIndexOf 16 = .ok (.getfield 28, 3) := dk_180 0 28 (dk_at dksX1_lastIndexOf_0 16 rfl rfl)
theorem dX1_lastIndexOf_19 : decode cX1_lastIndexOf 19 = .ok (.iload_n 3, 1) := dk_29 (dk_at dksX1_lastIndexOf_0 19 rfl rfl)
theorem dX1_lastIndexOf_20 : decode cX1_lastIndexOf 20 = .ok (.laload, 1) := dk_47 (dk_at dksX1_lastIndexOf_0 20 rfl rfl)
theorem dX1_lastIndexOf_21 : decode cX1_lastIndexOf 21 = .ok (.lload_n 1, 1) := dk_31 (dk_at dksX1_lastIndexOf_0 21 rfl rfl)
theorem dX1_lastIndexOf_22 : decode cX1_lastIndexOf 22 = .ok (.lcmp, 1) := dk_148 (dk_at dksX1_lastIndexOf_0 22 rfl rfl)
theorem dX1_lastIndexOf_23 : decode cX1_lastIndexOf 23 = .ok (.ifCond .ne 10, 3) := dk_154 0 10 (dk_at dksX1_lastIndexOf_1 0 rfl rfl)
theorem dX1_lastIndexOf_26 : decode cX1_lastIndexOf 26 = .ok (.iload_n 3, 1) := dk_29 (dk_at dksX1_lastIndexOf_1 3 rfl rfl)
theorem dX1_lastIndexOf_27 : decode cX1_lastIndexOf 27 = .ok (.aload_n 0, 1) := dk_42 (dk_at dksX1_lastIndexOf_1 4 rfl rfl)
theorem dX1_lastIndexOf_28 : decode cX1_lastIndexOf 28 = .ok (.getfield 32, 3) := dk_180 0 32 (dk_at dksX1_lastIndexOf_1 5 rfl rfl)
theorem dX1_lastIndexOf_31 : decode cX1_lastIndexOf 31 = .ok (.isub, 1) := dk_100 (dk_at dksX1_lastIndexOf_1 8 rfl rfl)
theorem dX1_lastIndexOf_32 : decode cX1_lastIndexOf 32 = .ok (.ireturn, 1) := dk_172 (dk_at dksX1_lastIndexOf_1 9 rfl rfl)
theorem dX1_lastIndexOf_33 : decode cX1_lastIndexOf 33 = .ok (.iinc 3 (-1), 3) := dk_132 3 255 (dk_at dksX1_lastIndexOf_1 10 rfl rfl)
theorem dX1_lastIndexOf_36 : decode cX1_lastIndexOf 36 = .ok (.goto (-29), 3) := dk_167 255 227 (dk_at dksX1_lastIndexOf_1 13 rfl rfl)
theorem dX1_lastIndexOf_39 : decode cX1_lastIndexOf 39 = .ok (.iconst (-1), 1) := dk_2 (dk_at dksX1_lastIndexOf_1 16 rfl rfl)
theorem dX1_lastIndexOf_40 : decode cX1_lastIndexOf 40 = .ok (.ireturn, 1) := dk_172 (dk_at dksX1_lastIndexOf_1 17 rfl rfl)
abbrev cX1_contains : ByteArray := prog_4_method_10_code
def yX1_contains : MethodName := ⟨RX1, "contains", "(J)Z"⟩
def dkwX1_contains_0 : List UInt8 := [42, 31, 182, 0, 47, 155, 0, 7, 4, 167, 0, 4, 3, 172]
abbrev dktX1_contains_0 : List UInt8 := dkwX1_contains_0 ++ []
theorem dksX1_contains_0 : cX1_contains.data.toList.drop 0 = dktX1_contains_0 := by decide +kernel
theorem dX1_contains_0 : decode cX1_contains 0 = .ok (.aload_n 0, 1) := dk_42 (dk_at dksX1_contains_0 0 rfl rfl)
theorem dX1_contains_1 : decode cX1_contains 1 = .ok (.lload_n 1, 1) := dk_31 (dk_at dksX1_contains_0 1 rfl rfl)
theorem dX1_contains_2 : decode cX1_contains 2 = .ok (.invokevirtual 47, 3) := dk_182 0 47 (dk_at dksX1_contains_0 2 rfl rfl)
theorem dX1_contains_5 : decode cX1_contains 5 = .ok (.ifCond .lt 7, 3) := dk_155 0 7 (dk_at dksX1_contains_0 5 rfl rfl)
theorem dX1_contains_8 : decode cX1_contains 8 = .ok (.iconst 1, 1) := dk_4 (dk_at dksX1_contains_0 8 rfl rfl)
theorem dX1_contains_9 : decode cX1_contains 9 = .ok (.goto 4, 3) := dk_167 0 4 (dk_at dksX1_contains_0 9 rfl rfl)
theorem dX1_contains_12 : decode cX1_contains 12 = .ok (.iconst 0, 1) := dk_3 (dk_at dksX1_contains_0 12 rfl rfl)
theorem dX1_contains_13 : decode cX1_contains 13 = .ok (.ireturn, 1) := dk_172 (dk_at dksX1_contains_0 13 rfl rfl)
abbrev cX1_equals : ByteArray := prog_4_method_13_code
def yX1_equals : MethodName := ⟨RX1, "equals", "(Ljava/lang/Object;)Z"⟩
def dkwX1_equals_2 : List UInt8 := [182, 0, 61, 44, 29, 182, 0, 61, 148, 153, 0, 5, 3, 172, 132, 3, 1, 167, 255, 229, 4, 172]
abbrev dktX1_equals_2 : List UInt8 := dkwX1_equals_2 ++ []
def dkwX1_equals_1 : List UInt8 := [182, 0, 39, 44, 182, 0, 39, 159, 0, 5, 3, 172, 3, 62, 29, 42, 182, 0, 39, 162, 0, 25, 42, 29]
abbrev dktX1_equals_1 : List UInt8 := dkwX1_equals_1 ++ dktX1_equals_2
def dkwX1_equals_0 : List UInt8 := [43, 42, 166, 0, 5, 4, 172, 43, 193, 0, 1, 154, 0, 5, 3, 172, 43, 192, 0, 1, 77, 42]
abbrev dktX1_equals_0 : List UInt8 := dkwX1_equals_0 ++ dktX1_equals_1
theorem dksX1_equals_0 : cX1_equals.data.toList.drop 0 = dktX1_equals_0 := by decide +kernel
theorem dksX1_equals_1 : cX1_equals.data.toList.drop 22 = dktX1_equals_1 := dk_seg dksX1_equals_0 22 rfl rfl
theorem dksX1_equals_2 : cX1_equals.data.toList.drop 46 = dktX1_equals_2 := dk_seg dksX1_equals_1 24 rfl rfl
theorem dX1_equals_0 : decode cX1_equals 0 = .ok (.aload_n 1, 1) := dk_43 (dk_at dksX1_equals_0 0 rfl rfl)
theorem dX1_equals_1 : decode cX1_equals 1 = .ok (.aload_n 0, 1) := dk_42 (dk_at dksX1_equals_0 1 rfl rfl)
theorem dX1_equals_2 : decode cX1_equals 2 = .ok (.if_acmp .ne 5, 3) := dk_166 0 5 (dk_at dksX1_equals_0 2 rfl rfl)
theorem dX1_equals_5 : decode cX1_equals 5 = .ok (.iconst 1, 1) := dk_4 (dk_at dksX1_equals_0 5 rfl rfl)
theorem dX1_equals_6 : decode cX1_equals 6 = .ok (.ireturn, 1) := dk_172 (dk_at dksX1_equals_0 6 rfl rfl)
theorem dX1_equals_7 : decode cX1_equals 7 = .ok (.aload_n 1, 1) := dk_43 (dk_at dksX1_equals_0 7 rfl rfl)
theorem dX1_equals_8 : decode cX1_equals 8 = .ok (.instanceof 1, 3) := dk_193 0 1 (dk_at dksX1_equals_0 8 rfl rfl)
theorem dX1_equals_11 : decode cX1_equals 11 = .ok (.ifCond .ne 5, 3) := dk_154 0 5 (dk_at dksX1_equals_0 11 rfl rfl)
theorem dX1_equals_14 : decode cX1_equals 14 = .ok (.iconst 0, 1) := dk_3 (dk_at dksX1_equals_0 14 rfl rfl)
theorem dX1_equals_15 : decode cX1_equals 15 = .ok (.ireturn, 1) := dk_172 (dk_at dksX1_equals_0 15 rfl rfl)
theorem dX1_equals_16 : decode cX1_equals 16 = .ok (.aload_n 1, 1) := dk_43 (dk_at dksX1_equals_0 16 rfl rfl)
theorem dX1_equals_17 : decode cX1_equals 17 = .ok (.checkcast 1, 3) := dk_192 0 1 (dk_at dksX1_equals_0 17 rfl rfl)
theorem dX1_equals_20 : decode cX1_equals 20 = .ok (.astore_n 2, 1) := dk_77 (dk_at dksX1_equals_0 20 rfl rfl)
theorem dX1_equals_21 : decode cX1_equals 21 = .ok (.aload_n 0, 1) := dk_42 (dk_at dksX1_equals_0 21 rfl rfl)
theorem dX1_equals_22 : decode cX1_equals 22 = .ok (.invokevirtual 39, 3) := dk_182 0 39 (dk_at dksX1_equals_1 0 rfl rfl)
theorem dX1_equals_25 : decode cX1_equals 25 = .ok (.aload_n 2, 1) := dk_44 (dk_at dksX1_equals_1 3 rfl rfl)
theorem dX1_equals_26 : decode cX1_equals 26 = .ok (.invokevirtual 39, 3) := dk_182 0 39 (dk_at dksX1_equals_1 4 rfl rfl)
theorem dX1_equals_29 : decode cX1_equals 29 = .ok (.if_icmp .eq 5, 3) := dk_159 0 5 (dk_at dksX1_equals_1 7 rfl rfl)
theorem dX1_equals_32 : decode cX1_equals 32 = .ok (.iconst 0, 1) := dk_3 (dk_at dksX1_equals_1 10 rfl rfl)
theorem dX1_equals_33 : decode cX1_equals 33 = .ok (.ireturn, 1) := dk_172 (dk_at dksX1_equals_1 11 rfl rfl)
theorem dX1_equals_34 : decode cX1_equals 34 = .ok (.iconst 0, 1) := dk_3 (dk_at dksX1_equals_1 12 rfl rfl)
theorem dX1_equals_35 : decode cX1_equals 35 = .ok (.istore_n 3, 1) := dk_62 (dk_at dksX1_equals_1 13 rfl rfl)
theorem dX1_equals_36 : decode cX1_equals 36 = .ok (.iload_n 3, 1) := dk_29 (dk_at dksX1_equals_1 14 rfl rfl)
theorem dX1_equals_37 : decode cX1_equals 37 = .ok (.aload_n 0, 1) := dk_42 (dk_at dksX1_equals_1 15 rfl rfl)
theorem dX1_equals_38 : decode cX1_equals 38 = .ok (.invokevirtual 39, 3) := dk_182 0 39 (dk_at dksX1_equals_1 16 rfl rfl)
theorem dX1_equals_41 : decode cX1_equals 41 = .ok (.if_icmp .ge 25, 3) := dk_162 0 25 (dk_at dksX1_equals_1 19 rfl rfl)
theorem dX1_equals_44 : decode cX1_equals 44 = .ok (.aload_n 0, 1) := dk_42 (dk_at dksX1_equals_1 22 rfl rfl)
theorem dX1_equals_45 : decode cX1_equals 45 = .ok (.iload_n 3, 1) := dk_29 (dk_at dksX1_equals_1 23 rfl rfl)
theorem dX1_equals_46 : decode cX1_equals 46 = .ok (.invokevirtual 61, 3) := dk_182 0 61 (dk_at dksX1_equals_2 0 rfl rfl)
theorem dX1_equals_49 : decode cX1_equals 49 = .ok (.aload_n 2, 1) := dk_44 (dk_at dksX1_equals_2 3 rfl rfl)
theorem dX1_equals_50 : decode cX1_equals 50 = .ok (.iload_n 3, 1) := dk_29 (dk_at dksX1_equals_2 4 rfl rfl)
theorem dX1_equals_51 : decode cX1_equals 51 = .ok (.invokevirtual 61, 3) := dk_182 0 61 (dk_at dksX1_equals_2 5 rfl rfl)
theorem dX1_equals_54 : decode cX1_equals 54 = .ok (.lcmp, 1) := dk_148 (dk_at dksX1_equals_2 8 rfl rfl)
theorem dX1_equals_55 : decode cX1_equals 55 = .ok (.ifCond .eq 5, 3) := dk_153 0 5 (dk_at dksX1_equals_2 9 rfl rfl)
theorem dX1_equals_58 : decode cX1_equals 58 = .ok (.iconst 0, 1) := dk_3 (dk_at dksX1_equals_2 12 rfl rfl)
theorem dX1_equals_59 : decode cX1_equals 59 = .ok (.ireturn, 1) := dk_172 (dk_at dksX1_equals_2 13 rfl rfl)
theorem dX1_equals_60 : decode cX1_equals 60 = .ok (.iinc 3 1, 3) := dk_132 3 1 (dk_at dksX1_equals_2 14 rfl rfl)
theorem dX1_equals_63 : decode cX1_equals 63 = .ok (.goto (-27), 3) := dk_167 255 229 (dk_at dksX1_equals_2 17 rfl rfl)
theorem dX1_equals_66 : decode cX1_equals 66 = .ok (.iconst 1, 1) := dk_4 (dk_at dksX1_equals_2 20 rfl rfl)
theorem dX1_equals_67 : decode cX1_equals 67 = .ok (.ireturn, 1) := dk_172 (dk_at dksX1_equals_2 21 rfl rfl)
abbrev cX1_hashCode : ByteArray := prog_4_method_14_code
def yX1_hashCode : MethodName := ⟨RX1, "hashCode", "()I"⟩
def dkwX1_hashCode_1 : List UInt8 := [180, 0, 28, 28, 47, 184, 0, 65, 96, 60, 132, 2, 1, 167, 255, 228, 27, 172]
abbrev dktX1_hashCode_1 : List UInt8 := dkwX1_hashCode_1 ++ []
def dkwX1_hashCode_0 : List UInt8 := [4, 60, 42, 180, 0, 32, 61, 28, 42, 180, 0, 36, 162, 0, 26, 27, 16, 31, 104, 60, 27, 42]
abbrev dktX1_hashCode_0 : List UInt8 := dkwX1_hashCode_0 ++ dktX1_hashCode_1
theorem dksX1_hashCode_0 : cX1_hashCode.data.toList.drop 0 = dktX1_hashCode_0 := by decide +kernel
theorem dksX1_hashCode_1 : cX1_hashCode.data.toList.drop 22 = dktX1_hashCode_1 := dk_seg dksX1_hashCode_0 22 rfl rfl
theorem dX1_hashCode_0 : decode cX1_hashCode 0 = .ok (.iconst 1, 1) := dk_4 (dk_at dksX1_hashCode_0 0 rfl rfl)
theorem dX1_hashCode_1 : decode cX1_hashCode 1 = .ok (.istore_n 1, 1) := dk_60 (dk_at dksX1_hashCode_0 1 rfl rfl)
theorem dX1_hashCode_2 : decode cX1_hashCode 2 = .ok (.aload_n 0, 1) := dk_42 (dk_at dksX1_hashCode_0 2 rfl rfl)
theorem dX1_hashCode_3 : decode cX1_hashCode 3 = .ok (.getfield 32, 3) := dk_180 0 32 (dk_at dksX1_hashCode_0 3 rfl rfl)
theorem dX1_hashCode_6 : decode cX1_hashCode 6 = .ok (.istore_n 2, 1) := dk_61 (dk_at dksX1_hashCode_0 6 rfl rfl)
theorem dX1_hashCode_7 : decode cX1_hashCode 7 = .ok (.iload_n 2, 1) := dk_28 (dk_at dksX1_hashCode_0 7 rfl rfl)
theorem dX1_hashCode_8 : decode cX1_hashCode 8 = .ok (.aload_n 0, 1) := dk_42 (dk_at dksX1_hashCode_0 8 rfl rfl)
theorem dX1_hashCode_9 : decode cX1_hashCode 9 = .ok (.getfield 36, 3) := dk_180 0 36 (dk_at dksX1_hashCode_0 9 rfl rfl)
theorem dX1_hashCode_12 : decode cX1_hashCode 12 = .ok (.if_icmp .ge 26, 3) := dk_162 0 26 (dk_at dksX1_hashCode_0 12 rfl rfl)
theorem dX1_hashCode_15 : decode cX1_hashCode 15 = .ok (.iload_n 1, 1) := dk_27 (dk_at dksX1_hashCode_0 15 rfl rfl)
theorem dX1_hashCode_16 : decode cX1_hashCode 16 = .ok (.bipush 31, 2) := dk_16 31 (dk_at dksX1_hashCode_0 16 rfl rfl)
theorem dX1_hashCode_18 : decode cX1_hashCode 18 = .ok (.imul, 1) := dk_104 (dk_at dksX1_hashCode_0 18 rfl rfl)
theorem dX1_hashCode_19 : decode cX1_hashCode 19 = .ok (.istore_n 1, 1) := dk_60 (dk_at dksX1_hashCode_0 19 rfl rfl)
theorem dX1_hashCode_20 : decode cX1_hashCode 20 = .ok (.iload_n 1, 1) := dk_27 (dk_at dksX1_hashCode_0 20 rfl rfl)
theorem dX1_hashCode_21 : decode cX1_hashCode 21 = .ok (.aload_n 0, 1) := dk_42 (dk_at dksX1_hashCode_0 21 rfl rfl)
theorem dX1_hashCode_22 : decode cX1_hashCode 22 = .ok (.getfield 28, 3) := dk_180 0 28 (dk_at dksX1_hashCode_1 0 rfl rfl)
theorem dX1_hashCode_25 : decode cX1_hashCode 25 = .ok (.iload_n 2, 1) := dk_28 (dk_at dksX1_hashCode_1 3 rfl rfl)
theorem dX1_hashCode_26 : decode cX1_hashCode 26 = .ok (.laload, 1) := dk_47 (dk_at dksX1_hashCode_1 4 rfl rfl)
theorem dX1_hashCode_27 : decode cX1_hashCode 27 = .ok (.invokestatic 65, 3) := dk_184 0 65 (dk_at dksX1_hashCode_1 5 rfl rfl)
theorem dX1_hashCode_30 : decode cX1_hashCode 30 = .ok (.iadd, 1) := dk_96 (dk_at dksX1_hashCode_1 8 rfl rfl)
theorem dX1_hashCode_31 : decode cX1_hashCode 31 = .ok (.istore_n 1, 1) := dk_60 (dk_at dksX1_hashCode_1 9 rfl rfl)
theorem dX1_hashCode_32 : decode cX1_hashCode 32 = .ok (.iinc 2 1, 3) := dk_132 2 1 (dk_at dksX1_hashCode_1 10 rfl rfl)
theorem dX1_hashCode_35 : decode cX1_hashCode 35 = .ok (.goto (-28), 3) := dk_167 255 228 (dk_at dksX1_hashCode_1 13 rfl rfl)
theorem dX1_hashCode_38 : decode cX1_hashCode 38 = .ok (.iload_n 1, 1) := dk_27 (dk_at dksX1_hashCode_1 16 rfl rfl)
theorem dX1_hashCode_39 : decode cX1_hashCode 39 = .ok (.ireturn, 1) := dk_172 (dk_at dksX1_hashCode_1 17 rfl rfl)
theorem q5 : (Jvm.Cond.initialized "ImmutableLongArray") ∈ lw_all := lw_g (lw_at lw_m1 2 rfl) rfl
theorem q30 : (Jvm.Cond.static ({ cls := "ImmutableLongArray", name := "builder", desc := "(I)LImmutableLongArray$Builder;" } : Jvm.MethodName)) ∈ lw_all := lw_g (lw_at lw_m1 27 rfl) rfl
theorem q31 : (Jvm.Cond.code ({ cls := "ImmutableLongArray", name := "builder", desc := "(I)LImmutableLongArray$Builder;" } : Jvm.MethodName) prog_4_method_2_code (1 : Nat) (Option.some (Jvm.ClassFile.FieldType.object "ImmutableLongArray$Builder"))) ∈ lw_all := lw_g (lw_at lw_m1 28 rfl) rfl
theorem q32 : (Jvm.Cond.stringRef "ImmutableLongArray" (7 : Nat) "Invalid initialCapacity: %s") ∈ lw_tbl := lw_at lw_m1 29 rfl
theorem q33 : (Jvm.Cond.methodLink "ImmutableLongArray" (9 : Nat) ({ cls := "Preconditions", name := "checkArgument", desc := "(ZLjava/lang/String;I)V" } : Jvm.MethodName)) ∈ lw_all := lw_g (lw_at lw_m1 30 rfl) rfl
theorem q104 : (Jvm.Cond.classLink "ImmutableLongArray" (15 : Nat) "ImmutableLongArray$Builder") ∈ lw_all := lw_g (lw_at lw_m1 101 rfl) rfl
theorem q106 : (Jvm.Cond.methodLink "ImmutableLongArray" (17 : Nat) ({ cls := "ImmutableLongArray$Builder", name := "<init>", desc := "(I)V" } : Jvm.MethodName)) ∈ lw_all := lw_g (lw_at lw_m1 103 rfl) rfl
theorem q121 : (Jvm.Cond.static ({ cls := "ImmutableLongArray", name := "of", desc := "(J)LImmutableLongArray;" } : Jvm.MethodName)) ∈ lw_all := lw_g (lw_at lw_m1 118 rfl) rfl
theorem q122 : (Jvm.Cond.code ({ cls := "ImmutableLongArray", name := "of", desc := "(J)LImmutableLongArray;" } : Jvm.MethodName) prog_4_method_1_code (2 : Nat) (Option.some (Jvm.ClassFile.FieldType.object "ImmutableLongArray"))) ∈ lw_all := lw_g (lw_at lw_m1 119 rfl) rfl
theorem q123 : (Jvm.Cond.classLink "ImmutableLongArray" (1 : Nat) "ImmutableLongArray") ∈ lw_all := lw_g (lw_at lw_m1 120 rfl) rfl
theorem q124 : (Jvm.Cond.instantiable "ImmutableLongArray" (3 : Nat)) ∈ lw_all := lw_g (lw_at lw_m1 121 rfl) rfl
theorem q125 : (Jvm.Cond.methodLink "ImmutableLongArray" (3 : Nat) ({ cls := "ImmutableLongArray", name := "<init>", desc := "([J)V" } : Jvm.MethodName)) ∈ lw_all := lw_g (lw_at lw_m1 122 rfl) rfl
theorem q126 : (Jvm.Cond.instanceMethod ({ cls := "ImmutableLongArray", name := "<init>", desc := "([J)V" } : Jvm.MethodName)) ∈ lw_all := lw_g (lw_at lw_m1 123 rfl) rfl
theorem q127 : (Jvm.Cond.code ({ cls := "ImmutableLongArray", name := "<init>", desc := "([J)V" } : Jvm.MethodName) prog_4_method_3_code (2 : Nat) (Option.none : Option Jvm.ClassFile.FieldType)) ∈ lw_all := lw_g (lw_at lw_m1 124 rfl) rfl
theorem q128 : (Jvm.Cond.methodLink "ImmutableLongArray" (20 : Nat) ({ cls := "ImmutableLongArray", name := "<init>", desc := "([JII)V" } : Jvm.MethodName)) ∈ lw_all := lw_g (lw_at lw_m1 125 rfl) rfl
theorem q129 : (Jvm.Cond.instanceMethod ({ cls := "ImmutableLongArray", name := "<init>", desc := "([JII)V" } : Jvm.MethodName)) ∈ lw_all := lw_g (lw_at lw_m1 126 rfl) rfl
theorem q130 : (Jvm.Cond.code ({ cls := "ImmutableLongArray", name := "<init>", desc := "([JII)V" } : Jvm.MethodName) prog_4_method_4_code (4 : Nat) (Option.none : Option Jvm.ClassFile.FieldType)) ∈ lw_all := lw_g (lw_at lw_m1 127 rfl) rfl
theorem q131 : (Jvm.Cond.methodLink "ImmutableLongArray" (23 : Nat) ({ cls := "java/lang/Object", name := "<init>", desc := "()V" } : Jvm.MethodName)) ∈ lw_all := lw_g (lw_at lw_m1 128 rfl) rfl
theorem q133 : (Jvm.Cond.fieldLink "ImmutableLongArray" (28 : Nat) "ImmutableLongArray" "array" "[J") ∈ lw_all := lw_g (lw_at lw_m1 130 rfl) rfl
theorem q135 : (Jvm.Cond.fieldLink "ImmutableLongArray" (32 : Nat) "ImmutableLongArray" "start" "I") ∈ lw_all := lw_g (lw_at lw_m1 132 rfl) rfl
theorem q136 : (Jvm.Cond.fieldLink "ImmutableLongArray" (36 : Nat) "ImmutableLongArray" "end" "I") ∈ lw_all := lw_g (lw_at lw_m1 133 rfl) rfl
theorem q137 : (Jvm.Cond.laysFinal "ImmutableLongArray" "ImmutableLongArray" "array" "[J") ∈ lw_all := lw_g (lw_at lw_m1 134 rfl) rfl
theorem q138 : (Jvm.Cond.soleField "ImmutableLongArray" "array") ∈ lw_all := lw_g (lw_at lw_m1 135 rfl) rfl
theorem q139 : (Jvm.Cond.laysFinal "ImmutableLongArray" "ImmutableLongArray" "start" "I") ∈ lw_all := lw_g (lw_at lw_m1 136 rfl) rfl
theorem q140 : (Jvm.Cond.soleField "ImmutableLongArray" "start") ∈ lw_all := lw_g (lw_at lw_m1 137 rfl) rfl
theorem q141 : (Jvm.Cond.laysFinal "ImmutableLongArray" "ImmutableLongArray" "end" "I") ∈ lw_all := lw_g (lw_at lw_m1 138 rfl) rfl
theorem q142 : (Jvm.Cond.soleField "ImmutableLongArray" "end") ∈ lw_all := lw_g (lw_at lw_m1 139 rfl) rfl
theorem q143 : (Jvm.Cond.superclass "ImmutableLongArray" "java/lang/Object") ∈ lw_all := lw_g (lw_at lw_m1 140 rfl) rfl
theorem q219 : (Jvm.Cond.instanceMethod ({ cls := "ImmutableLongArray", name := "length", desc := "()I" } : Jvm.MethodName)) ∈ lw_all := lw_g (lw_at lw_m1 216 rfl) rfl
theorem q220 : (Jvm.Cond.selects "ImmutableLongArray" ({ cls := "ImmutableLongArray", name := "length", desc := "()I" } : Jvm.MethodName) ({ cls := "ImmutableLongArray", name := "length", desc := "()I" } : Jvm.MethodName)) ∈ lw_all := lw_g (lw_at lw_m1 217 rfl) rfl
theorem q221 : (Jvm.Cond.code ({ cls := "ImmutableLongArray", name := "length", desc := "()I" } : Jvm.MethodName) prog_4_method_5_code (1 : Nat) (Option.some Jvm.ClassFile.FieldType.int)) ∈ lw_all := lw_g (lw_at lw_m1 218 rfl) rfl
theorem q249 : (Jvm.Cond.instanceMethod ({ cls := "ImmutableLongArray", name := "subArray", desc := "(II)LImmutableLongArray;" } : Jvm.MethodName)) ∈ lw_all := lw_g (lw_at lw_m2 6 rfl) rfl
theorem q250 : (Jvm.Cond.selects "ImmutableLongArray" ({ cls := "ImmutableLongArray", name := "subArray", desc := "(II)LImmutableLongArray;" } : Jvm.MethodName) ({ cls := "ImmutableLongArray", name := "subArray", desc := "(II)LImmutableLongArray;" } : Jvm.MethodName)) ∈ lw_all := lw_g (lw_at lw_m2 7 rfl) rfl
theorem q251 : (Jvm.Cond.code ({ cls := "ImmutableLongArray", name := "subArray", desc := "(II)LImmutableLongArray;" } : Jvm.MethodName) prog_4_method_12_code (3 : Nat) (Option.some (Jvm.ClassFile.FieldType.object "ImmutableLongArray"))) ∈ lw_all := lw_g (lw_at lw_m2 8 rfl) rfl
theorem q252 : (Jvm.Cond.methodLink "ImmutableLongArray" (39 : Nat) ({ cls := "ImmutableLongArray", name := "length", desc := "()I" } : Jvm.MethodName)) ∈ lw_all := lw_g (lw_at lw_m2 9 rfl) rfl
theorem q253 : (Jvm.Cond.methodLink "ImmutableLongArray" (57 : Nat) ({ cls := "Preconditions", name := "checkPositionIndexes", desc := "(III)V" } : Jvm.MethodName)) ∈ lw_all := lw_g (lw_at lw_m2 10 rfl) rfl
theorem q276 : (Jvm.Cond.instanceMethod ({ cls := "ImmutableLongArray", name := "trimmed", desc := "()LImmutableLongArray;" } : Jvm.MethodName)) ∈ lw_all := lw_g (lw_at lw_m2 33 rfl) rfl
theorem q277 : (Jvm.Cond.selects "ImmutableLongArray" ({ cls := "ImmutableLongArray", name := "trimmed", desc := "()LImmutableLongArray;" } : Jvm.MethodName) ({ cls := "ImmutableLongArray", name := "trimmed", desc := "()LImmutableLongArray;" } : Jvm.MethodName)) ∈ lw_all := lw_g (lw_at lw_m2 34 rfl) rfl
theorem q278 : (Jvm.Cond.code ({ cls := "ImmutableLongArray", name := "trimmed", desc := "()LImmutableLongArray;" } : Jvm.MethodName) prog_4_method_15_code (1 : Nat) (Option.some (Jvm.ClassFile.FieldType.object "ImmutableLongArray"))) ∈ lw_all := lw_g (lw_at lw_m2 35 rfl) rfl
theorem q279 : (Jvm.Cond.methodLink "ImmutableLongArray" (70 : Nat) ({ cls := "ImmutableLongArray", name := "isPartialView", desc := "()Z" } : Jvm.MethodName)) ∈ lw_all := lw_g (lw_at lw_m2 36 rfl) rfl
theorem q280 : (Jvm.Cond.privateMethod ({ cls := "ImmutableLongArray", name := "isPartialView", desc := "()Z" } : Jvm.MethodName)) ∈ lw_tbl := lw_at lw_m2 37 rfl
theorem q281 : (Jvm.Cond.instanceMethod ({ cls := "ImmutableLongArray", name := "isPartialView", desc := "()Z" } : Jvm.MethodName)) ∈ lw_all := lw_g (lw_at lw_m2 38 rfl) rfl
theorem q282 : (Jvm.Cond.code ({ cls := "ImmutableLongArray", name := "isPartialView", desc := "()Z" } : Jvm.MethodName) prog_4_method_16_code (1 : Nat) (Option.some Jvm.ClassFile.FieldType.boolean)) ∈ lw_all := lw_g (lw_at lw_m2 39 rfl) rfl
theorem q283 : (Jvm.Cond.methodLink "ImmutableLongArray" (74 : Nat) ({ cls := "ImmutableLongArray", name := "toArray", desc := "()[J" } : Jvm.MethodName)) ∈ lw_all := lw_g (lw_at lw_m2 40 rfl) rfl
theorem q284 : (Jvm.Cond.instanceMethod ({ cls := "ImmutableLongArray", name := "toArray", desc := "()[J" } : Jvm.MethodName)) ∈ lw_all := lw_g (lw_at lw_m2 41 rfl) rfl
theorem q285 : (Jvm.Cond.selects "ImmutableLongArray" ({ cls := "ImmutableLongArray", name := "toArray", desc := "()[J" } : Jvm.MethodName) ({ cls := "ImmutableLongArray", name := "toArray", desc := "()[J" } : Jvm.MethodName)) ∈ lw_all := lw_g (lw_at lw_m2 42 rfl) rfl
theorem q286 : (Jvm.Cond.code ({ cls := "ImmutableLongArray", name := "toArray", desc := "()[J" } : Jvm.MethodName) prog_4_method_11_code (1 : Nat) (Option.some (Jvm.ClassFile.FieldType.array Jvm.ClassFile.FieldType.long))) ∈ lw_all := lw_g (lw_at lw_m2 43 rfl) rfl
theorem q287 : (Jvm.Cond.methodLink "ImmutableLongArray" (51 : Nat) ({ cls := "java/util/Arrays", name := "copyOfRange", desc := "([JII)[J" } : Jvm.MethodName)) ∈ lw_all := lw_g (lw_at lw_m2 44 rfl) rfl
theorem q301 : (Jvm.Cond.instanceMethod ({ cls := "ImmutableLongArray", name := "isEmpty", desc := "()Z" } : Jvm.MethodName)) ∈ lw_all := lw_g (lw_at lw_m2 58 rfl) rfl
theorem q302 : (Jvm.Cond.selects "ImmutableLongArray" ({ cls := "ImmutableLongArray", name := "isEmpty", desc := "()Z" } : Jvm.MethodName) ({ cls := "ImmutableLongArray", name := "isEmpty", desc := "()Z" } : Jvm.MethodName)) ∈ lw_all := lw_g (lw_at lw_m2 59 rfl) rfl
theorem q303 : (Jvm.Cond.code ({ cls := "ImmutableLongArray", name := "isEmpty", desc := "()Z" } : Jvm.MethodName) prog_4_method_6_code (1 : Nat) (Option.some Jvm.ClassFile.FieldType.boolean)) ∈ lw_all := lw_g (lw_at lw_m2 60 rfl) rfl
theorem q305 : (Jvm.Cond.instanceMethod ({ cls := "ImmutableLongArray", name := "get", desc := "(I)J" } : Jvm.MethodName)) ∈ lw_all := lw_g (lw_at lw_m2 62 rfl) rfl
theorem q306 : (Jvm.Cond.selects "ImmutableLongArray" ({ cls := "ImmutableLongArray", name := "get", desc := "(I)J" } : Jvm.MethodName) ({ cls := "ImmutableLongArray", name := "get", desc := "(I)J" } : Jvm.MethodName)) ∈ lw_all := lw_g (lw_at lw_m2 63 rfl) rfl
theorem q307 : (Jvm.Cond.code ({ cls := "ImmutableLongArray", name := "get", desc := "(I)J" } : Jvm.MethodName) prog_4_method_7_code (2 : Nat) (Option.some Jvm.ClassFile.FieldType.long)) ∈ lw_all := lw_g (lw_at lw_m2 64 rfl) rfl
theorem q308 : (Jvm.Cond.methodLink "ImmutableLongArray" (43 : Nat) ({ cls := "Preconditions", name := "checkElementIndex", desc := "(II)I" } : Jvm.MethodName)) ∈ lw_all := lw_g (lw_at lw_m2 65 rfl) rfl
theorem q320 : (Jvm.Cond.instanceMethod ({ cls := "ImmutableLongArray", name := "indexOf", desc := "(J)I" } : Jvm.MethodName)) ∈ lw_all := lw_g (lw_at lw_m2 77 rfl) rfl
theorem q321 : (Jvm.Cond.selects "ImmutableLongArray" ({ cls := "ImmutableLongArray", name := "indexOf", desc := "(J)I" } : Jvm.MethodName) ({ cls := "ImmutableLongArray", name := "indexOf", desc := "(J)I" } : Jvm.MethodName)) ∈ lw_all := lw_g (lw_at lw_m2 78 rfl) rfl
theorem q322 : (Jvm.Cond.code ({ cls := "ImmutableLongArray", name := "indexOf", desc := "(J)I" } : Jvm.MethodName) prog_4_method_8_code (4 : Nat) (Option.some Jvm.ClassFile.FieldType.int)) ∈ lw_all := lw_g (lw_at lw_m2 79 rfl) rfl
theorem q328 : (Jvm.Cond.instanceMethod ({ cls := "ImmutableLongArray", name := "lastIndexOf", desc := "(J)I" } : Jvm.MethodName)) ∈ lw_all := lw_g (lw_at lw_m2 85 rfl) rfl
theorem q329 : (Jvm.Cond.selects "ImmutableLongArray" ({ cls := "ImmutableLongArray", name := "lastIndexOf", desc := "(J)I" } : Jvm.MethodName) ({ cls := "ImmutableLongArray", name := "lastIndexOf", desc := "(J)I" } : Jvm.MethodName)) ∈ lw_all := lw_g (lw_at lw_m2 86 rfl) rfl
theorem q330 : (Jvm.Cond.code ({ cls := "ImmutableLongArray", name := "lastIndexOf", desc := "(J)I" } : Jvm.MethodName) prog_4_method_9_code (4 : Nat) (Option.some Jvm.ClassFile.FieldType.int)) ∈ lw_all := lw_g (lw_at lw_m2 87 rfl) rfl
theorem q336 : (Jvm.Cond.instanceMethod ({ cls := "ImmutableLongArray", name := "contains", desc := "(J)Z" } : Jvm.MethodName)) ∈ lw_all := lw_g (lw_at lw_m2 93 rfl) rfl
theorem q337 : (Jvm.Cond.selects "ImmutableLongArray" ({ cls := "ImmutableLongArray", name := "contains", desc := "(J)Z" } : Jvm.MethodName) ({ cls := "ImmutableLongArray", name := "contains", desc := "(J)Z" } : Jvm.MethodName)) ∈ lw_all := lw_g (lw_at lw_m2 94 rfl) rfl
theorem q338 : (Jvm.Cond.code ({ cls := "ImmutableLongArray", name := "contains", desc := "(J)Z" } : Jvm.MethodName) prog_4_method_10_code (3 : Nat) (Option.some Jvm.ClassFile.FieldType.boolean)) ∈ lw_all := lw_g (lw_at lw_m2 95 rfl) rfl
theorem q339 : (Jvm.Cond.methodLink "ImmutableLongArray" (47 : Nat) ({ cls := "ImmutableLongArray", name := "indexOf", desc := "(J)I" } : Jvm.MethodName)) ∈ lw_all := lw_g (lw_at lw_m2 96 rfl) rfl
theorem q349 : (Jvm.Cond.instanceMethod ({ cls := "ImmutableLongArray", name := "equals", desc := "(Ljava/lang/Object;)Z" } : Jvm.MethodName)) ∈ lw_all := lw_g (lw_at lw_m2 106 rfl) rfl
theorem q350 : (Jvm.Cond.selects "ImmutableLongArray" ({ cls := "ImmutableLongArray", name := "equals", desc := "(Ljava/lang/Object;)Z" } : Jvm.MethodName) ({ cls := "ImmutableLongArray", name := "equals", desc := "(Ljava/lang/Object;)Z" } : Jvm.MethodName)) ∈ lw_all := lw_g (lw_at lw_m2 107 rfl) rfl
theorem q351 : (Jvm.Cond.code ({ cls := "ImmutableLongArray", name := "equals", desc := "(Ljava/lang/Object;)Z" } : Jvm.MethodName) prog_4_method_13_code (4 : Nat) (Option.some Jvm.ClassFile.FieldType.boolean)) ∈ lw_all := lw_g (lw_at lw_m2 108 rfl) rfl
theorem q352 : (Jvm.Cond.methodLink "ImmutableLongArray" (61 : Nat) ({ cls := "ImmutableLongArray", name := "get", desc := "(I)J" } : Jvm.MethodName)) ∈ lw_all := lw_g (lw_at lw_m2 109 rfl) rfl
theorem q358 : (Jvm.Cond.instanceMethod ({ cls := "ImmutableLongArray", name := "hashCode", desc := "()I" } : Jvm.MethodName)) ∈ lw_all := lw_g (lw_at lw_m2 115 rfl) rfl
theorem q359 : (Jvm.Cond.selects "ImmutableLongArray" ({ cls := "ImmutableLongArray", name := "hashCode", desc := "()I" } : Jvm.MethodName) ({ cls := "ImmutableLongArray", name := "hashCode", desc := "()I" } : Jvm.MethodName)) ∈ lw_all := lw_g (lw_at lw_m2 116 rfl) rfl
theorem q360 : (Jvm.Cond.code ({ cls := "ImmutableLongArray", name := "hashCode", desc := "()I" } : Jvm.MethodName) prog_4_method_14_code (3 : Nat) (Option.some Jvm.ClassFile.FieldType.int)) ∈ lw_all := lw_g (lw_at lw_m2 117 rfl) rfl
theorem q361 : (Jvm.Cond.methodLink "ImmutableLongArray" (65 : Nat) ({ cls := "java/lang/Long", name := "hashCode", desc := "(J)I" } : Jvm.MethodName)) ∈ lw_all := lw_g (lw_at lw_m2 118 rfl) rfl
theorem in_X1 : ∀ w ∈ wsX10, w ∈ lw_all := lw_in wsX10 [137, 139, 141] (by decide +kernel) (by decide +kernel)
/-! Preconditions -/
set_option maxRecDepth 100000
def RX2 : String := "Preconditions"
abbrev cX2_checkArgument : ByteArray := prog_6_method_1_code
def yX2_checkArgument : MethodName := ⟨RX2, "checkArgument", "(ZLjava/lang/String;I)V"⟩
def dkwX2_checkArgument_0 : List UInt8 := [26, 154, 0, 13, 187, 0, 1, 89, 18, 3, 183, 0, 5, 191, 177]
abbrev dktX2_checkArgument_0 : List UInt8 := dkwX2_checkArgument_0 ++ []
theorem dksX2_checkArgument_0 : cX2_checkArgument.data.toList.drop 0 = dktX2_checkArgument_0 := by decide +kernel
theorem dX2_checkArgument_0 : decode cX2_checkArgument 0 = .ok (.iload_n 0, 1) := dk_26 (dk_at dksX2_checkArgument_0 0 rfl rfl)
theorem dX2_checkArgument_1 : decode cX2_checkArgument 1 = .ok (.ifCond .ne 13, 3) := dk_154 0 13 (dk_at dksX2_checkArgument_0 1 rfl rfl)
theorem dX2_checkArgument_4 : decode cX2_checkArgument 4 = .ok (.new 1, 3) := dk_187 0 1 (dk_at dksX2_checkArgument_0 4 rfl rfl)
theorem dX2_checkArgument_7 : decode cX2_checkArgument 7 = .ok (.dup, 1) := dk_89 (dk_at dksX2_checkArgument_0 7 rfl rfl)
theorem dX2_checkArgument_8 : decode cX2_checkArgument 8 = .ok (.ldc 3, 2) := dk_18 3 (dk_at dksX2_checkArgument_0 8 rfl rfl)
theorem dX2_checkArgument_10 : decode cX2_checkArgument 10 = .ok (.invokespecial 5, 3) := dk_183 0 5 (dk_at dksX2_checkArgument_0 10 rfl rfl)
theorem dX2_checkArgument_13 : decode cX2_checkArgument 13 = .ok (.athrow, 1) := dk_191 (dk_at dksX2_checkArgument_0 13 rfl rfl)
theorem dX2_checkArgument_14 : decode cX2_checkArgument 14 = .ok (.return_, 1) := dk_177 (dk_at dksX2_checkArgument_0 14 rfl rfl)
abbrev cX2_checkPositionIndexes : ByteArray := prog_6_method_4_code
def yX2_checkPositionIndexes : MethodName := ⟨RX2, "checkPositionIndexes", "(III)V"⟩
def dkwX2_checkPositionIndexes_1 : List UInt8 := [177]
abbrev dktX2_checkPositionIndexes_1 : List UInt8 := dkwX2_checkPositionIndexes_1 ++ []
def dkwX2_checkPositionIndexes_0 : List UInt8 := [26, 155, 0, 13, 27, 26, 161, 0, 8, 27, 28, 164, 0, 13, 187, 0, 17, 89, 18, 3, 183, 0, 19, 191]
abbrev dktX2_checkPositionIndexes_0 : List UInt8 := dkwX2_checkPositionIndexes_0 ++ dktX2_checkPositionIndexes_1
theorem dksX2_checkPositionIndexes_0 : cX2_checkPositionIndexes.data.toList.drop 0 = dktX2_checkPositionIndexes_0 := by decide +kernel
theorem dksX2_checkPositionIndexes_1 : cX2_checkPositionIndexes.data.toList.drop 24 = dktX2_checkPositionIndexes_1 := dk_seg dksX2_checkPositionIndexes_0 24 rfl rfl
theorem dX2_checkPositionIndexes_0 : decode cX2_checkPositionIndexes 0 = .ok (.iload_n 0, 1) := dk_26 (dk_at dksX2_checkPositionIndexes_0 0 rfl rfl)
theorem dX2_checkPositionIndexes_1 : decode cX2_checkPositionIndexes 1 = .ok (.ifCond .lt 13, 3) := dk_155 0 13 (dk_at dksX2_checkPositionIndexes_0 1 rfl rfl)
theorem dX2_checkPositionIndexes_4 : decode cX2_checkPositionIndexes 4 = .ok (.iload_n 1, 1) := dk_27 (dk_at dksX2_checkPositionIndexes_0 4 rfl rfl)
theorem dX2_checkPositionIndexes_5 : decode cX2_checkPositionIndexes 5 = .ok (.iload_n 0, 1) := dk_26 (dk_at dksX2_checkPositionIndexes_0 5 rfl rfl)
theorem dX2_checkPositionIndexes_6 : decode cX2_checkPositionIndexes 6 = .ok (.if_icmp .lt 8, 3) := dk_161 0 8 (dk_at dksX2_checkPositionIndexes_0 6 rfl rfl)
theorem dX2_checkPositionIndexes_9 : decode cX2_checkPositionIndexes 9 = .ok (.iload_n 1, 1) := dk_27 (dk_at dksX2_checkPositionIndexes_0 9 rfl rfl)
theorem dX2_checkPositionIndexes_10 : decode cX2_checkPositionIndexes 10 = .ok (.iload_n 2, 1) := dk_28 (dk_at dksX2_checkPositionIndexes_0 10 rfl rfl)
theorem dX2_checkPositionIndexes_11 : decode cX2_checkPositionIndexes 11 = .ok (.if_icmp .le 13, 3) := dk_164 0 13 (dk_at dksX2_checkPositionIndexes_0 11 rfl rfl)
theorem dX2_checkPositionIndexes_14 : decode cX2_checkPositionIndexes 14 = .ok (.new 17, 3) := dk_187 0 17 (dk_at dksX2_checkPositionIndexes_0 14 rfl rfl)
theorem dX2_checkPositionIndexes_17 : decode cX2_checkPositionIndexes 17 = .ok (.dup, 1) := dk_89 (dk_at dksX2_checkPositionIndexes_0 17 rfl rfl)
theorem dX2_checkPositionIndexes_18 : decode cX2_checkPositionIndexes 18 = .ok (.ldc 3, 2) := dk_18 3 (dk_at dksX2_checkPositionIndexes_0 18 rfl rfl)
theorem dX2_checkPositionIndexes_20 : decode cX2_checkPositionIndexes 20 = .ok (.invokespecial 19, 3) := dk_183 0 19 (dk_at dksX2_checkPositionIndexes_0 20 rfl rfl)
theorem dX2_checkPositionIndexes_23 : decode cX2_checkPositionIndexes 23 = .ok (.athrow, 1) := dk_191 (dk_at dksX2_checkPositionIndexes_0 23 rfl rfl)
theorem dX2_checkPositionIndexes_24 : decode cX2_checkPositionIndexes 24 = .ok (.return_, 1) := dk_177 (dk_at dksX2_checkPositionIndexes_1 0 rfl rfl)
abbrev cX2_checkElementIndex : ByteArray := prog_6_method_2_code
def yX2_checkElementIndex : MethodName := ⟨RX2, "checkElementIndex", "(II)I"⟩
def dkwX2_checkElementIndex_0 : List UInt8 := [26, 27, 18, 9, 184, 0, 11, 172]
abbrev dktX2_checkElementIndex_0 : List UInt8 := dkwX2_checkElementIndex_0 ++ []
theorem dksX2_checkElementIndex_0 : cX2_checkElementIndex.data.toList.drop 0 = dktX2_checkElementIndex_0 := by decide +kernel
theorem dX2_checkElementIndex_0 : decode cX2_checkElementIndex 0 = .ok (.iload_n 0, 1) := dk_26 (dk_at dksX2_checkElementIndex_0 0 rfl rfl)
theorem dX2_checkElementIndex_1 : decode cX2_checkElementIndex 1 = .ok (.iload_n 1, 1) := dk_27 (dk_at dksX2_checkElementIndex_0 1 rfl rfl)
theorem dX2_checkElementIndex_2 : decode cX2_checkElementIndex 2 = .ok (.ldc 9, 2) := dk_18 9 (dk_at dksX2_checkElementIndex_0 2 rfl rfl)
theorem dX2_checkElementIndex_4 : decode cX2_checkElementIndex 4 = .ok (.invokestatic 11, 3) := dk_184 0 11 (dk_at dksX2_checkElementIndex_0 4 rfl rfl)
theorem dX2_checkElementIndex_7 : decode cX2_checkElementIndex 7 = .ok (.ireturn, 1) := dk_172 (dk_at dksX2_checkElementIndex_0 7 rfl rfl)
abbrev cX2_checkElementIndex_2 : ByteArray := prog_6_method_3_code
def yX2_checkElementIndex_2 : MethodName := ⟨RX2, "checkElementIndex", "(IILjava/lang/String;)I"⟩
def dkwX2_checkElementIndex_2_0 : List UInt8 := [26, 155, 0, 8, 26, 27, 161, 0, 13, 187, 0, 17, 89, 18, 3, 183, 0, 19, 191, 26, 172]
abbrev dktX2_checkElementIndex_2_0 : List UInt8 := dkwX2_checkElementIndex_2_0 ++ []
theorem dksX2_checkElementIndex_2_0 : cX2_checkElementIndex_2.data.toList.drop 0 = dktX2_checkElementIndex_2_0 := by decide +kernel
theorem dX2_checkElementIndex_2_0 : decode cX2_checkElementIndex_2 0 = .ok (.iload_n 0, 1) := dk_26 (dk_at dksX2_checkElementIndex_2_0 0 rfl rfl)
theorem dX2_checkElementIndex_2_1 : decode cX2_checkElementIndex_2 1 = .ok (.ifCond .lt 8, 3) := dk_155 0 8 (dk_at dksX2_checkElementIndex_2_0 1 rfl rfl)
theorem dX2_checkElementIndex_2_4 : decode cX2_checkElementIndex_2 4 = .ok (.iload_n 0, 1) := dk_26 (dk_at dksX2_checkElementIndex_2_0 4 rfl rfl)
theorem dX2_checkElementIndex_2_5 : decode cX2_checkElementIndex_2 5 = .ok (.iload_n 1, 1) := dk_27 (dk_at dksX2_checkElementIndex_2_0 5 rfl rfl)
theorem dX2_checkElementIndex_2_6 : decode cX2_checkElementIndex_2 6 = .ok (.if_icmp .lt 13, 3) := dk_161 0 13 (dk_at dksX2_checkElementIndex_2_0 6 rfl rfl)
theorem dX2_checkElementIndex_2_9 : decode cX2_checkElementIndex_2 9 = .ok (.new 17, 3) := dk_187 0 17 (dk_at dksX2_checkElementIndex_2_0 9 rfl rfl)
theorem dX2_checkElementIndex_2_12 : decode cX2_checkElementIndex_2 12 = .ok (.dup, 1) := dk_89 (dk_at dksX2_checkElementIndex_2_0 12 rfl rfl)
theorem dX2_checkElementIndex_2_13 : decode cX2_checkElementIndex_2 13 = .ok (.ldc 3, 2) := dk_18 3 (dk_at dksX2_checkElementIndex_2_0 13 rfl rfl)
theorem dX2_checkElementIndex_2_15 : decode cX2_checkElementIndex_2 15 = .ok (.invokespecial 19, 3) := dk_183 0 19 (dk_at dksX2_checkElementIndex_2_0 15 rfl rfl)
theorem dX2_checkElementIndex_2_18 : decode cX2_checkElementIndex_2 18 = .ok (.athrow, 1) := dk_191 (dk_at dksX2_checkElementIndex_2_0 18 rfl rfl)
theorem dX2_checkElementIndex_2_19 : decode cX2_checkElementIndex_2 19 = .ok (.iload_n 0, 1) := dk_26 (dk_at dksX2_checkElementIndex_2_0 19 rfl rfl)
theorem dX2_checkElementIndex_2_20 : decode cX2_checkElementIndex_2 20 = .ok (.ireturn, 1) := dk_172 (dk_at dksX2_checkElementIndex_2_0 20 rfl rfl)
theorem q6 : (Jvm.Cond.initialized "Preconditions") ∈ lw_all := lw_g (lw_at lw_m1 3 rfl) rfl
theorem q34 : (Jvm.Cond.static ({ cls := "Preconditions", name := "checkArgument", desc := "(ZLjava/lang/String;I)V" } : Jvm.MethodName)) ∈ lw_all := lw_g (lw_at lw_m1 31 rfl) rfl
theorem q35 : (Jvm.Cond.code ({ cls := "Preconditions", name := "checkArgument", desc := "(ZLjava/lang/String;I)V" } : Jvm.MethodName) prog_6_method_1_code (3 : Nat) (Option.none : Option Jvm.ClassFile.FieldType)) ∈ lw_all := lw_g (lw_at lw_m1 32 rfl) rfl
theorem q36 : (Jvm.Cond.classLink "Preconditions" (1 : Nat) "java/lang/IllegalArgumentException") ∈ lw_all := lw_g (lw_at lw_m1 33 rfl) rfl
theorem q77 : (Jvm.Cond.stringRef "Preconditions" (3 : Nat) "left out") ∈ lw_tbl := lw_at lw_m1 74 rfl
theorem q78 : (Jvm.Cond.methodLink "Preconditions" (5 : Nat) ({ cls := "java/lang/IllegalArgumentException", name := "<init>", desc := "(Ljava/lang/String;)V" } : Jvm.MethodName)) ∈ lw_all := lw_g (lw_at lw_m1 75 rfl) rfl
theorem q254 : (Jvm.Cond.static ({ cls := "Preconditions", name := "checkPositionIndexes", desc := "(III)V" } : Jvm.MethodName)) ∈ lw_all := lw_g (lw_at lw_m2 11 rfl) rfl
theorem q255 : (Jvm.Cond.code ({ cls := "Preconditions", name := "checkPositionIndexes", desc := "(III)V" } : Jvm.MethodName) prog_6_method_4_code (3 : Nat) (Option.none : Option Jvm.ClassFile.FieldType)) ∈ lw_all := lw_g (lw_at lw_m2 12 rfl) rfl
theorem q256 : (Jvm.Cond.classLink "Preconditions" (17 : Nat) "java/lang/IndexOutOfBoundsException") ∈ lw_all := lw_g (lw_at lw_m2 13 rfl) rfl
theorem q265 : (Jvm.Cond.methodLink "Preconditions" (19 : Nat) ({ cls := "java/lang/IndexOutOfBoundsException", name := "<init>", desc := "(Ljava/lang/String;)V" } : Jvm.MethodName)) ∈ lw_all := lw_g (lw_at lw_m2 22 rfl) rfl
theorem q309 : (Jvm.Cond.static ({ cls := "Preconditions", name := "checkElementIndex", desc := "(II)I" } : Jvm.MethodName)) ∈ lw_all := lw_g (lw_at lw_m2 66 rfl) rfl
theorem q310 : (Jvm.Cond.code ({ cls := "Preconditions", name := "checkElementIndex", desc := "(II)I" } : Jvm.MethodName) prog_6_method_2_code (2 : Nat) (Option.some Jvm.ClassFile.FieldType.int)) ∈ lw_all := lw_g (lw_at lw_m2 67 rfl) rfl
theorem q311 : (Jvm.Cond.stringRef "Preconditions" (9 : Nat) "index") ∈ lw_tbl := lw_at lw_m2 68 rfl
theorem q312 : (Jvm.Cond.methodLink "Preconditions" (11 : Nat) ({ cls := "Preconditions", name := "checkElementIndex", desc := "(IILjava/lang/String;)I" } : Jvm.MethodName)) ∈ lw_all := lw_g (lw_at lw_m2 69 rfl) rfl
theorem q313 : (Jvm.Cond.static ({ cls := "Preconditions", name := "checkElementIndex", desc := "(IILjava/lang/String;)I" } : Jvm.MethodName)) ∈ lw_all := lw_g (lw_at lw_m2 70 rfl) rfl
theorem q314 : (Jvm.Cond.code ({ cls := "Preconditions", name := "checkElementIndex", desc := "(IILjava/lang/String;)I" } : Jvm.MethodName) prog_6_method_3_code (3 : Nat) (Option.some Jvm.ClassFile.FieldType.int)) ∈ lw_all := lw_g (lw_at lw_m2 71 rfl) rfl
/-! ImmutableLongArray$Builder -/
set_option maxRecDepth 100000
def RX3 : String := "ImmutableLongArray$Builder"
def TX3 : u_T := fun k => match k with
  | 0 => ("ImmutableLongArray$Builder", "array", "[J", false)
  | _ => ("ImmutableLongArray$Builder", "count", "I", false)
def tyX3 : Nat → FieldType := fun k => match k with
  | 0 => .array .long
  | _ => .int
abbrev wsX30 : List Cond := u_ws RX3 TX3 2
theorem nmX3 : ∀ a, a < 2 → ∀ b, b < 2 → a ≠ b → (TX3 a).2.1 ≠ (TX3 b).2.1 := by decide +kernel
theorem tyX3_ok : ∀ k, k < 2 → parseFieldDescriptor (TX3 k).2.2.1 = some (tyX3 k) := by decide +kernel
abbrev cX3_init : ByteArray := prog_5_method_1_code
def yX3_init : MethodName := ⟨RX3, "<init>", "(I)V"⟩
def dkwX3_init_0 : List UInt8 := [42, 183, 0, 1, 42, 3, 181, 0, 7, 42, 27, 188, 11, 181, 0, 13, 177]
abbrev dktX3_init_0 : List UInt8 := dkwX3_init_0 ++ []
theorem dksX3_init_0 : cX3_init.data.toList.drop 0 = dktX3_init_0 := by decide +kernel
theorem dX3_init_0 : decode cX3_init 0 = .ok (.aload_n 0, 1) := dk_42 (dk_at dksX3_init_0 0 rfl rfl)
theorem dX3_init_1 : decode cX3_init 1 = .ok (.invokespecial 1, 3) := dk_183 0 1 (dk_at dksX3_init_0 1 rfl rfl)
theorem dX3_init_4 : decode cX3_init 4 = .ok (.aload_n 0, 1) := dk_42 (dk_at dksX3_init_0 4 rfl rfl)
theorem dX3_init_5 : decode cX3_init 5 = .ok (.iconst 0, 1) := dk_3 (dk_at dksX3_init_0 5 rfl rfl)
theorem dX3_init_6 : decode cX3_init 6 = .ok (.putfield 7, 3) := dk_181 0 7 (dk_at dksX3_init_0 6 rfl rfl)
theorem dX3_init_9 : decode cX3_init 9 = .ok (.aload_n 0, 1) := dk_42 (dk_at dksX3_init_0 9 rfl rfl)
theorem dX3_init_10 : decode cX3_init 10 = .ok (.iload_n 1, 1) := dk_27 (dk_at dksX3_init_0 10 rfl rfl)
theorem dX3_init_11 : decode cX3_init 11 = .ok (.newarray .long, 2) := dk_188_11 (dk_at dksX3_init_0 11 rfl rfl)
theorem dX3_init_13 : decode cX3_init 13 = .ok (.putfield 13, 3) := dk_181 0 13 (dk_at dksX3_init_0 13 rfl rfl)
theorem dX3_init_16 : decode cX3_init 16 = .ok (.return_, 1) := dk_177 (dk_at dksX3_init_0 16 rfl rfl)
abbrev cX3_add : ByteArray := prog_5_method_2_code
def yX3_add : MethodName := ⟨RX3, "add", "(J)LImmutableLongArray$Builder;"⟩
def dkwX3_add_1 : List UInt8 := [181, 0, 7, 42, 176]
abbrev dktX3_add_1 : List UInt8 := dkwX3_add_1 ++ []
def dkwX3_add_0 : List UInt8 := [42, 4, 182, 0, 17, 42, 180, 0, 13, 42, 180, 0, 7, 31, 80, 42, 89, 180, 0, 7, 4, 96]
abbrev dktX3_add_0 : List UInt8 := dkwX3_add_0 ++ dktX3_add_1
theorem dksX3_add_0 : cX3_add.data.toList.drop 0 = dktX3_add_0 := by decide +kernel
theorem dksX3_add_1 : cX3_add.data.toList.drop 22 = dktX3_add_1 := dk_seg dksX3_add_0 22 rfl rfl
theorem dX3_add_0 : decode cX3_add 0 = .ok (.aload_n 0, 1) := dk_42 (dk_at dksX3_add_0 0 rfl rfl)
theorem dX3_add_1 : decode cX3_add 1 = .ok (.iconst 1, 1) := dk_4 (dk_at dksX3_add_0 1 rfl rfl)
theorem dX3_add_2 : decode cX3_add 2 = .ok (.invokevirtual 17, 3) := dk_182 0 17 (dk_at dksX3_add_0 2 rfl rfl)
theorem dX3_add_5 : decode cX3_add 5 = .ok (.aload_n 0, 1) := dk_42 (dk_at dksX3_add_0 5 rfl rfl)
theorem dX3_add_6 : decode cX3_add 6 = .ok (.getfield 13, 3) := dk_180 0 13 (dk_at dksX3_add_0 6 rfl rfl)
theorem dX3_add_9 : decode cX3_add 9 = .ok (.aload_n 0, 1) := dk_42 (dk_at dksX3_add_0 9 rfl rfl)
theorem dX3_add_10 : decode cX3_add 10 = .ok (.getfield 7, 3) := dk_180 0 7 (dk_at dksX3_add_0 10 rfl rfl)
theorem dX3_add_13 : decode cX3_add 13 = .ok (.lload_n 1, 1) := dk_31 (dk_at dksX3_add_0 13 rfl rfl)
theorem dX3_add_14 : decode cX3_add 14 = .ok (.lastore, 1) := dk_80 (dk_at dksX3_add_0 14 rfl rfl)
theorem dX3_add_15 : decode cX3_add 15 = .ok (.aload_n 0, 1) := dk_42 (dk_at dksX3_add_0 15 rfl rfl)
theorem dX3_add_16 : decode cX3_add 16 = .ok (.dup, 1) := dk_89 (dk_at dksX3_add_0 16 rfl rfl)
theorem dX3_add_17 : decode cX3_add 17 = .ok (.getfield 7, 3) := dk_180 0 7 (dk_at dksX3_add_0 17 rfl rfl)
theorem dX3_add_20 : decode cX3_add 20 = .ok (.iconst 1, 1) := dk_4 (dk_at dksX3_add_0 20 rfl rfl)
theorem dX3_add_21 : decode cX3_add 21 = .ok (.iadd, 1) := dk_96 (dk_at dksX3_add_0 21 rfl rfl)
theorem dX3_add_22 : decode cX3_add 22 = .ok (.putfield 7, 3) := dk_181 0 7 (dk_at dksX3_add_1 0 rfl rfl)
theorem dX3_add_25 : decode cX3_add 25 = .ok (.aload_n 0, 1) := dk_42 (dk_at dksX3_add_1 3 rfl rfl)
theorem dX3_add_26 : decode cX3_add 26 = .ok (.areturn, 1) := dk_176 (dk_at dksX3_add_1 4 rfl rfl)
abbrev cX3_ensureRoomFor : ByteArray := prog_5_method_4_code
def yX3_ensureRoomFor : MethodName := ⟨RX3, "ensureRoomFor", "(I)V"⟩
def dkwX3_ensureRoomFor_1 : List UInt8 := [180, 0, 13, 190, 28, 184, 0, 37, 184, 0, 41, 181, 0, 13, 177]
abbrev dktX3_ensureRoomFor_1 : List UInt8 := dkwX3_ensureRoomFor_1 ++ []
def dkwX3_ensureRoomFor_0 : List UInt8 := [42, 180, 0, 7, 27, 96, 61, 28, 42, 180, 0, 13, 190, 164, 0, 23, 42, 42, 180, 0, 13, 42]
abbrev dktX3_ensureRoomFor_0 : List UInt8 := dkwX3_ensureRoomFor_0 ++ dktX3_ensureRoomFor_1
theorem dksX3_ensureRoomFor_0 : cX3_ensureRoomFor.data.toList.drop 0 = dktX3_ensureRoomFor_0 := by decide +kernel
theorem dksX3_ensureRoomFor_1 : cX3_ensureRoomFor.data.toList.drop 22 = dktX3_ensureRoomFor_1 := dk_seg dksX3_ensureRoomFor_0 22 rfl rfl
theorem dX3_ensureRoomFor_0 : decode cX3_ensureRoomFor 0 = .ok (.aload_n 0, 1) := dk_42 (dk_at dksX3_ensureRoomFor_0 0 rfl rfl)
theorem dX3_ensureRoomFor_1 : decode cX3_ensureRoomFor 1 = .ok (.getfield 7, 3) := dk_180 0 7 (dk_at dksX3_ensureRoomFor_0 1 rfl rfl)
theorem dX3_ensureRoomFor_4 : decode cX3_ensureRoomFor 4 = .ok (.iload_n 1, 1) := dk_27 (dk_at dksX3_ensureRoomFor_0 4 rfl rfl)
theorem dX3_ensureRoomFor_5 : decode cX3_ensureRoomFor 5 = .ok (.iadd, 1) := dk_96 (dk_at dksX3_ensureRoomFor_0 5 rfl rfl)
theorem dX3_ensureRoomFor_6 : decode cX3_ensureRoomFor 6 = .ok (.istore_n 2, 1) := dk_61 (dk_at dksX3_ensureRoomFor_0 6 rfl rfl)
theorem dX3_ensureRoomFor_7 : decode cX3_ensureRoomFor 7 = .ok (.iload_n 2, 1) := dk_28 (dk_at dksX3_ensureRoomFor_0 7 rfl rfl)
theorem dX3_ensureRoomFor_8 : decode cX3_ensureRoomFor 8 = .ok (.aload_n 0, 1) := dk_42 (dk_at dksX3_ensureRoomFor_0 8 rfl rfl)
theorem dX3_ensureRoomFor_9 : decode cX3_ensureRoomFor 9 = .ok (.getfield 13, 3) := dk_180 0 13 (dk_at dksX3_ensureRoomFor_0 9 rfl rfl)
theorem dX3_ensureRoomFor_12 : decode cX3_ensureRoomFor 12 = .ok (.arraylength, 1) := dk_190 (dk_at dksX3_ensureRoomFor_0 12 rfl rfl)
theorem dX3_ensureRoomFor_13 : decode cX3_ensureRoomFor 13 = .ok (.if_icmp .le 23, 3) := dk_164 0 23 (dk_at dksX3_ensureRoomFor_0 13 rfl rfl)
theorem dX3_ensureRoomFor_16 : decode cX3_ensureRoomFor 16 = .ok (.aload_n 0, 1) := dk_42 (dk_at dksX3_ensureRoomFor_0 16 rfl rfl)
theorem dX3_ensureRoomFor_17 : decode cX3_ensureRoomFor 17 = .ok (.aload_n 0, 1) := dk_42 (dk_at dksX3_ensureRoomFor_0 17 rfl rfl)
theorem dX3_ensureRoomFor_18 : decode cX3_ensureRoomFor 18 = .ok (.getfield 13, 3) := dk_180 0 13 (dk_at dksX3_ensureRoomFor_0 18 rfl rfl)
theorem dX3_ensureRoomFor_21 : decode cX3_ensureRoomFor 21 = .ok (.aload_n 0, 1) := dk_42 (dk_at dksX3_ensureRoomFor_0 21 rfl rfl)
theorem dX3_ensureRoomFor_22 : decode cX3_ensureRoomFor 22 = .ok (.getfield 13, 3) := dk_180 0 13 (dk_at dksX3_ensureRoomFor_1 0 rfl rfl)
theorem dX3_ensureRoomFor_25 : decode cX3_ensureRoomFor 25 = .ok (.arraylength, 1) := dk_190 (dk_at dksX3_ensureRoomFor_1 3 rfl rfl)
theorem dX3_ensureRoomFor_26 : decode cX3_ensureRoomFor 26 = .ok (.iload_n 2, 1) := dk_28 (dk_at dksX3_ensureRoomFor_1 4 rfl rfl)
theorem dX3_ensureRoomFor_27 : decode cX3_ensureRoomFor 27 = .ok (.invokestatic 37, 3) := dk_184 0 37 (dk_at dksX3_ensureRoomFor_1 5 rfl rfl)
theorem dX3_ensureRoomFor_30 : decode cX3_ensureRoomFor 30 = .ok (.invokestatic 41, 3) := dk_184 0 41 (dk_at dksX3_ensureRoomFor_1 8 rfl rfl)
theorem dX3_ensureRoomFor_33 : decode cX3_ensureRoomFor 33 = .ok (.putfield 13, 3) := dk_181 0 13 (dk_at dksX3_ensureRoomFor_1 11 rfl rfl)
theorem dX3_ensureRoomFor_36 : decode cX3_ensureRoomFor 36 = .ok (.return_, 1) := dk_177 (dk_at dksX3_ensureRoomFor_1 14 rfl rfl)
abbrev cX3_expandedCapacity : ByteArray := prog_5_method_5_code
def yX3_expandedCapacity : MethodName := ⟨RX3, "expandedCapacity", "(II)I"⟩
def dkwX3_expandedCapacity_1 : List UInt8 := [162, 0, 12, 27, 4, 100, 184, 0, 54, 4, 120, 61, 28, 156, 0, 6, 18, 60, 61, 28, 172]
abbrev dktX3_expandedCapacity_1 : List UInt8 := dkwX3_expandedCapacity_1 ++ []
def dkwX3_expandedCapacity_0 : List UInt8 := [27, 156, 0, 13, 187, 0, 47, 89, 18, 49, 183, 0, 51, 191, 26, 26, 4, 122, 96, 4, 96, 61, 28, 27]
abbrev dktX3_expandedCapacity_0 : List UInt8 := dkwX3_expandedCapacity_0 ++ dktX3_expandedCapacity_1
theorem dksX3_expandedCapacity_0 : cX3_expandedCapacity.data.toList.drop 0 = dktX3_expandedCapacity_0 := by decide +kernel
theorem dksX3_expandedCapacity_1 : cX3_expandedCapacity.data.toList.drop 24 = dktX3_expandedCapacity_1 := dk_seg dksX3_expandedCapacity_0 24 rfl rfl
theorem dX3_expandedCapacity_0 : decode cX3_expandedCapacity 0 = .ok (.iload_n 1, 1) := dk_27 (dk_at dksX3_expandedCapacity_0 0 rfl rfl)
theorem dX3_expandedCapacity_1 : decode cX3_expandedCapacity 1 = .ok (.ifCond .ge 13, 3) := dk_156 0 13 (dk_at dksX3_expandedCapacity_0 1 rfl rfl)
theorem dX3_expandedCapacity_4 : decode cX3_expandedCapacity 4 = .ok (.new 47, 3) := dk_187 0 47 (dk_at dksX3_expandedCapacity_0 4 rfl rfl)
theorem dX3_expandedCapacity_7 : decode cX3_expandedCapacity 7 = .ok (.dup, 1) := dk_89 (dk_at dksX3_expandedCapacity_0 7 rfl rfl)
theorem dX3_expandedCapacity_8 : decode cX3_expandedCapacity 8 = .ok (.ldc 49, 2) := dk_18 49 (dk_at dksX3_expandedCapacity_0 8 rfl rfl)
theorem dX3_expandedCapacity_10 : decode cX3_expandedCapacity 10 = .ok (.invokespecial 51, 3) := dk_183 0 51 (dk_at dksX3_expandedCapacity_0 10 rfl rfl)
theorem dX3_expandedCapacity_13 : decode cX3_expandedCapacity 13 = .ok (.athrow, 1) := dk_191 (dk_at dksX3_expandedCapacity_0 13 rfl rfl)
theorem dX3_expandedCapacity_14 : decode cX3_expandedCapacity 14 = .ok (.iload_n 0, 1) := dk_26 (dk_at dksX3_expandedCapacity_0 14 rfl rfl)
theorem dX3_expandedCapacity_15 : decode cX3_expandedCapacity 15 = .ok (.iload_n 0, 1) := dk_26 (dk_at dksX3_expandedCapacity_0 15 rfl rfl)
theorem dX3_expandedCapacity_16 : decode cX3_expandedCapacity 16 = .ok (.iconst 1, 1) := dk_4 (dk_at dksX3_expandedCapacity_0 16 rfl rfl)
theorem dX3_expandedCapacity_17 : decode cX3_expandedCapacity 17 = .ok (.ishr, 1) := dk_122 (dk_at dksX3_expandedCapacity_0 17 rfl rfl)
theorem dX3_expandedCapacity_18 : decode cX3_expandedCapacity 18 = .ok (.iadd, 1) := dk_96 (dk_at dksX3_expandedCapacity_0 18 rfl rfl)
theorem dX3_expandedCapacity_19 : decode cX3_expandedCapacity 19 = .ok (.iconst 1, 1) := dk_4 (dk_at dksX3_expandedCapacity_0 19 rfl rfl)
theorem dX3_expandedCapacity_20 : decode cX3_expandedCapacity 20 = .ok (.iadd, 1) := dk_96 (dk_at dksX3_expandedCapacity_0 20 rfl rfl)
theorem dX3_expandedCapacity_21 : decode cX3_expandedCapacity 21 = .ok (.istore_n 2, 1) := dk_61 (dk_at dksX3_expandedCapacity_0 21 rfl rfl)
theorem dX3_expandedCapacity_22 : decode cX3_expandedCapacity 22 = .ok (.iload_n 2, 1) := dk_28 (dk_at dksX3_expandedCapacity_0 22 rfl rfl)
theorem dX3_expandedCapacity_23 : decode cX3_expandedCapacity 23 = .ok (.iload_n 1, 1) := dk_27 (dk_at dksX3_expandedCapacity_0 23 rfl rfl)
theorem dX3_expandedCapacity_24 : decode cX3_expandedCapacity 24 = .ok (.if_icmp .ge 12, 3) := dk_162 0 12 (dk_at dksX3_expandedCapacity_1 0 rfl rfl)
theorem dX3_expandedCapacity_27 : decode cX3_expandedCapacity 27 = .ok (.iload_n 1, 1) := dk_27 (dk_at dksX3_expandedCapacity_1 3 rfl rfl)
theorem dX3_expandedCapacity_28 : decode cX3_expandedCapacity 28 = .ok (.iconst 1, 1) := dk_4 (dk_at dksX3_expandedCapacity_1 4 rfl rfl)
theorem dX3_expandedCapacity_29 : decode cX3_expandedCapacity 29 = .ok (.isub, 1) := dk_100 (dk_at dksX3_expandedCapacity_1 5 rfl rfl)
theorem dX3_expandedCapacity_30 : decode cX3_expandedCapacity 30 = .ok (.invokestatic 54, 3) := dk_184 0 54 (dk_at dksX3_expandedCapacity_1 6 rfl rfl)
theorem dX3_expandedCapacity_33 : decode cX3_expandedCapacity 33 = .ok (.iconst 1, 1) := dk_4 (dk_at dksX3_expandedCapacity_1 9 rfl rfl)
theorem dX3_expandedCapacity_34 : decode cX3_expandedCapacity 34 = .ok (.ishl, 1) := dk_120 (dk_at dksX3_expandedCapacity_1 10 rfl rfl)
theorem dX3_expandedCapacity_35 : decode cX3_expandedCapacity 35 = .ok (.istore_n 2, 1) := dk_61 (dk_at dksX3_expandedCapacity_1 11 rfl rfl)
theorem dX3_expandedCapacity_36 : decode cX3_expandedCapacity 36 = .ok (.iload_n 2, 1) := dk_28 (dk_at dksX3_expandedCapacity_1 12 rfl rfl)
theorem dX3_expandedCapacity_37 : decode cX3_expandedCapacity 37 = .ok (.ifCond .ge 6, 3) := dk_156 0 6 (dk_at dksX3_expandedCapacity_1 13 rfl rfl)
theorem dX3_expandedCapacity_40 : decode cX3_expandedCapacity 40 = .ok (.ldc 60, 2) := dk_18 60 (dk_at dksX3_expandedCapacity_1 16 rfl rfl)
theorem dX3_expandedCapacity_42 : decode cX3_expandedCapacity 42 = .ok (.istore_n 2, 1) := dk_61 (dk_at dksX3_expandedCapacity_1 18 rfl rfl)
theorem dX3_expandedCapacity_43 : decode cX3_expandedCapacity 43 = .ok (.iload_n 2, 1) := dk_28 (dk_at dksX3_expandedCapacity_1 19 rfl rfl)
theorem dX3_expandedCapacity_44 : decode cX3_expandedCapacity 44 = .ok (.ireturn, 1) := dk_172 (dk_at dksX3_expandedCapacity_1 20 rfl rfl)
abbrev cX3_addAll : ByteArray := prog_5_method_3_code
def yX3_addAll : MethodName := ⟨RX3, "addAll", "(LImmutableLongArray;)LImmutableLongArray$Builder;"⟩
def dkwX3_addAll_1 : List UInt8 := [43, 182, 0, 21, 184, 0, 31, 42, 89, 180, 0, 7, 43, 182, 0, 21, 96, 181, 0, 7, 42, 176]
abbrev dktX3_addAll_1 : List UInt8 := dkwX3_addAll_1 ++ []
def dkwX3_addAll_0 : List UInt8 := [42, 43, 182, 0, 21, 182, 0, 17, 43, 180, 0, 27, 43, 180, 0, 28, 42, 180, 0, 13, 42, 180, 0, 7]
abbrev dktX3_addAll_0 : List UInt8 := dkwX3_addAll_0 ++ dktX3_addAll_1
theorem dksX3_addAll_0 : cX3_addAll.data.toList.drop 0 = dktX3_addAll_0 := by decide +kernel
theorem dksX3_addAll_1 : cX3_addAll.data.toList.drop 24 = dktX3_addAll_1 := dk_seg dksX3_addAll_0 24 rfl rfl
theorem dX3_addAll_0 : decode cX3_addAll 0 = .ok (.aload_n 0, 1) := dk_42 (dk_at dksX3_addAll_0 0 rfl rfl)
theorem dX3_addAll_1 : decode cX3_addAll 1 = .ok (.aload_n 1, 1) := dk_43 (dk_at dksX3_addAll_0 1 rfl rfl)
theorem dX3_addAll_2 : decode cX3_addAll 2 = .ok (.invokevirtual 21, 3) := dk_182 0 21 (dk_at dksX3_addAll_0 2 rfl rfl)
theorem dX3_addAll_5 : decode cX3_addAll 5 = .ok (.invokevirtual 17, 3) := dk_182 0 17 (dk_at dksX3_addAll_0 5 rfl rfl)
theorem dX3_addAll_8 : decode cX3_addAll 8 = .ok (.aload_n 1, 1) := dk_43 (dk_at dksX3_addAll_0 8 rfl rfl)
theorem dX3_addAll_9 : decode cX3_addAll 9 = .ok (.getfield 27, 3) := dk_180 0 27 (dk_at dksX3_addAll_0 9 rfl rfl)
theorem dX3_addAll_12 : decode cX3_addAll 12 = .ok (.aload_n 1, 1) := dk_43 (dk_at dksX3_addAll_0 12 rfl rfl)
theorem dX3_addAll_13 : decode cX3_addAll 13 = .ok (.getfield 28, 3) := dk_180 0 28 (dk_at dksX3_addAll_0 13 rfl rfl)
theorem dX3_addAll_16 : decode cX3_addAll 16 = .ok (.aload_n 0, 1) := dk_42 (dk_at dksX3_addAll_0 16 rfl rfl)
theorem dX3_addAll_17 : decode cX3_addAll 17 = .ok (.getfield 13, 3) := dk_180 0 13 (dk_at dksX3_addAll_0 17 rfl rfl)
theorem dX3_addAll_20 : decode cX3_addAll 20 = .ok (.aload_n 0, 1) := dk_42 (dk_at dksX3_addAll_0 20 rfl rfl)
theorem dX3_addAll_21 : decode cX3_addAll 21 = .ok (.getfield 7, 3) := dk_180 0 7 (dk_at dksX3_addAll_0 21 rfl rfl)
theorem dX3_addAll_24 : decode cX3_addAll 24 = .ok (.aload_n 1, 1) := dk_43 (dk_at dksX3_addAll_1 0 rfl rfl)
theorem dX3_addAll_25 : decode cX3_addAll 25 = .ok (.invokevirtual 21, 3) := dk_182 0 21 (dk_at dksX3_addAll_1 1 rfl rfl)
theorem dX3_addAll_28 : decode cX3_addAll 28 = .ok (.invokestatic 31, 3) := dk_184 0 31 (dk_at dksX3_addAll_1 4 rfl rfl)
theorem dX3_addAll_31 : decode cX3_addAll 31 = .ok (.aload_n 0, 1) := dk_42 (dk_at dksX3_addAll_1 7 rfl rfl)
theorem dX3_addAll_32 : decode cX3_addAll 32 = .ok (.dup, 1) := dk_89 (dk_at dksX3_addAll_1 8 rfl rfl)
theorem dX3_addAll_33 : decode cX3_addAll 33 = .ok (.getfield 7, 3) := dk_180 0 7 (dk_at dksX3_addAll_1 9 rfl rfl)
theorem dX3_addAll_36 : decode cX3_addAll 36 = .ok (.aload_n 1, 1) := dk_43 (dk_at dksX3_addAll_1 12 rfl rfl)
theorem dX3_addAll_37 : decode cX3_addAll 37 = .ok (.invokevirtual 21, 3) := dk_182 0 21 (dk_at dksX3_addAll_1 13 rfl rfl)
theorem dX3_addAll_40 : decode cX3_addAll 40 = .ok (.iadd, 1) := dk_96 (dk_at dksX3_addAll_1 16 rfl rfl)
theorem dX3_addAll_41 : decode cX3_addAll 41 = .ok (.putfield 7, 3) := dk_181 0 7 (dk_at dksX3_addAll_1 17 rfl rfl)
theorem dX3_addAll_44 : decode cX3_addAll 44 = .ok (.aload_n 0, 1) := dk_42 (dk_at dksX3_addAll_1 20 rfl rfl)
theorem dX3_addAll_45 : decode cX3_addAll 45 = .ok (.areturn, 1) := dk_176 (dk_at dksX3_addAll_1 21 rfl rfl)
abbrev cX3_build : ByteArray := prog_5_method_6_code
def yX3_build : MethodName := ⟨RX3, "build", "()LImmutableLongArray;"⟩
def dkwX3_build_1 : List UInt8 := [42, 180, 0, 13, 3, 42, 180, 0, 7, 183, 0, 64, 176]
abbrev dktX3_build_1 : List UInt8 := dkwX3_build_1 ++ []
def dkwX3_build_0 : List UInt8 := [42, 180, 0, 7, 154, 0, 16, 187, 0, 22, 89, 3, 188, 11, 183, 0, 61, 167, 0, 19, 187, 0, 22, 89]
abbrev dktX3_build_0 : List UInt8 := dkwX3_build_0 ++ dktX3_build_1
theorem dksX3_build_0 : cX3_build.data.toList.drop 0 = dktX3_build_0 := by decide +kernel
theorem dksX3_build_1 : cX3_build.data.toList.drop 24 = dktX3_build_1 := dk_seg dksX3_build_0 24 rfl rfl
theorem dX3_build_0 : decode cX3_build 0 = .ok (.aload_n 0, 1) := dk_42 (dk_at dksX3_build_0 0 rfl rfl)
theorem dX3_build_1 : decode cX3_build 1 = .ok (.getfield 7, 3) := dk_180 0 7 (dk_at dksX3_build_0 1 rfl rfl)
theorem dX3_build_4 : decode cX3_build 4 = .ok (.ifCond .ne 16, 3) := dk_154 0 16 (dk_at dksX3_build_0 4 rfl rfl)
theorem dX3_build_7 : decode cX3_build 7 = .ok (.new 22, 3) := dk_187 0 22 (dk_at dksX3_build_0 7 rfl rfl)
theorem dX3_build_10 : decode cX3_build 10 = .ok (.dup, 1) := dk_89 (dk_at dksX3_build_0 10 rfl rfl)
theorem dX3_build_11 : decode cX3_build 11 = .ok (.iconst 0, 1) := dk_3 (dk_at dksX3_build_0 11 rfl rfl)
theorem dX3_build_12 : decode cX3_build 12 = .ok (.newarray .long, 2) := dk_188_11 (dk_at dksX3_build_0 12 rfl rfl)
theorem dX3_build_14 : decode cX3_build 14 = .ok (.invokespecial 61, 3) := dk_183 0 61 (dk_at dksX3_build_0 14 rfl rfl)
theorem dX3_build_17 : decode cX3_build 17 = .ok (.goto 19, 3) := dk_167 0 19 (dk_at dksX3_build_0 17 rfl rfl)
theorem dX3_build_20 : decode cX3_build 20 = .ok (.new 22, 3) := dk_187 0 22 (dk_at dksX3_build_0 20 rfl rfl)
theorem dX3_build_23 : decode cX3_build 23 = .ok (.dup, 1) := dk_89 (dk_at dksX3_build_0 23 rfl rfl)
theorem dX3_build_24 : decode cX3_build 24 = .ok (.aload_n 0, 1) := dk_42 (dk_at dksX3_build_1 0 rfl rfl)
theorem dX3_build_25 : decode cX3_build 25 = .ok (.getfield 13, 3) := dk_180 0 13 (dk_at dksX3_build_1 1 rfl rfl)
theorem dX3_build_28 : decode cX3_build 28 = .ok (.iconst 0, 1) := dk_3 (dk_at dksX3_build_1 4 rfl rfl)
theorem dX3_build_29 : decode cX3_build 29 = .ok (.aload_n 0, 1) := dk_42 (dk_at dksX3_build_1 5 rfl rfl)
theorem dX3_build_30 : decode cX3_build 30 = .ok (.getfield 7, 3) := dk_180 0 7 (dk_at dksX3_build_1 6 rfl rfl)
theorem dX3_build_33 : decode cX3_build 33 = .ok (.invokespecial 64, 3) := dk_183 0 64 (dk_at dksX3_build_1 9 rfl rfl)
theorem dX3_build_36 : decode cX3_build 36 = .ok (.areturn, 1) := dk_176 (dk_at dksX3_build_1 12 rfl rfl)
theorem q11 : (Jvm.Cond.initialized "ImmutableLongArray$Builder") ∈ lw_all := lw_g (lw_at lw_m1 8 rfl) rfl
theorem q105 : (Jvm.Cond.instantiable "ImmutableLongArray$Builder" (2 : Nat)) ∈ lw_all := lw_g (lw_at lw_m1 102 rfl) rfl
theorem q107 : (Jvm.Cond.instanceMethod ({ cls := "ImmutableLongArray$Builder", name := "<init>", desc := "(I)V" } : Jvm.MethodName)) ∈ lw_all := lw_g (lw_at lw_m1 104 rfl) rfl
theorem q108 : (Jvm.Cond.code ({ cls := "ImmutableLongArray$Builder", name := "<init>", desc := "(I)V" } : Jvm.MethodName) prog_5_method_1_code (2 : Nat) (Option.none : Option Jvm.ClassFile.FieldType)) ∈ lw_all := lw_g (lw_at lw_m1 105 rfl) rfl
theorem q109 : (Jvm.Cond.methodLink "ImmutableLongArray$Builder" (1 : Nat) ({ cls := "java/lang/Object", name := "<init>", desc := "()V" } : Jvm.MethodName)) ∈ lw_all := lw_g (lw_at lw_m1 106 rfl) rfl
theorem q110 : (Jvm.Cond.fieldLink "ImmutableLongArray$Builder" (13 : Nat) "ImmutableLongArray$Builder" "array" "[J") ∈ lw_all := lw_g (lw_at lw_m1 107 rfl) rfl
theorem q111 : (Jvm.Cond.fieldLink "ImmutableLongArray$Builder" (7 : Nat) "ImmutableLongArray$Builder" "count" "I") ∈ lw_all := lw_g (lw_at lw_m1 108 rfl) rfl
theorem q112 : (Jvm.Cond.lays "ImmutableLongArray$Builder" "ImmutableLongArray$Builder" "array" "[J") ∈ lw_all := lw_g (lw_at lw_m1 109 rfl) rfl
theorem q113 : (Jvm.Cond.soleField "ImmutableLongArray$Builder" "array") ∈ lw_all := lw_g (lw_at lw_m1 110 rfl) rfl
theorem q114 : (Jvm.Cond.lays "ImmutableLongArray$Builder" "ImmutableLongArray$Builder" "count" "I") ∈ lw_all := lw_g (lw_at lw_m1 111 rfl) rfl
theorem q115 : (Jvm.Cond.soleField "ImmutableLongArray$Builder" "count") ∈ lw_all := lw_g (lw_at lw_m1 112 rfl) rfl
theorem q116 : (Jvm.Cond.superclass "ImmutableLongArray$Builder" "java/lang/Object") ∈ lw_all := lw_g (lw_at lw_m1 113 rfl) rfl
theorem q132 : (Jvm.Cond.fieldLinkNest "ImmutableLongArray$Builder" (27 : Nat) "ImmutableLongArray" "array" "[J" "ImmutableLongArray") ∈ lw_tbl := lw_at lw_m1 129 rfl
theorem q134 : (Jvm.Cond.fieldLinkNest "ImmutableLongArray$Builder" (28 : Nat) "ImmutableLongArray" "start" "I" "ImmutableLongArray") ∈ lw_tbl := lw_at lw_m1 131 rfl
theorem q163 : (Jvm.Cond.instanceMethod ({ cls := "ImmutableLongArray$Builder", name := "add", desc := "(J)LImmutableLongArray$Builder;" } : Jvm.MethodName)) ∈ lw_all := lw_g (lw_at lw_m1 160 rfl) rfl
theorem q164 : (Jvm.Cond.selects "ImmutableLongArray$Builder" ({ cls := "ImmutableLongArray$Builder", name := "add", desc := "(J)LImmutableLongArray$Builder;" } : Jvm.MethodName) ({ cls := "ImmutableLongArray$Builder", name := "add", desc := "(J)LImmutableLongArray$Builder;" } : Jvm.MethodName)) ∈ lw_all := lw_g (lw_at lw_m1 161 rfl) rfl
theorem q165 : (Jvm.Cond.code ({ cls := "ImmutableLongArray$Builder", name := "add", desc := "(J)LImmutableLongArray$Builder;" } : Jvm.MethodName) prog_5_method_2_code (3 : Nat) (Option.some (Jvm.ClassFile.FieldType.object "ImmutableLongArray$Builder"))) ∈ lw_all := lw_g (lw_at lw_m1 162 rfl) rfl
theorem q166 : (Jvm.Cond.methodLink "ImmutableLongArray$Builder" (17 : Nat) ({ cls := "ImmutableLongArray$Builder", name := "ensureRoomFor", desc := "(I)V" } : Jvm.MethodName)) ∈ lw_all := lw_g (lw_at lw_m1 163 rfl) rfl
theorem q167 : (Jvm.Cond.privateMethod ({ cls := "ImmutableLongArray$Builder", name := "ensureRoomFor", desc := "(I)V" } : Jvm.MethodName)) ∈ lw_tbl := lw_at lw_m1 164 rfl
theorem q168 : (Jvm.Cond.instanceMethod ({ cls := "ImmutableLongArray$Builder", name := "ensureRoomFor", desc := "(I)V" } : Jvm.MethodName)) ∈ lw_all := lw_g (lw_at lw_m1 165 rfl) rfl
theorem q169 : (Jvm.Cond.code ({ cls := "ImmutableLongArray$Builder", name := "ensureRoomFor", desc := "(I)V" } : Jvm.MethodName) prog_5_method_4_code (3 : Nat) (Option.none : Option Jvm.ClassFile.FieldType)) ∈ lw_all := lw_g (lw_at lw_m1 166 rfl) rfl
theorem q170 : (Jvm.Cond.methodLink "ImmutableLongArray$Builder" (37 : Nat) ({ cls := "ImmutableLongArray$Builder", name := "expandedCapacity", desc := "(II)I" } : Jvm.MethodName)) ∈ lw_all := lw_g (lw_at lw_m1 167 rfl) rfl
theorem q171 : (Jvm.Cond.static ({ cls := "ImmutableLongArray$Builder", name := "expandedCapacity", desc := "(II)I" } : Jvm.MethodName)) ∈ lw_all := lw_g (lw_at lw_m1 168 rfl) rfl
theorem q172 : (Jvm.Cond.code ({ cls := "ImmutableLongArray$Builder", name := "expandedCapacity", desc := "(II)I" } : Jvm.MethodName) prog_5_method_5_code (3 : Nat) (Option.some Jvm.ClassFile.FieldType.int)) ∈ lw_all := lw_g (lw_at lw_m1 169 rfl) rfl
theorem q173 : (Jvm.Cond.classLink "ImmutableLongArray$Builder" (47 : Nat) "java/lang/IllegalStateException") ∈ lw_all := lw_g (lw_at lw_m1 170 rfl) rfl
theorem q182 : (Jvm.Cond.stringRef "ImmutableLongArray$Builder" (49 : Nat) "left out") ∈ lw_tbl := lw_at lw_m1 179 rfl
theorem q183 : (Jvm.Cond.methodLink "ImmutableLongArray$Builder" (51 : Nat) ({ cls := "java/lang/IllegalStateException", name := "<init>", desc := "(Ljava/lang/String;)V" } : Jvm.MethodName)) ∈ lw_all := lw_g (lw_at lw_m1 180 rfl) rfl
theorem q189 : (Jvm.Cond.methodLink "ImmutableLongArray$Builder" (54 : Nat) ({ cls := "java/lang/Integer", name := "highestOneBit", desc := "(I)I" } : Jvm.MethodName)) ∈ lw_all := lw_g (lw_at lw_m1 186 rfl) rfl
theorem q197 : (Jvm.Cond.constant "ImmutableLongArray$Builder" (60 : Nat) (2147483647 : Int32)) ∈ lw_all := lw_g (lw_at lw_m1 194 rfl) rfl
theorem q198 : (Jvm.Cond.methodLink "ImmutableLongArray$Builder" (41 : Nat) ({ cls := "java/util/Arrays", name := "copyOf", desc := "([JI)[J" } : Jvm.MethodName)) ∈ lw_all := lw_g (lw_at lw_m1 195 rfl) rfl
theorem q223 : (Jvm.Cond.instanceMethod ({ cls := "ImmutableLongArray$Builder", name := "addAll", desc := "(LImmutableLongArray;)LImmutableLongArray$Builder;" } : Jvm.MethodName)) ∈ lw_all := lw_g (lw_at lw_m1 220 rfl) rfl
theorem q224 : (Jvm.Cond.selects "ImmutableLongArray$Builder" ({ cls := "ImmutableLongArray$Builder", name := "addAll", desc := "(LImmutableLongArray;)LImmutableLongArray$Builder;" } : Jvm.MethodName) ({ cls := "ImmutableLongArray$Builder", name := "addAll", desc := "(LImmutableLongArray;)LImmutableLongArray$Builder;" } : Jvm.MethodName)) ∈ lw_all := lw_g (lw_at lw_m1 221 rfl) rfl
theorem q225 : (Jvm.Cond.code ({ cls := "ImmutableLongArray$Builder", name := "addAll", desc := "(LImmutableLongArray;)LImmutableLongArray$Builder;" } : Jvm.MethodName) prog_5_method_3_code (2 : Nat) (Option.some (Jvm.ClassFile.FieldType.object "ImmutableLongArray$Builder"))) ∈ lw_all := lw_g (lw_at lw_m1 222 rfl) rfl
theorem q226 : (Jvm.Cond.methodLink "ImmutableLongArray$Builder" (21 : Nat) ({ cls := "ImmutableLongArray", name := "length", desc := "()I" } : Jvm.MethodName)) ∈ lw_all := lw_g (lw_at lw_m1 223 rfl) rfl
theorem q227 : (Jvm.Cond.methodLink "ImmutableLongArray$Builder" (31 : Nat) ({ cls := "java/lang/System", name := "arraycopy", desc := "(Ljava/lang/Object;ILjava/lang/Object;II)V" } : Jvm.MethodName)) ∈ lw_all := lw_g (lw_at lw_m1 224 rfl) rfl
theorem q233 : (Jvm.Cond.instanceMethod ({ cls := "ImmutableLongArray$Builder", name := "build", desc := "()LImmutableLongArray;" } : Jvm.MethodName)) ∈ lw_all := lw_g (lw_at lw_m1 230 rfl) rfl
theorem q234 : (Jvm.Cond.selects "ImmutableLongArray$Builder" ({ cls := "ImmutableLongArray$Builder", name := "build", desc := "()LImmutableLongArray;" } : Jvm.MethodName) ({ cls := "ImmutableLongArray$Builder", name := "build", desc := "()LImmutableLongArray;" } : Jvm.MethodName)) ∈ lw_all := lw_g (lw_at lw_m1 231 rfl) rfl
theorem q235 : (Jvm.Cond.code ({ cls := "ImmutableLongArray$Builder", name := "build", desc := "()LImmutableLongArray;" } : Jvm.MethodName) prog_5_method_6_code (1 : Nat) (Option.some (Jvm.ClassFile.FieldType.object "ImmutableLongArray"))) ∈ lw_all := lw_g (lw_at lw_m1 232 rfl) rfl
theorem q236 : (Jvm.Cond.classLink "ImmutableLongArray$Builder" (22 : Nat) "ImmutableLongArray") ∈ lw_all := lw_g (lw_at lw_m1 233 rfl) rfl
theorem q237 : (Jvm.Cond.methodLinkNest "ImmutableLongArray$Builder" (61 : Nat) ({ cls := "ImmutableLongArray", name := "<init>", desc := "([J)V" } : Jvm.MethodName) "ImmutableLongArray") ∈ lw_tbl := lw_at lw_m1 234 rfl
theorem q238 : (Jvm.Cond.methodLinkNest "ImmutableLongArray$Builder" (64 : Nat) ({ cls := "ImmutableLongArray", name := "<init>", desc := "([JII)V" } : Jvm.MethodName) "ImmutableLongArray") ∈ lw_tbl := lw_at lw_m1 235 rfl
theorem in_X3 : ∀ w ∈ wsX30, w ∈ lw_all := lw_in wsX30 [112, 114] (by decide +kernel) (by decide +kernel)
end
section
/-! FixedRowDeskModel -/
set_option maxRecDepth 100000
def RX4 : String := "FixedRowDeskModel"
def TX4 : u_T := fun k => match k with
  | 0 => ("FixedRowDeskModel", "maker", "[J", true)
  | 1 => ("FixedRowDeskModel", "made", "I", false)
  | _ => ("FixedRowDeskModel", "rows", "[[J", false)
def tyX4 : Nat → FieldType := fun k => match k with
  | 0 => .array .long
  | 1 => .int
  | _ => .array (.array .long)
abbrev wsX40 : List Cond := u_ws RX4 TX4 3
theorem nmX4 : ∀ a, a < 3 → ∀ b, b < 3 → a ≠ b → (TX4 a).2.1 ≠ (TX4 b).2.1 := by decide +kernel
theorem tyX4_ok : ∀ k, k < 3 → parseFieldDescriptor (TX4 k).2.2.1 = some (tyX4 k) := by decide +kernel
abbrev cX4_init : ByteArray := prog_3_method_1_code
def yX4_init : MethodName := ⟨RX4, "<init>", "()V"⟩
def dkwX4_init_1 : List UInt8 := [162, 0, 23, 42, 180, 0, 14, 27, 4, 188, 11, 89, 3, 27, 133, 80, 83, 132, 1, 1, 167, 255, 234, 177]
abbrev dktX4_init_1 : List UInt8 := dkwX4_init_1 ++ []
def dkwX4_init_0 : List UInt8 := [42, 183, 0, 1, 42, 16, 96, 188, 11, 181, 0, 9, 42, 7, 189, 0, 13, 181, 0, 14, 3, 60, 27, 7]
abbrev dktX4_init_0 : List UInt8 := dkwX4_init_0 ++ dktX4_init_1
theorem dksX4_init_0 : cX4_init.data.toList.drop 0 = dktX4_init_0 := by decide +kernel
theorem dksX4_init_1 : cX4_init.data.toList.drop 24 = dktX4_init_1 := dk_seg dksX4_init_0 24 rfl rfl
theorem dX4_init_0 : decode cX4_init 0 = .ok (.aload_n 0, 1) := dk_42 (dk_at dksX4_init_0 0 rfl rfl)
theorem dX4_init_1 : decode cX4_init 1 = .ok (.invokespecial 1, 3) := dk_183 0 1 (dk_at dksX4_init_0 1 rfl rfl)
theorem dX4_init_4 : decode cX4_init 4 = .ok (.aload_n 0, 1) := dk_42 (dk_at dksX4_init_0 4 rfl rfl)
theorem dX4_init_5 : decode cX4_init 5 = .ok (.bipush 96, 2) := dk_16 96 (dk_at dksX4_init_0 5 rfl rfl)
theorem dX4_init_7 : decode cX4_init 7 = .ok (.newarray .long, 2) := dk_188_11 (dk_at dksX4_init_0 7 rfl rfl)
theorem dX4_init_9 : decode cX4_init 9 = .ok (.putfield 9, 3) := dk_181 0 9 (dk_at dksX4_init_0 9 rfl rfl)
theorem dX4_init_12 : decode cX4_init 12 = .ok (.aload_n 0, 1) := dk_42 (dk_at dksX4_init_0 12 rfl rfl)
theorem dX4_init_13 : decode cX4_init 13 = .ok (.iconst 4, 1) := dk_7 (dk_at dksX4_init_0 13 rfl rfl)
theorem dX4_init_14 : decode cX4_init 14 = .ok (.anewarray 13, 3) := dk_189 0 13 (dk_at dksX4_init_0 14 rfl rfl)
theorem dX4_init_17 : decode cX4_init 17 = .ok (.putfield 14, 3) := dk_181 0 14 (dk_at dksX4_init_0 17 rfl rfl)
theorem dX4_init_20 : decode cX4_init 20 = .ok (.iconst 0, 1) := dk_3 (dk_at dksX4_init_0 20 rfl rfl)
theorem dX4_init_21 : decode cX4_init 21 = .ok (.istore_n 1, 1) := dk_60 (dk_at dksX4_init_0 21 rfl rfl)
theorem dX4_init_22 : decode cX4_init 22 = .ok (.iload_n 1, 1) := dk_27 (dk_at dksX4_init_0 22 rfl rfl)
theorem dX4_init_23 : decode cX4_init 23 = .ok (.iconst 4, 1) := dk_7 (dk_at dksX4_init_0 23 rfl rfl)
theorem dX4_init_24 : decode cX4_init 24 = .ok (.if_icmp .ge 23, 3) := dk_162 0 23 (dk_at dksX4_init_1 0 rfl rfl)
theorem dX4_init_27 : decode cX4_init 27 = .ok (.aload_n 0, 1) := dk_42 (dk_at dksX4_init_1 3 rfl rfl)
theorem dX4_init_28 : decode cX4_init 28 = .ok (.getfield 14, 3) := dk_180 0 14 (dk_at dksX4_init_1 4 rfl rfl)
theorem dX4_init_31 : decode cX4_init 31 = .ok (.iload_n 1, 1) := dk_27 (dk_at dksX4_init_1 7 rfl rfl)
theorem dX4_init_32 : decode cX4_init 32 = .ok (.iconst 1, 1) := dk_4 (dk_at dksX4_init_1 8 rfl rfl)
theorem dX4_init_33 : decode cX4_init 33 = .ok (.newarray .long, 2) := dk_188_11 (dk_at dksX4_init_1 9 rfl rfl)
theorem dX4_init_35 : decode cX4_init 35 = .ok (.dup, 1) := dk_89 (dk_at dksX4_init_1 11 rfl rfl)
theorem dX4_init_36 : decode cX4_init 36 = .ok (.iconst 0, 1) := dk_3 (dk_at dksX4_init_1 12 rfl rfl)
theorem dX4_init_37 : decode cX4_init 37 = .ok (.iload_n 1, 1) := dk_27 (dk_at dksX4_init_1 13 rfl rfl)
theorem dX4_init_38 : decode cX4_init 38 = .ok (.i2l, 1) := dk_133 (dk_at dksX4_init_1 14 rfl rfl)
theorem dX4_init_39 : decode cX4_init 39 = .ok (.lastore, 1) := dk_80 (dk_at dksX4_init_1 15 rfl rfl)
theorem dX4_init_40 : decode cX4_init 40 = .ok (.aastore, 1) := dk_83 (dk_at dksX4_init_1 16 rfl rfl)
theorem dX4_init_41 : decode cX4_init 41 = .ok (.iinc 1 1, 3) := dk_132 1 1 (dk_at dksX4_init_1 17 rfl rfl)
theorem dX4_init_44 : decode cX4_init 44 = .ok (.goto (-22), 3) := dk_167 255 234 (dk_at dksX4_init_1 20 rfl rfl)
theorem dX4_init_47 : decode cX4_init 47 = .ok (.return_, 1) := dk_177 (dk_at dksX4_init_1 23 rfl rfl)
abbrev cX4_add : ByteArray := prog_3_method_4_code
def yX4_add : MethodName := ⟨RX4, "add", "(II)Z"⟩
def dkwX4_add_1 : List UInt8 := [80, 42, 89, 180, 0, 20, 4, 96, 181, 0, 20, 4, 172]
abbrev dktX4_add_1 : List UInt8 := dkwX4_add_1 ++ []
def dkwX4_add_0 : List UInt8 := [42, 180, 0, 20, 16, 96, 160, 0, 5, 3, 172, 42, 180, 0, 9, 42, 180, 0, 20, 27, 28, 184, 0, 24]
abbrev dktX4_add_0 : List UInt8 := dkwX4_add_0 ++ dktX4_add_1
theorem dksX4_add_0 : cX4_add.data.toList.drop 0 = dktX4_add_0 := by decide +kernel
theorem dksX4_add_1 : cX4_add.data.toList.drop 24 = dktX4_add_1 := dk_seg dksX4_add_0 24 rfl rfl
theorem dX4_add_0 : decode cX4_add 0 = .ok (.aload_n 0, 1) := dk_42 (dk_at dksX4_add_0 0 rfl rfl)
theorem dX4_add_1 : decode cX4_add 1 = .ok (.getfield 20, 3) := dk_180 0 20 (dk_at dksX4_add_0 1 rfl rfl)
theorem dX4_add_4 : decode cX4_add 4 = .ok (.bipush 96, 2) := dk_16 96 (dk_at dksX4_add_0 4 rfl rfl)
theorem dX4_add_6 : decode cX4_add 6 = .ok (.if_icmp .ne 5, 3) := dk_160 0 5 (dk_at dksX4_add_0 6 rfl rfl)
theorem dX4_add_9 : decode cX4_add 9 = .ok (.iconst 0, 1) := dk_3 (dk_at dksX4_add_0 9 rfl rfl)
theorem dX4_add_10 : decode cX4_add 10 = .ok (.ireturn, 1) := dk_172 (dk_at dksX4_add_0 10 rfl rfl)
theorem dX4_add_11 : decode cX4_add 11 = .ok (.aload_n 0, 1) := dk_42 (dk_at dksX4_add_0 11 rfl rfl)
theorem dX4_add_12 : decode cX4_add 12 = .ok (.getfield 9, 3) := dk_180 0 9 (dk_at dksX4_add_0 12 rfl rfl)
theorem dX4_add_15 : decode cX4_add 15 = .ok (.aload_n 0, 1) := dk_42 (dk_at dksX4_add_0 15 rfl rfl)
theorem dX4_add_16 : decode cX4_add 16 = .ok (.getfield 20, 3) := dk_180 0 20 (dk_at dksX4_add_0 16 rfl rfl)
theorem dX4_add_19 : decode cX4_add 19 = .ok (.iload_n 1, 1) := dk_27 (dk_at dksX4_add_0 19 rfl rfl)
theorem dX4_add_20 : decode cX4_add 20 = .ok (.iload_n 2, 1) := dk_28 (dk_at dksX4_add_0 20 rfl rfl)
theorem dX4_add_21 : decode cX4_add 21 = .ok (.invokestatic 24, 3) := dk_184 0 24 (dk_at dksX4_add_0 21 rfl rfl)
theorem dX4_add_24 : decode cX4_add 24 = .ok (.lastore, 1) := dk_80 (dk_at dksX4_add_1 0 rfl rfl)
theorem dX4_add_25 : decode cX4_add 25 = .ok (.aload_n 0, 1) := dk_42 (dk_at dksX4_add_1 1 rfl rfl)
theorem dX4_add_26 : decode cX4_add 26 = .ok (.dup, 1) := dk_89 (dk_at dksX4_add_1 2 rfl rfl)
theorem dX4_add_27 : decode cX4_add 27 = .ok (.getfield 20, 3) := dk_180 0 20 (dk_at dksX4_add_1 3 rfl rfl)
theorem dX4_add_30 : decode cX4_add 30 = .ok (.iconst 1, 1) := dk_4 (dk_at dksX4_add_1 6 rfl rfl)
theorem dX4_add_31 : decode cX4_add 31 = .ok (.iadd, 1) := dk_96 (dk_at dksX4_add_1 7 rfl rfl)
theorem dX4_add_32 : decode cX4_add 32 = .ok (.putfield 20, 3) := dk_181 0 20 (dk_at dksX4_add_1 8 rfl rfl)
theorem dX4_add_35 : decode cX4_add 35 = .ok (.iconst 1, 1) := dk_4 (dk_at dksX4_add_1 11 rfl rfl)
theorem dX4_add_36 : decode cX4_add 36 = .ok (.ireturn, 1) := dk_172 (dk_at dksX4_add_1 12 rfl rfl)
abbrev cX4_joined : ByteArray := prog_3_method_2_code
def yX4_joined : MethodName := ⟨RX4, "joined", "(II)J"⟩
def dkwX4_joined_0 : List UInt8 := [26, 133, 20, 0, 18, 105, 27, 156, 0, 12, 27, 133, 20, 0, 18, 97, 167, 0, 5, 27, 133, 97, 173]
abbrev dktX4_joined_0 : List UInt8 := dkwX4_joined_0 ++ []
theorem dksX4_joined_0 : cX4_joined.data.toList.drop 0 = dktX4_joined_0 := by decide +kernel
theorem dX4_joined_0 : decode cX4_joined 0 = .ok (.iload_n 0, 1) := dk_26 (dk_at dksX4_joined_0 0 rfl rfl)
theorem dX4_joined_1 : decode cX4_joined 1 = .ok (.i2l, 1) := dk_133 (dk_at dksX4_joined_0 1 rfl rfl)
theorem dX4_joined_2 : decode cX4_joined 2 = .ok (.ldc2_w 18, 3) := dk_20 0 18 (dk_at dksX4_joined_0 2 rfl rfl)
theorem dX4_joined_5 : decode cX4_joined 5 = .ok (.lmul, 1) := dk_105 (dk_at dksX4_joined_0 5 rfl rfl)
theorem dX4_joined_6 : decode cX4_joined 6 = .ok (.iload_n 1, 1) := dk_27 (dk_at dksX4_joined_0 6 rfl rfl)
theorem dX4_joined_7 : decode cX4_joined 7 = .ok (.ifCond .ge 12, 3) := dk_156 0 12 (dk_at dksX4_joined_0 7 rfl rfl)
theorem dX4_joined_10 : decode cX4_joined 10 = .ok (.iload_n 1, 1) := dk_27 (dk_at dksX4_joined_0 10 rfl rfl)
theorem dX4_joined_11 : decode cX4_joined 11 = .ok (.i2l, 1) := dk_133 (dk_at dksX4_joined_0 11 rfl rfl)
theorem dX4_joined_12 : decode cX4_joined 12 = .ok (.ldc2_w 18, 3) := dk_20 0 18 (dk_at dksX4_joined_0 12 rfl rfl)
theorem dX4_joined_15 : decode cX4_joined 15 = .ok (.ladd, 1) := dk_97 (dk_at dksX4_joined_0 15 rfl rfl)
theorem dX4_joined_16 : decode cX4_joined 16 = .ok (.goto 5, 3) := dk_167 0 5 (dk_at dksX4_joined_0 16 rfl rfl)
theorem dX4_joined_19 : decode cX4_joined 19 = .ok (.iload_n 1, 1) := dk_27 (dk_at dksX4_joined_0 19 rfl rfl)
theorem dX4_joined_20 : decode cX4_joined 20 = .ok (.i2l, 1) := dk_133 (dk_at dksX4_joined_0 20 rfl rfl)
theorem dX4_joined_21 : decode cX4_joined 21 = .ok (.ladd, 1) := dk_97 (dk_at dksX4_joined_0 21 rfl rfl)
theorem dX4_joined_22 : decode cX4_joined 22 = .ok (.lreturn, 1) := dk_173 (dk_at dksX4_joined_0 22 rfl rfl)
abbrev cX4_addRow : ByteArray := prog_3_method_5_code
def yX4_addRow : MethodName := ⟨RX4, "addRow", "(I)Z"⟩
def dkwX4_addRow_2 : List UInt8 := [167, 255, 233, 42, 89, 180, 0, 20, 44, 190, 96, 181, 0, 20, 4, 172]
abbrev dktX4_addRow_2 : List UInt8 := dkwX4_addRow_2 ++ []
def dkwX4_addRow_1 : List UInt8 := [62, 29, 44, 190, 162, 0, 23, 42, 180, 0, 9, 42, 180, 0, 20, 29, 96, 44, 29, 47, 80, 132, 3, 1]
abbrev dktX4_addRow_1 : List UInt8 := dkwX4_addRow_1 ++ dktX4_addRow_2
def dkwX4_addRow_0 : List UInt8 := [42, 180, 0, 14, 27, 6, 126, 50, 77, 42, 180, 0, 20, 44, 190, 96, 16, 96, 164, 0, 5, 3, 172, 3]
abbrev dktX4_addRow_0 : List UInt8 := dkwX4_addRow_0 ++ dktX4_addRow_1
theorem dksX4_addRow_0 : cX4_addRow.data.toList.drop 0 = dktX4_addRow_0 := by decide +kernel
theorem dksX4_addRow_1 : cX4_addRow.data.toList.drop 24 = dktX4_addRow_1 := dk_seg dksX4_addRow_0 24 rfl rfl
theorem dksX4_addRow_2 : cX4_addRow.data.toList.drop 48 = dktX4_addRow_2 := dk_seg dksX4_addRow_1 24 rfl rfl
theorem dX4_addRow_0 : decode cX4_addRow 0 = .ok (.aload_n 0, 1) := dk_42 (dk_at dksX4_addRow_0 0 rfl rfl)
theorem dX4_addRow_1 : decode cX4_addRow 1 = .ok (.getfield 14, 3) := dk_180 0 14 (dk_at dksX4_addRow_0 1 rfl rfl)
theorem dX4_addRow_4 : decode cX4_addRow 4 = .ok (.iload_n 1, 1) := dk_27 (dk_at dksX4_addRow_0 4 rfl rfl)
theorem dX4_addRow_5 : decode cX4_addRow 5 = .ok (.iconst 3, 1) := dk_6 (dk_at dksX4_addRow_0 5 rfl rfl)
theorem dX4_addRow_6 : decode cX4_addRow 6 = .ok (.iand, 1) := dk_126 (dk_at dksX4_addRow_0 6 rfl rfl)
theorem dX4_addRow_7 : decode cX4_addRow 7 = .ok (.aaload, 1) := dk_50 (dk_at dksX4_addRow_0 7 rfl rfl)
theorem dX4_addRow_8 : decode cX4_addRow 8 = .ok (.astore_n 2, 1) := dk_77 (dk_at dksX4_addRow_0 8 rfl rfl)
theorem dX4_addRow_9 : decode cX4_addRow 9 = .ok (.aload_n 0, 1) := dk_42 (dk_at dksX4_addRow_0 9 rfl rfl)
theorem dX4_addRow_10 : decode cX4_addRow 10 = .ok (.getfield 20, 3) := dk_180 0 20 (dk_at dksX4_addRow_0 10 rfl rfl)
theorem dX4_addRow_13 : decode cX4_addRow 13 = .ok (.aload_n 2, 1) := dk_44 (dk_at dksX4_addRow_0 13 rfl rfl)
theorem dX4_addRow_14 : decode cX4_addRow 14 = .ok (.arraylength, 1) := dk_190 (dk_at dksX4_addRow_0 14 rfl rfl)
theorem dX4_addRow_15 : decode cX4_addRow 15 = .ok (.iadd, 1) := dk_96 (dk_at dksX4_addRow_0 15 rfl rfl)
theorem dX4_addRow_16 : decode cX4_addRow 16 = .ok (.bipush 96, 2) := dk_16 96 (dk_at dksX4_addRow_0 16 rfl rfl)
theorem dX4_addRow_18 : decode cX4_addRow 18 = .ok (.if_icmp .le 5, 3) := dk_164 0 5 (dk_at dksX4_addRow_0 18 rfl rfl)
theorem dX4_addRow_21 : decode cX4_addRow 21 = .ok (.iconst 0, 1) := dk_3 (dk_at dksX4_addRow_0 21 rfl rfl)
theorem dX4_addRow_22 : decode cX4_addRow 22 = .ok (.ireturn, 1) := dk_172 (dk_at dksX4_addRow_0 22 rfl rfl)
theorem dX4_addRow_23 : decode cX4_addRow 23 = .ok (.iconst 0, 1) := dk_3 (dk_at dksX4_addRow_0 23 rfl rfl)
theorem dX4_addRow_24 : decode cX4_addRow 24 = .ok (.istore_n 3, 1) := dk_62 (dk_at dksX4_addRow_1 0 rfl rfl)
theorem dX4_addRow_25 : decode cX4_addRow 25 = .ok (.iload_n 3, 1) := dk_29 (dk_at dksX4_addRow_1 1 rfl rfl)
theorem dX4_addRow_26 : decode cX4_addRow 26 = .ok (.aload_n 2, 1) := dk_44 (dk_at dksX4_addRow_1 2 rfl rfl)
theorem dX4_addRow_27 : decode cX4_addRow 27 = .ok (.arraylength, 1) := dk_190 (dk_at dksX4_addRow_1 3 rfl rfl)
theorem dX4_addRow_28 : decode cX4_addRow 28 = .ok (.if_icmp .ge 23, 3) := dk_162 0 23 (dk_at dksX4_addRow_1 4 rfl rfl)
theorem dX4_addRow_31 : decode cX4_addRow 31 = .ok (.aload_n 0, 1) := dk_42 (dk_at dksX4_addRow_1 7 rfl rfl)
theorem dX4_addRow_32 : decode cX4_addRow 32 = .ok (.getfield 9, 3) := dk_180 0 9 (dk_at dksX4_addRow_1 8 rfl rfl)
theorem dX4_addRow_35 : decode cX4_addRow 35 = .ok (.aload_n 0, 1) := dk_42 (dk_at dksX4_addRow_1 11 rfl rfl)
theorem dX4_addRow_36 : decode cX4_addRow 36 = .ok (.getfield 20, 3) := dk_180 0 20 (dk_at dksX4_addRow_1 12 rfl rfl)
theorem dX4_addRow_39 : decode cX4_addRow 39 = .ok (.iload_n 3, 1) := dk_29 (dk_at dksX4_addRow_1 15 rfl rfl)
theorem dX4_addRow_40 : decode cX4_addRow 40 = .ok (.iadd, 1) := dk_96 (dk_at dksX4_addRow_1 16 rfl rfl)
theorem dX4_addRow_41 : decode cX4_addRow 41 = .ok (.aload_n 2, 1) := dk_44 (dk_at dksX4_addRow_1 17 rfl rfl)
theorem dX4_addRow_42 : decode cX4_addRow 42 = .ok (.iload_n 3, 1) := dk_29 (dk_at dksX4_addRow_1 18 rfl rfl)
theorem dX4_addRow_43 : decode cX4_addRow 43 = .ok (.laload, 1) := dk_47 (dk_at dksX4_addRow_1 19 rfl rfl)
theorem dX4_addRow_44 : decode cX4_addRow 44 = .ok (.lastore, 1) := dk_80 (dk_at dksX4_addRow_1 20 rfl rfl)
theorem dX4_addRow_45 : decode cX4_addRow 45 = .ok (.iinc 3 1, 3) := dk_132 3 1 (dk_at dksX4_addRow_1 21 rfl rfl)
theorem dX4_addRow_48 : decode cX4_addRow 48 = .ok (.goto (-23), 3) := dk_167 255 233 (dk_at dksX4_addRow_2 0 rfl rfl)
theorem dX4_addRow_51 : decode cX4_addRow 51 = .ok (.aload_n 0, 1) := dk_42 (dk_at dksX4_addRow_2 3 rfl rfl)
theorem dX4_addRow_52 : decode cX4_addRow 52 = .ok (.dup, 1) := dk_89 (dk_at dksX4_addRow_2 4 rfl rfl)
theorem dX4_addRow_53 : decode cX4_addRow 53 = .ok (.getfield 20, 3) := dk_180 0 20 (dk_at dksX4_addRow_2 5 rfl rfl)
theorem dX4_addRow_56 : decode cX4_addRow 56 = .ok (.aload_n 2, 1) := dk_44 (dk_at dksX4_addRow_2 8 rfl rfl)
theorem dX4_addRow_57 : decode cX4_addRow 57 = .ok (.arraylength, 1) := dk_190 (dk_at dksX4_addRow_2 9 rfl rfl)
theorem dX4_addRow_58 : decode cX4_addRow 58 = .ok (.iadd, 1) := dk_96 (dk_at dksX4_addRow_2 10 rfl rfl)
theorem dX4_addRow_59 : decode cX4_addRow 59 = .ok (.putfield 20, 3) := dk_181 0 20 (dk_at dksX4_addRow_2 11 rfl rfl)
theorem dX4_addRow_62 : decode cX4_addRow 62 = .ok (.iconst 1, 1) := dk_4 (dk_at dksX4_addRow_2 14 rfl rfl)
theorem dX4_addRow_63 : decode cX4_addRow 63 = .ok (.ireturn, 1) := dk_172 (dk_at dksX4_addRow_2 15 rfl rfl)
abbrev cX4_build : ByteArray := prog_3_method_6_code
def yX4_build : MethodName := ⟨RX4, "build", "(I)I"⟩
def dkwX4_build_1 : List UInt8 := [172]
abbrev dktX4_build_1 : List UInt8 := dkwX4_build_1 ++ []
def dkwX4_build_0 : List UInt8 := [42, 180, 0, 14, 27, 6, 126, 42, 180, 0, 9, 3, 42, 180, 0, 20, 184, 0, 28, 83, 42, 180, 0, 20]
abbrev dktX4_build_0 : List UInt8 := dkwX4_build_0 ++ dktX4_build_1
theorem dksX4_build_0 : cX4_build.data.toList.drop 0 = dktX4_build_0 := by decide +kernel
theorem dksX4_build_1 : cX4_build.data.toList.drop 24 = dktX4_build_1 := dk_seg dksX4_build_0 24 rfl rfl
theorem dX4_build_0 : decode cX4_build 0 = .ok (.aload_n 0, 1) := dk_42 (dk_at dksX4_build_0 0 rfl rfl)
theorem dX4_build_1 : decode cX4_build 1 = .ok (.getfield 14, 3) := dk_180 0 14 (dk_at dksX4_build_0 1 rfl rfl)
theorem dX4_build_4 : decode cX4_build 4 = .ok (.iload_n 1, 1) := dk_27 (dk_at dksX4_build_0 4 rfl rfl)
theorem dX4_build_5 : decode cX4_build 5 = .ok (.iconst 3, 1) := dk_6 (dk_at dksX4_build_0 5 rfl rfl)
theorem dX4_build_6 : decode cX4_build 6 = .ok (.iand, 1) := dk_126 (dk_at dksX4_build_0 6 rfl rfl)
theorem dX4_build_7 : decode cX4_build 7 = .ok (.aload_n 0, 1) := dk_42 (dk_at dksX4_build_0 7 rfl rfl)
theorem dX4_build_8 : decode cX4_build 8 = .ok (.getfield 9, 3) := dk_180 0 9 (dk_at dksX4_build_0 8 rfl rfl)
theorem dX4_build_11 : decode cX4_build 11 = .ok (.iconst 0, 1) := dk_3 (dk_at dksX4_build_0 11 rfl rfl)
theorem dX4_build_12 : decode cX4_build 12 = .ok (.aload_n 0, 1) := dk_42 (dk_at dksX4_build_0 12 rfl rfl)
theorem dX4_build_13 : decode cX4_build 13 = .ok (.getfield 20, 3) := dk_180 0 20 (dk_at dksX4_build_0 13 rfl rfl)
theorem dX4_build_16 : decode cX4_build 16 = .ok (.invokestatic 28, 3) := dk_184 0 28 (dk_at dksX4_build_0 16 rfl rfl)
theorem dX4_build_19 : decode cX4_build 19 = .ok (.aastore, 1) := dk_83 (dk_at dksX4_build_0 19 rfl rfl)
theorem dX4_build_20 : decode cX4_build 20 = .ok (.aload_n 0, 1) := dk_42 (dk_at dksX4_build_0 20 rfl rfl)
theorem dX4_build_21 : decode cX4_build 21 = .ok (.getfield 20, 3) := dk_180 0 20 (dk_at dksX4_build_0 21 rfl rfl)
theorem dX4_build_24 : decode cX4_build 24 = .ok (.ireturn, 1) := dk_172 (dk_at dksX4_build_1 0 rfl rfl)
abbrev cX4_cut : ByteArray := prog_3_method_3_code
def yX4_cut : MethodName := ⟨RX4, "cut", "([JII)[J"⟩
def dkwX4_cut_1 : List UInt8 := [132, 4, 1, 167, 255, 237, 45, 176]
abbrev dktX4_cut_1 : List UInt8 := dkwX4_cut_1 ++ []
def dkwX4_cut_0 : List UInt8 := [28, 188, 11, 78, 3, 54, 4, 21, 4, 28, 162, 0, 19, 45, 21, 4, 42, 27, 21, 4, 96, 47, 80]
abbrev dktX4_cut_0 : List UInt8 := dkwX4_cut_0 ++ dktX4_cut_1
theorem dksX4_cut_0 : cX4_cut.data.toList.drop 0 = dktX4_cut_0 := by decide +kernel
theorem dksX4_cut_1 : cX4_cut.data.toList.drop 23 = dktX4_cut_1 := dk_seg dksX4_cut_0 23 rfl rfl
theorem dX4_cut_0 : decode cX4_cut 0 = .ok (.iload_n 2, 1) := dk_28 (dk_at dksX4_cut_0 0 rfl rfl)
theorem dX4_cut_1 : decode cX4_cut 1 = .ok (.newarray .long, 2) := dk_188_11 (dk_at dksX4_cut_0 1 rfl rfl)
theorem dX4_cut_3 : decode cX4_cut 3 = .ok (.astore_n 3, 1) := dk_78 (dk_at dksX4_cut_0 3 rfl rfl)
theorem dX4_cut_4 : decode cX4_cut 4 = .ok (.iconst 0, 1) := dk_3 (dk_at dksX4_cut_0 4 rfl rfl)
theorem dX4_cut_5 : decode cX4_cut 5 = .ok (.istore 4, 2) := dk_54 4 (dk_at dksX4_cut_0 5 rfl rfl)
theorem dX4_cut_7 : decode cX4_cut 7 = .ok (.iload 4, 2) := dk_21 4 (dk_at dksX4_cut_0 7 rfl rfl)
theorem dX4_cut_9 : decode cX4_cut 9 = .ok (.iload_n 2, 1) := dk_28 (dk_at dksX4_cut_0 9 rfl rfl)
theorem dX4_cut_10 : decode cX4_cut 10 = .ok (.if_icmp .ge 19, 3) := dk_162 0 19 (dk_at dksX4_cut_0 10 rfl rfl)
theorem dX4_cut_13 : decode cX4_cut 13 = .ok (.aload_n 3, 1) := dk_45 (dk_at dksX4_cut_0 13 rfl rfl)
theorem dX4_cut_14 : decode cX4_cut 14 = .ok (.iload 4, 2) := dk_21 4 (dk_at dksX4_cut_0 14 rfl rfl)
theorem dX4_cut_16 : decode cX4_cut 16 = .ok (.aload_n 0, 1) := dk_42 (dk_at dksX4_cut_0 16 rfl rfl)
theorem dX4_cut_17 : decode cX4_cut 17 = .ok (.iload_n 1, 1) := dk_27 (dk_at dksX4_cut_0 17 rfl rfl)
theorem dX4_cut_18 : decode cX4_cut 18 = .ok (.iload 4, 2) := dk_21 4 (dk_at dksX4_cut_0 18 rfl rfl)
theorem dX4_cut_20 : decode cX4_cut 20 = .ok (.iadd, 1) := dk_96 (dk_at dksX4_cut_0 20 rfl rfl)
theorem dX4_cut_21 : decode cX4_cut 21 = .ok (.laload, 1) := dk_47 (dk_at dksX4_cut_0 21 rfl rfl)
theorem dX4_cut_22 : decode cX4_cut 22 = .ok (.lastore, 1) := dk_80 (dk_at dksX4_cut_0 22 rfl rfl)
theorem dX4_cut_23 : decode cX4_cut 23 = .ok (.iinc 4 1, 3) := dk_132 4 1 (dk_at dksX4_cut_1 0 rfl rfl)
theorem dX4_cut_26 : decode cX4_cut 26 = .ok (.goto (-19), 3) := dk_167 255 237 (dk_at dksX4_cut_1 3 rfl rfl)
theorem dX4_cut_29 : decode cX4_cut 29 = .ok (.aload_n 3, 1) := dk_45 (dk_at dksX4_cut_1 6 rfl rfl)
theorem dX4_cut_30 : decode cX4_cut 30 = .ok (.areturn, 1) := dk_176 (dk_at dksX4_cut_1 7 rfl rfl)
abbrev cX4_anew : ByteArray := prog_3_method_7_code
def yX4_anew : MethodName := ⟨RX4, "anew", "(I)V"⟩
def dkwX4_anew_0 : List UInt8 := [42, 3, 181, 0, 20, 177]
abbrev dktX4_anew_0 : List UInt8 := dkwX4_anew_0 ++ []
theorem dksX4_anew_0 : cX4_anew.data.toList.drop 0 = dktX4_anew_0 := by decide +kernel
theorem dX4_anew_0 : decode cX4_anew 0 = .ok (.aload_n 0, 1) := dk_42 (dk_at dksX4_anew_0 0 rfl rfl)
theorem dX4_anew_1 : decode cX4_anew 1 = .ok (.iconst 0, 1) := dk_3 (dk_at dksX4_anew_0 1 rfl rfl)
theorem dX4_anew_2 : decode cX4_anew 2 = .ok (.putfield 20, 3) := dk_181 0 20 (dk_at dksX4_anew_0 2 rfl rfl)
theorem dX4_anew_5 : decode cX4_anew 5 = .ok (.return_, 1) := dk_177 (dk_at dksX4_anew_0 5 rfl rfl)
abbrev cX4_part : ByteArray := prog_3_method_8_code
def yX4_part : MethodName := ⟨RX4, "part", "(IIII)I"⟩
def dkwX4_part_2 : List UInt8 := [21, 6, 21, 7, 184, 0, 28, 83, 21, 7, 172]
abbrev dktX4_part_2 : List UInt8 := dkwX4_part_2 ++ []
def dkwX4_part_1 : List UInt8 := [18, 32, 126, 25, 5, 190, 21, 6, 100, 4, 96, 112, 54, 7, 42, 180, 0, 14, 27, 6, 126, 25, 5]
abbrev dktX4_part_1 : List UInt8 := dkwX4_part_1 ++ dktX4_part_2
def dkwX4_part_0 : List UInt8 := [42, 180, 0, 14, 28, 6, 126, 50, 58, 5, 29, 18, 32, 126, 25, 5, 190, 4, 96, 112, 54, 6, 21, 4]
abbrev dktX4_part_0 : List UInt8 := dkwX4_part_0 ++ dktX4_part_1
theorem dksX4_part_0 : cX4_part.data.toList.drop 0 = dktX4_part_0 := by decide +kernel
theorem dksX4_part_1 : cX4_part.data.toList.drop 24 = dktX4_part_1 := dk_seg dksX4_part_0 24 rfl rfl
theorem dksX4_part_2 : cX4_part.data.toList.drop 47 = dktX4_part_2 := dk_seg dksX4_part_1 23 rfl rfl
theorem dX4_part_0 : decode cX4_part 0 = .ok (.aload_n 0, 1) := dk_42 (dk_at dksX4_part_0 0 rfl rfl)
theorem dX4_part_1 : decode cX4_part 1 = .ok (.getfield 14, 3) := dk_180 0 14 (dk_at dksX4_part_0 1 rfl rfl)
theorem dX4_part_4 : decode cX4_part 4 = .ok (.iload_n 2, 1) := dk_28 (dk_at dksX4_part_0 4 rfl rfl)
theorem dX4_part_5 : decode cX4_part 5 = .ok (.iconst 3, 1) := dk_6 (dk_at dksX4_part_0 5 rfl rfl)
theorem dX4_part_6 : decode cX4_part 6 = .ok (.iand, 1) := dk_126 (dk_at dksX4_part_0 6 rfl rfl)
theorem dX4_part_7 : decode cX4_part 7 = .ok (.aaload, 1) := dk_50 (dk_at dksX4_part_0 7 rfl rfl)
theorem dX4_part_8 : decode cX4_part 8 = .ok (.astore 5, 2) := dk_58 5 (dk_at dksX4_part_0 8 rfl rfl)
theorem dX4_part_10 : decode cX4_part 10 = .ok (.iload_n 3, 1) := dk_29 (dk_at dksX4_part_0 10 rfl rfl)
theorem dX4_part_11 : decode cX4_part 11 = .ok (.ldc 32, 2) := dk_18 32 (dk_at dksX4_part_0 11 rfl rfl)
theorem dX4_part_13 : decode cX4_part 13 = .ok (.iand, 1) := dk_126 (dk_at dksX4_part_0 13 rfl rfl)
theorem dX4_part_14 : decode cX4_part 14 = .ok (.aload 5, 2) := dk_25 5 (dk_at dksX4_part_0 14 rfl rfl)
theorem dX4_part_16 : decode cX4_part 16 = .ok (.arraylength, 1) := dk_190 (dk_at dksX4_part_0 16 rfl rfl)
theorem dX4_part_17 : decode cX4_part 17 = .ok (.iconst 1, 1) := dk_4 (dk_at dksX4_part_0 17 rfl rfl)
theorem dX4_part_18 : decode cX4_part 18 = .ok (.iadd, 1) := dk_96 (dk_at dksX4_part_0 18 rfl rfl)
theorem dX4_part_19 : decode cX4_part 19 = .ok (.irem, 1) := dk_112 (dk_at dksX4_part_0 19 rfl rfl)
theorem dX4_part_20 : decode cX4_part 20 = .ok (.istore 6, 2) := dk_54 6 (dk_at dksX4_part_0 20 rfl rfl)
theorem dX4_part_22 : decode cX4_part 22 = .ok (.iload 4, 2) := dk_21 4 (dk_at dksX4_part_0 22 rfl rfl)
theorem dX4_part_24 : decode cX4_part 24 = .ok (.ldc 32, 2) := dk_18 32 (dk_at dksX4_part_1 0 rfl rfl)
theorem dX4_part_26 : decode cX4_part 26 = .ok (.iand, 1) := dk_126 (dk_at dksX4_part_1 2 rfl rfl)
theorem dX4_part_27 : decode cX4_part 27 = .ok (.aload 5, 2) := dk_25 5 (dk_at dksX4_part_1 3 rfl rfl)
theorem dX4_part_29 : decode cX4_part 29 = .ok (.arraylength, 1) := dk_190 (dk_at dksX4_part_1 5 rfl rfl)
theorem dX4_part_30 : decode cX4_part 30 = .ok (.iload 6, 2) := dk_21 6 (dk_at dksX4_part_1 6 rfl rfl)
theorem dX4_part_32 : decode cX4_part 32 = .ok (.isub, 1) := dk_100 (dk_at dksX4_part_1 8 rfl rfl)
theorem dX4_part_33 : decode cX4_part 33 = .ok (.iconst 1, 1) := dk_4 (dk_at dksX4_part_1 9 rfl rfl)
theorem dX4_part_34 : decode cX4_part 34 = .ok (.iadd, 1) := dk_96 (dk_at dksX4_part_1 10 rfl rfl)
theorem dX4_part_35 : decode cX4_part 35 = .ok (.irem, 1) := dk_112 (dk_at dksX4_part_1 11 rfl rfl)
theorem dX4_part_36 : decode cX4_part 36 = .ok (.istore 7, 2) := dk_54 7 (dk_at dksX4_part_1 12 rfl rfl)
theorem dX4_part_38 : decode cX4_part 38 = .ok (.aload_n 0, 1) := dk_42 (dk_at dksX4_part_1 14 rfl rfl)
theorem dX4_part_39 : decode cX4_part 39 = .ok (.getfield 14, 3) := dk_180 0 14 (dk_at dksX4_part_1 15 rfl rfl)
theorem dX4_part_42 : decode cX4_part 42 = .ok (.iload_n 1, 1) := dk_27 (dk_at dksX4_part_1 18 rfl rfl)
theorem dX4_part_43 : decode cX4_part 43 = .ok (.iconst 3, 1) := dk_6 (dk_at dksX4_part_1 19 rfl rfl)
theorem dX4_part_44 : decode cX4_part 44 = .ok (.iand, 1) := dk_126 (dk_at dksX4_part_1 20 rfl rfl)
theorem dX4_part_45 : decode cX4_part 45 = .ok (.aload 5, 2) := dk_25 5 (dk_at dksX4_part_1 21 rfl rfl)
theorem dX4_part_47 : decode cX4_part 47 = .ok (.iload 6, 2) := dk_21 6 (dk_at dksX4_part_2 0 rfl rfl)
theorem dX4_part_49 : decode cX4_part 49 = .ok (.iload 7, 2) := dk_21 7 (dk_at dksX4_part_2 2 rfl rfl)
theorem dX4_part_51 : decode cX4_part 51 = .ok (.invokestatic 28, 3) := dk_184 0 28 (dk_at dksX4_part_2 4 rfl rfl)
theorem dX4_part_54 : decode cX4_part 54 = .ok (.aastore, 1) := dk_83 (dk_at dksX4_part_2 7 rfl rfl)
theorem dX4_part_55 : decode cX4_part 55 = .ok (.iload 7, 2) := dk_21 7 (dk_at dksX4_part_2 8 rfl rfl)
theorem dX4_part_57 : decode cX4_part 57 = .ok (.ireturn, 1) := dk_172 (dk_at dksX4_part_2 10 rfl rfl)
abbrev cX4_trim : ByteArray := prog_3_method_9_code
def yX4_trim : MethodName := ⟨RX4, "trim", "(I)V"⟩
def dkwX4_trim_1 : List UInt8 := [190, 184, 0, 28, 83, 177]
abbrev dktX4_trim_1 : List UInt8 := dkwX4_trim_1 ++ []
def dkwX4_trim_0 : List UInt8 := [42, 180, 0, 14, 27, 6, 126, 42, 180, 0, 14, 27, 6, 126, 50, 3, 42, 180, 0, 14, 27, 6, 126, 50]
abbrev dktX4_trim_0 : List UInt8 := dkwX4_trim_0 ++ dktX4_trim_1
theorem dksX4_trim_0 : cX4_trim.data.toList.drop 0 = dktX4_trim_0 := by decide +kernel
theorem dksX4_trim_1 : cX4_trim.data.toList.drop 24 = dktX4_trim_1 := dk_seg dksX4_trim_0 24 rfl rfl
theorem dX4_trim_0 : decode cX4_trim 0 = .ok (.aload_n 0, 1) := dk_42 (dk_at dksX4_trim_0 0 rfl rfl)
theorem dX4_trim_1 : decode cX4_trim 1 = .ok (.getfield 14, 3) := dk_180 0 14 (dk_at dksX4_trim_0 1 rfl rfl)
theorem dX4_trim_4 : decode cX4_trim 4 = .ok (.iload_n 1, 1) := dk_27 (dk_at dksX4_trim_0 4 rfl rfl)
theorem dX4_trim_5 : decode cX4_trim 5 = .ok (.iconst 3, 1) := dk_6 (dk_at dksX4_trim_0 5 rfl rfl)
theorem dX4_trim_6 : decode cX4_trim 6 = .ok (.iand, 1) := dk_126 (dk_at dksX4_trim_0 6 rfl rfl)
theorem dX4_trim_7 : decode cX4_trim 7 = .ok (.aload_n 0, 1) := dk_42 (dk_at dksX4_trim_0 7 rfl rfl)
theorem dX4_trim_8 : decode cX4_trim 8 = .ok (.getfield 14, 3) := dk_180 0 14 (dk_at dksX4_trim_0 8 rfl rfl)
theorem dX4_trim_11 : decode cX4_trim 11 = .ok (.iload_n 1, 1) := dk_27 (dk_at dksX4_trim_0 11 rfl rfl)
theorem dX4_trim_12 : decode cX4_trim 12 = .ok (.iconst 3, 1) := dk_6 (dk_at dksX4_trim_0 12 rfl rfl)
theorem dX4_trim_13 : decode cX4_trim 13 = .ok (.iand, 1) := dk_126 (dk_at dksX4_trim_0 13 rfl rfl)
theorem dX4_trim_14 : decode cX4_trim 14 = .ok (.aaload, 1) := dk_50 (dk_at dksX4_trim_0 14 rfl rfl)
theorem dX4_trim_15 : decode cX4_trim 15 = .ok (.iconst 0, 1) := dk_3 (dk_at dksX4_trim_0 15 rfl rfl)
theorem dX4_trim_16 : decode cX4_trim 16 = .ok (.aload_n 0, 1) := dk_42 (dk_at dksX4_trim_0 16 rfl rfl)
theorem dX4_trim_17 : decode cX4_trim 17 = .ok (.getfield 14, 3) := dk_180 0 14 (dk_at dksX4_trim_0 17 rfl rfl)
theorem dX4_trim_20 : decode cX4_trim 20 = .ok (.iload_n 1, 1) := dk_27 (dk_at dksX4_trim_0 20 rfl rfl)
theorem dX4_trim_21 : decode cX4_trim 21 = .ok (.iconst 3, 1) := dk_6 (dk_at dksX4_trim_0 21 rfl rfl)
theorem dX4_trim_22 : decode cX4_trim 22 = .ok (.iand, 1) := dk_126 (dk_at dksX4_trim_0 22 rfl rfl)
theorem dX4_trim_23 : decode cX4_trim 23 = .ok (.aaload, 1) := dk_50 (dk_at dksX4_trim_0 23 rfl rfl)
theorem dX4_trim_24 : decode cX4_trim 24 = .ok (.arraylength, 1) := dk_190 (dk_at dksX4_trim_1 0 rfl rfl)
theorem dX4_trim_25 : decode cX4_trim 25 = .ok (.invokestatic 28, 3) := dk_184 0 28 (dk_at dksX4_trim_1 1 rfl rfl)
theorem dX4_trim_28 : decode cX4_trim 28 = .ok (.aastore, 1) := dk_83 (dk_at dksX4_trim_1 4 rfl rfl)
theorem dX4_trim_29 : decode cX4_trim 29 = .ok (.return_, 1) := dk_177 (dk_at dksX4_trim_1 5 rfl rfl)
abbrev cX4_get : ByteArray := prog_3_method_10_code
def yX4_get : MethodName := ⟨RX4, "get", "(II)J"⟩
def dkwX4_get_1 : List UInt8 := [190, 112, 47, 173]
abbrev dktX4_get_1 : List UInt8 := dkwX4_get_1 ++ []
def dkwX4_get_0 : List UInt8 := [42, 180, 0, 14, 27, 6, 126, 50, 78, 45, 190, 154, 0, 7, 9, 167, 0, 12, 45, 28, 18, 32, 126, 45]
abbrev dktX4_get_0 : List UInt8 := dkwX4_get_0 ++ dktX4_get_1
theorem dksX4_get_0 : cX4_get.data.toList.drop 0 = dktX4_get_0 := by decide +kernel
theorem dksX4_get_1 : cX4_get.data.toList.drop 24 = dktX4_get_1 := dk_seg dksX4_get_0 24 rfl rfl
theorem dX4_get_0 : decode cX4_get 0 = .ok (.aload_n 0, 1) := dk_42 (dk_at dksX4_get_0 0 rfl rfl)
theorem dX4_get_1 : decode cX4_get 1 = .ok (.getfield 14, 3) := dk_180 0 14 (dk_at dksX4_get_0 1 rfl rfl)
theorem dX4_get_4 : decode cX4_get 4 = .ok (.iload_n 1, 1) := dk_27 (dk_at dksX4_get_0 4 rfl rfl)
theorem dX4_get_5 : decode cX4_get 5 = .ok (.iconst 3, 1) := dk_6 (dk_at dksX4_get_0 5 rfl rfl)
theorem dX4_get_6 : decode cX4_get 6 = .ok (.iand, 1) := dk_126 (dk_at dksX4_get_0 6 rfl rfl)
theorem dX4_get_7 : decode cX4_get 7 = .ok (.aaload, 1) := dk_50 (dk_at dksX4_get_0 7 rfl rfl)
theorem dX4_get_8 : decode cX4_get 8 = .ok (.astore_n 3, 1) := dk_78 (dk_at dksX4_get_0 8 rfl rfl)
theorem dX4_get_9 : decode cX4_get 9 = .ok (.aload_n 3, 1) := dk_45 (dk_at dksX4_get_0 9 rfl rfl)
theorem dX4_get_10 : decode cX4_get 10 = .ok (.arraylength, 1) := dk_190 (dk_at dksX4_get_0 10 rfl rfl)
theorem dX4_get_11 : decode cX4_get 11 = .ok (.ifCond .ne 7, 3) := dk_154 0 7 (dk_at dksX4_get_0 11 rfl rfl)
theorem dX4_get_14 : decode cX4_get 14 = .ok (.lconst 0, 1) := dk_9 (dk_at dksX4_get_0 14 rfl rfl)
theorem dX4_get_15 : decode cX4_get 15 = .ok (.goto 12, 3) := dk_167 0 12 (dk_at dksX4_get_0 15 rfl rfl)
theorem dX4_get_18 : decode cX4_get 18 = .ok (.aload_n 3, 1) := dk_45 (dk_at dksX4_get_0 18 rfl rfl)
theorem dX4_get_19 : decode cX4_get 19 = .ok (.iload_n 2, 1) := dk_28 (dk_at dksX4_get_0 19 rfl rfl)
theorem dX4_get_20 : decode cX4_get 20 = .ok (.ldc 32, 2) := dk_18 32 (dk_at dksX4_get_0 20 rfl rfl)
theorem dX4_get_22 : decode cX4_get 22 = .ok (.iand, 1) := dk_126 (dk_at dksX4_get_0 22 rfl rfl)
theorem dX4_get_23 : decode cX4_get 23 = .ok (.aload_n 3, 1) := dk_45 (dk_at dksX4_get_0 23 rfl rfl)
theorem dX4_get_24 : decode cX4_get 24 = .ok (.arraylength, 1) := dk_190 (dk_at dksX4_get_1 0 rfl rfl)
theorem dX4_get_25 : decode cX4_get 25 = .ok (.irem, 1) := dk_112 (dk_at dksX4_get_1 1 rfl rfl)
theorem dX4_get_26 : decode cX4_get 26 = .ok (.laload, 1) := dk_47 (dk_at dksX4_get_1 2 rfl rfl)
theorem dX4_get_27 : decode cX4_get 27 = .ok (.lreturn, 1) := dk_173 (dk_at dksX4_get_1 3 rfl rfl)
abbrev cX4_first : ByteArray := prog_3_method_11_code
def yX4_first : MethodName := ⟨RX4, "first", "(III)I"⟩
def dkwX4_first_1 : List UInt8 := [21, 5, 47, 28, 29, 184, 0, 24, 148, 154, 0, 6, 21, 5, 172, 132, 5, 1, 167, 255, 228, 2, 172]
abbrev dktX4_first_1 : List UInt8 := dkwX4_first_1 ++ []
def dkwX4_first_0 : List UInt8 := [42, 180, 0, 14, 27, 6, 126, 50, 58, 4, 3, 54, 5, 21, 5, 25, 4, 190, 162, 0, 26, 25, 4]
abbrev dktX4_first_0 : List UInt8 := dkwX4_first_0 ++ dktX4_first_1
theorem dksX4_first_0 : cX4_first.data.toList.drop 0 = dktX4_first_0 := by decide +kernel
theorem dksX4_first_1 : cX4_first.data.toList.drop 23 = dktX4_first_1 := dk_seg dksX4_first_0 23 rfl rfl
theorem dX4_first_0 : decode cX4_first 0 = .ok (.aload_n 0, 1) := dk_42 (dk_at dksX4_first_0 0 rfl rfl)
theorem dX4_first_1 : decode cX4_first 1 = .ok (.getfield 14, 3) := dk_180 0 14 (dk_at dksX4_first_0 1 rfl rfl)
theorem dX4_first_4 : decode cX4_first 4 = .ok (.iload_n 1, 1) := dk_27 (dk_at dksX4_first_0 4 rfl rfl)
theorem dX4_first_5 : decode cX4_first 5 = .ok (.iconst 3, 1) := dk_6 (dk_at dksX4_first_0 5 rfl rfl)
theorem dX4_first_6 : decode cX4_first 6 = .ok (.iand, 1) := dk_126 (dk_at dksX4_first_0 6 rfl rfl)
theorem dX4_first_7 : decode cX4_first 7 = .ok (.aaload, 1) := dk_50 (dk_at dksX4_first_0 7 rfl rfl)
theorem dX4_first_8 : decode cX4_first 8 = .ok (.astore 4, 2) := dk_58 4 (dk_at dksX4_first_0 8 rfl rfl)
theorem dX4_first_10 : decode cX4_first 10 = .ok (.iconst 0, 1) := dk_3 (dk_at dksX4_first_0 10 rfl rfl)
theorem dX4_first_11 : decode cX4_first 11 = .ok (.istore 5, 2) := dk_54 5 (dk_at dksX4_first_0 11 rfl rfl)
theorem dX4_first_13 : decode cX4_first 13 = .ok (.iload 5, 2) := dk_21 5 (dk_at dksX4_first_0 13 rfl rfl)
theorem dX4_first_15 : decode cX4_first 15 = .ok (.aload 4, 2) := dk_25 4 (dk_at dksX4_first_0 15 rfl rfl)
theorem dX4_first_17 : decode cX4_first 17 = .ok (.arraylength, 1) := dk_190 (dk_at dksX4_first_0 17 rfl rfl)
theorem dX4_first_18 : decode cX4_first 18 = .ok (.if_icmp .ge 26, 3) := dk_162 0 26 (dk_at dksX4_first_0 18 rfl rfl)
theorem dX4_first_21 : decode cX4_first 21 = .ok (.aload 4, 2) := dk_25 4 (dk_at dksX4_first_0 21 rfl rfl)
theorem dX4_first_23 : decode cX4_first 23 = .ok (.iload 5, 2) := dk_21 5 (dk_at dksX4_first_1 0 rfl rfl)
theorem dX4_first_25 : decode cX4_first 25 = .ok (.laload, 1) := dk_47 (dk_at dksX4_first_1 2 rfl rfl)
theorem dX4_first_26 : decode cX4_first 26 = .ok (.iload_n 2, 1) := dk_28 (dk_at dksX4_first_1 3 rfl rfl)
theorem dX4_first_27 : decode cX4_first 27 = .ok (.iload_n 3, 1) := dk_29 (dk_at dksX4_first_1 4 rfl rfl)
theorem dX4_first_28 : decode cX4_first 28 = .ok (.invokestatic 24, 3) := dk_184 0 24 (dk_at dksX4_first_1 5 rfl rfl)
theorem dX4_first_31 : decode cX4_first 31 = .ok (.lcmp, 1) := dk_148 (dk_at dksX4_first_1 8 rfl rfl)
theorem dX4_first_32 : decode cX4_first 32 = .ok (.ifCond .ne 6, 3) := dk_154 0 6 (dk_at dksX4_first_1 9 rfl rfl)
theorem dX4_first_35 : decode cX4_first 35 = .ok (.iload 5, 2) := dk_21 5 (dk_at dksX4_first_1 12 rfl rfl)
theorem dX4_first_37 : decode cX4_first 37 = .ok (.ireturn, 1) := dk_172 (dk_at dksX4_first_1 14 rfl rfl)
theorem dX4_first_38 : decode cX4_first 38 = .ok (.iinc 5 1, 3) := dk_132 5 1 (dk_at dksX4_first_1 15 rfl rfl)
theorem dX4_first_41 : decode cX4_first 41 = .ok (.goto (-28), 3) := dk_167 255 228 (dk_at dksX4_first_1 18 rfl rfl)
theorem dX4_first_44 : decode cX4_first 44 = .ok (.iconst (-1), 1) := dk_2 (dk_at dksX4_first_1 21 rfl rfl)
theorem dX4_first_45 : decode cX4_first 45 = .ok (.ireturn, 1) := dk_172 (dk_at dksX4_first_1 22 rfl rfl)
abbrev cX4_last : ByteArray := prog_3_method_12_code
def yX4_last : MethodName := ⟨RX4, "last", "(III)I"⟩
def dkwX4_last_1 : List UInt8 := [21, 5, 47, 28, 29, 184, 0, 24, 148, 154, 0, 6, 21, 5, 172, 132, 5, 255, 167, 255, 231, 2, 172]
abbrev dktX4_last_1 : List UInt8 := dkwX4_last_1 ++ []
def dkwX4_last_0 : List UInt8 := [42, 180, 0, 14, 27, 6, 126, 50, 58, 4, 25, 4, 190, 4, 100, 54, 5, 21, 5, 155, 0, 26, 25, 4]
abbrev dktX4_last_0 : List UInt8 := dkwX4_last_0 ++ dktX4_last_1
theorem dksX4_last_0 : cX4_last.data.toList.drop 0 = dktX4_last_0 := by decide +kernel
theorem dksX4_last_1 : cX4_last.data.toList.drop 24 = dktX4_last_1 := dk_seg dksX4_last_0 24 rfl rfl
theorem dX4_last_0 : decode cX4_last 0 = .ok (.aload_n 0, 1) := dk_42 (dk_at dksX4_last_0 0 rfl rfl)
theorem dX4_last_1 : decode cX4_last 1 = .ok (.getfield 14, 3) := dk_180 0 14 (dk_at dksX4_last_0 1 rfl rfl)
theorem dX4_last_4 : decode cX4_last 4 = .ok (.iload_n 1, 1) := dk_27 (dk_at dksX4_last_0 4 rfl rfl)
theorem dX4_last_5 : decode cX4_last 5 = .ok (.iconst 3, 1) := dk_6 (dk_at dksX4_last_0 5 rfl rfl)
theorem dX4_last_6 : decode cX4_last 6 = .ok (.iand, 1) := dk_126 (dk_at dksX4_last_0 6 rfl rfl)
theorem dX4_last_7 : decode cX4_last 7 = .ok (.aaload, 1) := dk_50 (dk_at dksX4_last_0 7 rfl rfl)
theorem dX4_last_8 : decode cX4_last 8 = .ok (.astore 4, 2) := dk_58 4 (dk_at dksX4_last_0 8 rfl rfl)
theorem dX4_last_10 : decode cX4_last 10 = .ok (.aload 4, 2) := dk_25 4 (dk_at dksX4_last_0 10 rfl rfl)
theorem dX4_last_12 : decode cX4_last 12 = .ok (.arraylength, 1) := dk_190 (dk_at dksX4_last_0 12 rfl rfl)
theorem dX4_last_13 : decode cX4_last 13 = .ok (.iconst 1, 1) := dk_4 (dk_at dksX4_last_0 13 rfl rfl)
theorem dX4_last_14 : decode cX4_last 14 = .ok (.isub, 1) := dk_100 (dk_at dksX4_last_0 14 rfl rfl)
theorem dX4_last_15 : decode cX4_last 15 = .ok (.istore 5, 2) := dk_54 5 (dk_at dksX4_last_0 15 rfl rfl)
theorem dX4_last_17 : decode cX4_last 17 = .ok (.iload 5, 2) := dk_21 5 (dk_at dksX4_last_0 17 rfl rfl)
theorem dX4_last_19 : decode cX4_last 19 = .ok (.ifCond .lt 26, 3) := dk_155 0 26 (dk_at dksX4_last_0 19 rfl rfl)
theorem dX4_last_22 : decode cX4_last 22 = .ok (.aload 4, 2) := dk_25 4 (dk_at dksX4_last_0 22 rfl rfl)
theorem dX4_last_24 : decode cX4_last 24 = .ok (.iload 5, 2) := dk_21 5 (dk_at dksX4_last_1 0 rfl rfl)
theorem dX4_last_26 : decode cX4_last 26 = .ok (.laload, 1) := dk_47 (dk_at dksX4_last_1 2 rfl rfl)
theorem dX4_last_27 : decode cX4_last 27 = .ok (.iload_n 2, 1) := dk_28 (dk_at dksX4_last_1 3 rfl rfl)
theorem dX4_last_28 : decode cX4_last 28 = .ok (.iload_n 3, 1) := dk_29 (dk_at dksX4_last_1 4 rfl rfl)
theorem dX4_last_29 : decode cX4_last 29 = .ok (.invokestatic 24, 3) := dk_184 0 24 (dk_at dksX4_last_1 5 rfl rfl)
theorem dX4_last_32 : decode cX4_last 32 = .ok (.lcmp, 1) := dk_148 (dk_at dksX4_last_1 8 rfl rfl)
theorem dX4_last_33 : decode cX4_last 33 = .ok (.ifCond .ne 6, 3) := dk_154 0 6 (dk_at dksX4_last_1 9 rfl rfl)
theorem dX4_last_36 : decode cX4_last 36 = .ok (.iload 5, 2) := dk_21 5 (dk_at dksX4_last_1 12 rfl rfl)
theorem dX4_last_38 : decode cX4_last 38 = .ok (.ireturn, 1) := dk_172 (dk_at dksX4_last_1 14 rfl rfl)
theorem dX4_last_39 : decode cX4_last 39 = .ok (.iinc 5 (-1), 3) := dk_132 5 255 (dk_at dksX4_last_1 15 rfl rfl)
theorem dX4_last_42 : decode cX4_last 42 = .ok (.goto (-25), 3) := dk_167 255 231 (dk_at dksX4_last_1 18 rfl rfl)
theorem dX4_last_45 : decode cX4_last 45 = .ok (.iconst (-1), 1) := dk_2 (dk_at dksX4_last_1 21 rfl rfl)
theorem dX4_last_46 : decode cX4_last 46 = .ok (.ireturn, 1) := dk_172 (dk_at dksX4_last_1 22 rfl rfl)
abbrev cX4_holds : ByteArray := prog_3_method_13_code
def yX4_holds : MethodName := ⟨RX4, "holds", "(III)Z"⟩
def dkwX4_holds_0 : List UInt8 := [42, 27, 28, 29, 182, 0, 33, 155, 0, 7, 4, 167, 0, 4, 3, 172]
abbrev dktX4_holds_0 : List UInt8 := dkwX4_holds_0 ++ []
theorem dksX4_holds_0 : cX4_holds.data.toList.drop 0 = dktX4_holds_0 := by decide +kernel
theorem dX4_holds_0 : decode cX4_holds 0 = .ok (.aload_n 0, 1) := dk_42 (dk_at dksX4_holds_0 0 rfl rfl)
theorem dX4_holds_1 : decode cX4_holds 1 = .ok (.iload_n 1, 1) := dk_27 (dk_at dksX4_holds_0 1 rfl rfl)
theorem dX4_holds_2 : decode cX4_holds 2 = .ok (.iload_n 2, 1) := dk_28 (dk_at dksX4_holds_0 2 rfl rfl)
theorem dX4_holds_3 : decode cX4_holds 3 = .ok (.iload_n 3, 1) := dk_29 (dk_at dksX4_holds_0 3 rfl rfl)
theorem dX4_holds_4 : decode cX4_holds 4 = .ok (.invokevirtual 33, 3) := dk_182 0 33 (dk_at dksX4_holds_0 4 rfl rfl)
theorem dX4_holds_7 : decode cX4_holds 7 = .ok (.ifCond .lt 7, 3) := dk_155 0 7 (dk_at dksX4_holds_0 7 rfl rfl)
theorem dX4_holds_10 : decode cX4_holds 10 = .ok (.iconst 1, 1) := dk_4 (dk_at dksX4_holds_0 10 rfl rfl)
theorem dX4_holds_11 : decode cX4_holds 11 = .ok (.goto 4, 3) := dk_167 0 4 (dk_at dksX4_holds_0 11 rfl rfl)
theorem dX4_holds_14 : decode cX4_holds 14 = .ok (.iconst 0, 1) := dk_3 (dk_at dksX4_holds_0 14 rfl rfl)
theorem dX4_holds_15 : decode cX4_holds 15 = .ok (.ireturn, 1) := dk_172 (dk_at dksX4_holds_0 15 rfl rfl)
abbrev cX4_length : ByteArray := prog_3_method_14_code
def yX4_length : MethodName := ⟨RX4, "length", "(I)I"⟩
def dkwX4_length_0 : List UInt8 := [42, 180, 0, 14, 27, 6, 126, 50, 190, 172]
abbrev dktX4_length_0 : List UInt8 := dkwX4_length_0 ++ []
theorem dksX4_length_0 : cX4_length.data.toList.drop 0 = dktX4_length_0 := by decide +kernel
theorem dX4_length_0 : decode cX4_length 0 = .ok (.aload_n 0, 1) := dk_42 (dk_at dksX4_length_0 0 rfl rfl)
theorem dX4_length_1 : decode cX4_length 1 = .ok (.getfield 14, 3) := dk_180 0 14 (dk_at dksX4_length_0 1 rfl rfl)
theorem dX4_length_4 : decode cX4_length 4 = .ok (.iload_n 1, 1) := dk_27 (dk_at dksX4_length_0 4 rfl rfl)
theorem dX4_length_5 : decode cX4_length 5 = .ok (.iconst 3, 1) := dk_6 (dk_at dksX4_length_0 5 rfl rfl)
theorem dX4_length_6 : decode cX4_length 6 = .ok (.iand, 1) := dk_126 (dk_at dksX4_length_0 6 rfl rfl)
theorem dX4_length_7 : decode cX4_length 7 = .ok (.aaload, 1) := dk_50 (dk_at dksX4_length_0 7 rfl rfl)
theorem dX4_length_8 : decode cX4_length 8 = .ok (.arraylength, 1) := dk_190 (dk_at dksX4_length_0 8 rfl rfl)
theorem dX4_length_9 : decode cX4_length 9 = .ok (.ireturn, 1) := dk_172 (dk_at dksX4_length_0 9 rfl rfl)
abbrev cX4_same : ByteArray := prog_3_method_15_code
def yX4_same : MethodName := ⟨RX4, "same", "(II)Z"⟩
def dkwX4_same_2 : List UInt8 := [148, 153, 0, 5, 3, 172, 132, 5, 1, 167, 255, 231, 4, 172]
abbrev dktX4_same_2 : List UInt8 := dkwX4_same_2 ++ []
def dkwX4_same_1 : List UInt8 := [159, 0, 5, 3, 172, 3, 54, 5, 21, 5, 45, 190, 162, 0, 24, 45, 21, 5, 47, 25, 4, 21, 5, 47]
abbrev dktX4_same_1 : List UInt8 := dkwX4_same_1 ++ dktX4_same_2
def dkwX4_same_0 : List UInt8 := [42, 180, 0, 14, 27, 6, 126, 50, 78, 42, 180, 0, 14, 28, 6, 126, 50, 58, 4, 45, 190, 25, 4, 190]
abbrev dktX4_same_0 : List UInt8 := dkwX4_same_0 ++ dktX4_same_1
theorem dksX4_same_0 : cX4_same.data.toList.drop 0 = dktX4_same_0 := by decide +kernel
theorem dksX4_same_1 : cX4_same.data.toList.drop 24 = dktX4_same_1 := dk_seg dksX4_same_0 24 rfl rfl
theorem dksX4_same_2 : cX4_same.data.toList.drop 48 = dktX4_same_2 := dk_seg dksX4_same_1 24 rfl rfl
theorem dX4_same_0 : decode cX4_same 0 = .ok (.aload_n 0, 1) := dk_42 (dk_at dksX4_same_0 0 rfl rfl)
theorem dX4_same_1 : decode cX4_same 1 = .ok (.getfield 14, 3) := dk_180 0 14 (dk_at dksX4_same_0 1 rfl rfl)
theorem dX4_same_4 : decode cX4_same 4 = .ok (.iload_n 1, 1) := dk_27 (dk_at dksX4_same_0 4 rfl rfl)
theorem dX4_same_5 : decode cX4_same 5 = .ok (.iconst 3, 1) := dk_6 (dk_at dksX4_same_0 5 rfl rfl)
theorem dX4_same_6 : decode cX4_same 6 = .ok (.iand, 1) := dk_126 (dk_at dksX4_same_0 6 rfl rfl)
theorem dX4_same_7 : decode cX4_same 7 = .ok (.aaload, 1) := dk_50 (dk_at dksX4_same_0 7 rfl rfl)
theorem dX4_same_8 : decode cX4_same 8 = .ok (.astore_n 3, 1) := dk_78 (dk_at dksX4_same_0 8 rfl rfl)
theorem dX4_same_9 : decode cX4_same 9 = .ok (.aload_n 0, 1) := dk_42 (dk_at dksX4_same_0 9 rfl rfl)
theorem dX4_same_10 : decode cX4_same 10 = .ok (.getfield 14, 3) := dk_180 0 14 (dk_at dksX4_same_0 10 rfl rfl)
theorem dX4_same_13 : decode cX4_same 13 = .ok (.iload_n 2, 1) := dk_28 (dk_at dksX4_same_0 13 rfl rfl)
theorem dX4_same_14 : decode cX4_same 14 = .ok (.iconst 3, 1) := dk_6 (dk_at dksX4_same_0 14 rfl rfl)
theorem dX4_same_15 : decode cX4_same 15 = .ok (.iand, 1) := dk_126 (dk_at dksX4_same_0 15 rfl rfl)
theorem dX4_same_16 : decode cX4_same 16 = .ok (.aaload, 1) := dk_50 (dk_at dksX4_same_0 16 rfl rfl)
theorem dX4_same_17 : decode cX4_same 17 = .ok (.astore 4, 2) := dk_58 4 (dk_at dksX4_same_0 17 rfl rfl)
theorem dX4_same_19 : decode cX4_same 19 = .ok (.aload_n 3, 1) := dk_45 (dk_at dksX4_same_0 19 rfl rfl)
theorem dX4_same_20 : decode cX4_same 20 = .ok (.arraylength, 1) := dk_190 (dk_at dksX4_same_0 20 rfl rfl)
theorem dX4_same_21 : decode cX4_same 21 = .ok (.aload 4, 2) := dk_25 4 (dk_at dksX4_same_0 21 rfl rfl)
theorem dX4_same_23 : decode cX4_same 23 = .ok (.arraylength, 1) := dk_190 (dk_at dksX4_same_0 23 rfl rfl)
theorem dX4_same_24 : decode cX4_same 24 = .ok (.if_icmp .eq 5, 3) := dk_159 0 5 (dk_at dksX4_same_1 0 rfl rfl)
theorem dX4_same_27 : decode cX4_same 27 = .ok (.iconst 0, 1) := dk_3 (dk_at dksX4_same_1 3 rfl rfl)
theorem dX4_same_28 : decode cX4_same 28 = .ok (.ireturn, 1) := dk_172 (dk_at dksX4_same_1 4 rfl rfl)
theorem dX4_same_29 : decode cX4_same 29 = .ok (.iconst 0, 1) := dk_3 (dk_at dksX4_same_1 5 rfl rfl)
theorem dX4_same_30 : decode cX4_same 30 = .ok (.istore 5, 2) := dk_54 5 (dk_at dksX4_same_1 6 rfl rfl)
theorem dX4_same_32 : decode cX4_same 32 = .ok (.iload 5, 2) := dk_21 5 (dk_at dksX4_same_1 8 rfl rfl)
theorem dX4_same_34 : decode cX4_same 34 = .ok (.aload_n 3, 1) := dk_45 (dk_at dksX4_same_1 10 rfl rfl)
theorem dX4_same_35 : decode cX4_same 35 = .ok (.arraylength, 1) := dk_190 (dk_at dksX4_same_1 11 rfl rfl)
theorem dX4_same_36 : decode cX4_same 36 = .ok (.if_icmp .ge 24, 3) := dk_162 0 24 (dk_at dksX4_same_1 12 rfl rfl)
theorem dX4_same_39 : decode cX4_same 39 = .ok (.aload_n 3, 1) := dk_45 (dk_at dksX4_same_1 15 rfl rfl)
theorem dX4_same_40 : decode cX4_same 40 = .ok (.iload 5, 2) := dk_21 5 (dk_at dksX4_same_1 16 rfl rfl)
theorem dX4_same_42 : decode cX4_same 42 = .ok (.laload, 1) := dk_47 (dk_at dksX4_same_1 18 rfl rfl)
theorem dX4_same_43 : decode cX4_same 43 = .ok (.aload 4, 2) := dk_25 4 (dk_at dksX4_same_1 19 rfl rfl)
theorem dX4_same_45 : decode cX4_same 45 = .ok (.iload 5, 2) := dk_21 5 (dk_at dksX4_same_1 21 rfl rfl)
theorem dX4_same_47 : decode cX4_same 47 = .ok (.laload, 1) := dk_47 (dk_at dksX4_same_1 23 rfl rfl)
theorem dX4_same_48 : decode cX4_same 48 = .ok (.lcmp, 1) := dk_148 (dk_at dksX4_same_2 0 rfl rfl)
theorem dX4_same_49 : decode cX4_same 49 = .ok (.ifCond .eq 5, 3) := dk_153 0 5 (dk_at dksX4_same_2 1 rfl rfl)
theorem dX4_same_52 : decode cX4_same 52 = .ok (.iconst 0, 1) := dk_3 (dk_at dksX4_same_2 4 rfl rfl)
theorem dX4_same_53 : decode cX4_same 53 = .ok (.ireturn, 1) := dk_172 (dk_at dksX4_same_2 5 rfl rfl)
theorem dX4_same_54 : decode cX4_same 54 = .ok (.iinc 5 1, 3) := dk_132 5 1 (dk_at dksX4_same_2 6 rfl rfl)
theorem dX4_same_57 : decode cX4_same 57 = .ok (.goto (-25), 3) := dk_167 255 231 (dk_at dksX4_same_2 9 rfl rfl)
theorem dX4_same_60 : decode cX4_same 60 = .ok (.iconst 1, 1) := dk_4 (dk_at dksX4_same_2 12 rfl rfl)
theorem dX4_same_61 : decode cX4_same 61 = .ok (.ireturn, 1) := dk_172 (dk_at dksX4_same_2 13 rfl rfl)
abbrev cX4_hash : ByteArray := prog_3_method_16_code
def yX4_hash : MethodName := ⟨RX4, "hash", "(I)I"⟩
def dkwX4_hash_2 : List UInt8 := [132, 5, 1, 167, 255, 225, 28, 172]
abbrev dktX4_hash_2 : List UInt8 := dkwX4_hash_2 ++ []
def dkwX4_hash_1 : List UInt8 := [162, 0, 30, 45, 21, 5, 47, 55, 6, 16, 31, 28, 104, 22, 6, 22, 6, 16, 32, 125, 131, 136, 96, 61]
abbrev dktX4_hash_1 : List UInt8 := dkwX4_hash_1 ++ dktX4_hash_2
def dkwX4_hash_0 : List UInt8 := [4, 61, 42, 180, 0, 14, 27, 6, 126, 50, 78, 45, 190, 54, 4, 3, 54, 5, 21, 5, 21, 4]
abbrev dktX4_hash_0 : List UInt8 := dkwX4_hash_0 ++ dktX4_hash_1
theorem dksX4_hash_0 : cX4_hash.data.toList.drop 0 = dktX4_hash_0 := by decide +kernel
theorem dksX4_hash_1 : cX4_hash.data.toList.drop 22 = dktX4_hash_1 := dk_seg dksX4_hash_0 22 rfl rfl
theorem dksX4_hash_2 : cX4_hash.data.toList.drop 46 = dktX4_hash_2 := dk_seg dksX4_hash_1 24 rfl rfl
theorem dX4_hash_0 : decode cX4_hash 0 = .ok (.iconst 1, 1) := dk_4 (dk_at dksX4_hash_0 0 rfl rfl)
theorem dX4_hash_1 : decode cX4_hash 1 = .ok (.istore_n 2, 1) := dk_61 (dk_at dksX4_hash_0 1 rfl rfl)
theorem dX4_hash_2 : decode cX4_hash 2 = .ok (.aload_n 0, 1) := dk_42 (dk_at dksX4_hash_0 2 rfl rfl)
theorem dX4_hash_3 : decode cX4_hash 3 = .ok (.getfield 14, 3) := dk_180 0 14 (dk_at dksX4_hash_0 3 rfl rfl)
theorem dX4_hash_6 : decode cX4_hash 6 = .ok (.iload_n 1, 1) := dk_27 (dk_at dksX4_hash_0 6 rfl rfl)
theorem dX4_hash_7 : decode cX4_hash 7 = .ok (.iconst 3, 1) := dk_6 (dk_at dksX4_hash_0 7 rfl rfl)
theorem dX4_hash_8 : decode cX4_hash 8 = .ok (.iand, 1) := dk_126 (dk_at dksX4_hash_0 8 rfl rfl)
theorem dX4_hash_9 : decode cX4_hash 9 = .ok (.aaload, 1) := dk_50 (dk_at dksX4_hash_0 9 rfl rfl)
theorem dX4_hash_10 : decode cX4_hash 10 = .ok (.astore_n 3, 1) := dk_78 (dk_at dksX4_hash_0 10 rfl rfl)
theorem dX4_hash_11 : decode cX4_hash 11 = .ok (.aload_n 3, 1) := dk_45 (dk_at dksX4_hash_0 11 rfl rfl)
theorem dX4_hash_12 : decode cX4_hash 12 = .ok (.arraylength, 1) := dk_190 (dk_at dksX4_hash_0 12 rfl rfl)
theorem dX4_hash_13 : decode cX4_hash 13 = .ok (.istore 4, 2) := dk_54 4 (dk_at dksX4_hash_0 13 rfl rfl)
theorem dX4_hash_15 : decode cX4_hash 15 = .ok (.iconst 0, 1) := dk_3 (dk_at dksX4_hash_0 15 rfl rfl)
theorem dX4_hash_16 : decode cX4_hash 16 = .ok (.istore 5, 2) := dk_54 5 (dk_at dksX4_hash_0 16 rfl rfl)
theorem dX4_hash_18 : decode cX4_hash 18 = .ok (.iload 5, 2) := dk_21 5 (dk_at dksX4_hash_0 18 rfl rfl)
theorem dX4_hash_20 : decode cX4_hash 20 = .ok (.iload 4, 2) := dk_21 4 (dk_at dksX4_hash_0 20 rfl rfl)
theorem dX4_hash_22 : decode cX4_hash 22 = .ok (.if_icmp .ge 30, 3) := dk_162 0 30 (dk_at dksX4_hash_1 0 rfl rfl)
theorem dX4_hash_25 : decode cX4_hash 25 = .ok (.aload_n 3, 1) := dk_45 (dk_at dksX4_hash_1 3 rfl rfl)
theorem dX4_hash_26 : decode cX4_hash 26 = .ok (.iload 5, 2) := dk_21 5 (dk_at dksX4_hash_1 4 rfl rfl)
theorem dX4_hash_28 : decode cX4_hash 28 = .ok (.laload, 1) := dk_47 (dk_at dksX4_hash_1 6 rfl rfl)
theorem dX4_hash_29 : decode cX4_hash 29 = .ok (.lstore 6, 2) := dk_55 6 (dk_at dksX4_hash_1 7 rfl rfl)
theorem dX4_hash_31 : decode cX4_hash 31 = .ok (.bipush 31, 2) := dk_16 31 (dk_at dksX4_hash_1 9 rfl rfl)
theorem dX4_hash_33 : decode cX4_hash 33 = .ok (.iload_n 2, 1) := dk_28 (dk_at dksX4_hash_1 11 rfl rfl)
theorem dX4_hash_34 : decode cX4_hash 34 = .ok (.imul, 1) := dk_104 (dk_at dksX4_hash_1 12 rfl rfl)
theorem dX4_hash_35 : decode cX4_hash 35 = .ok (.lload 6, 2) := dk_22 6 (dk_at dksX4_hash_1 13 rfl rfl)
theorem dX4_hash_37 : decode cX4_hash 37 = .ok (.lload 6, 2) := dk_22 6 (dk_at dksX4_hash_1 15 rfl rfl)
theorem dX4_hash_39 : decode cX4_hash 39 = .ok (.bipush 32, 2) := dk_16 32 (dk_at dksX4_hash_1 17 rfl rfl)
theorem dX4_hash_41 : decode cX4_hash 41 = .ok (.lushr, 1) := dk_125 (dk_at dksX4_hash_1 19 rfl rfl)
theorem dX4_hash_42 : decode cX4_hash 42 = .ok (.lxor, 1) := dk_131 (dk_at dksX4_hash_1 20 rfl rfl)
theorem dX4_hash_43 : decode cX4_hash 43 = .ok (.l2i, 1) := dk_136 (dk_at dksX4_hash_1 21 rfl rfl)
theorem dX4_hash_44 : decode cX4_hash 44 = .ok (.iadd, 1) := dk_96 (dk_at dksX4_hash_1 22 rfl rfl)
theorem dX4_hash_45 : decode cX4_hash 45 = .ok (.istore_n 2, 1) := dk_61 (dk_at dksX4_hash_1 23 rfl rfl)
theorem dX4_hash_46 : decode cX4_hash 46 = .ok (.iinc 5 1, 3) := dk_132 5 1 (dk_at dksX4_hash_2 0 rfl rfl)
theorem dX4_hash_49 : decode cX4_hash 49 = .ok (.goto (-31), 3) := dk_167 255 225 (dk_at dksX4_hash_2 3 rfl rfl)
theorem dX4_hash_52 : decode cX4_hash 52 = .ok (.iload_n 2, 1) := dk_28 (dk_at dksX4_hash_2 6 rfl rfl)
theorem dX4_hash_53 : decode cX4_hash 53 = .ok (.ireturn, 1) := dk_172 (dk_at dksX4_hash_2 7 rfl rfl)
abbrev cX4_whole : ByteArray := prog_3_method_17_code
def yX4_whole : MethodName := ⟨RX4, "whole", "(I)J"⟩
def dkwX4_whole_2 : List UInt8 := [167, 255, 230, 32, 173]
abbrev dktX4_whole_2 : List UInt8 := dkwX4_whole_2 ++ []
def dkwX4_whole_1 : List UInt8 := [162, 0, 25, 25, 4, 21, 6, 47, 55, 7, 20, 0, 37, 32, 105, 22, 7, 97, 65, 132, 6, 1]
abbrev dktX4_whole_1 : List UInt8 := dkwX4_whole_1 ++ dktX4_whole_2
def dkwX4_whole_0 : List UInt8 := [9, 65, 42, 180, 0, 14, 27, 6, 126, 50, 58, 4, 25, 4, 190, 54, 5, 3, 54, 6, 21, 6, 21, 5]
abbrev dktX4_whole_0 : List UInt8 := dkwX4_whole_0 ++ dktX4_whole_1
theorem dksX4_whole_0 : cX4_whole.data.toList.drop 0 = dktX4_whole_0 := by decide +kernel
theorem dksX4_whole_1 : cX4_whole.data.toList.drop 24 = dktX4_whole_1 := dk_seg dksX4_whole_0 24 rfl rfl
theorem dksX4_whole_2 : cX4_whole.data.toList.drop 46 = dktX4_whole_2 := dk_seg dksX4_whole_1 22 rfl rfl
theorem dX4_whole_0 : decode cX4_whole 0 = .ok (.lconst 0, 1) := dk_9 (dk_at dksX4_whole_0 0 rfl rfl)
theorem dX4_whole_1 : decode cX4_whole 1 = .ok (.lstore_n 2, 1) := dk_65 (dk_at dksX4_whole_0 1 rfl rfl)
theorem dX4_whole_2 : decode cX4_whole 2 = .ok (.aload_n 0, 1) := dk_42 (dk_at dksX4_whole_0 2 rfl rfl)
theorem dX4_whole_3 : decode cX4_whole 3 = .ok (.getfield 14, 3) := dk_180 0 14 (dk_at dksX4_whole_0 3 rfl rfl)
theorem dX4_whole_6 : decode cX4_whole 6 = .ok (.iload_n 1, 1) := dk_27 (dk_at dksX4_whole_0 6 rfl rfl)
theorem dX4_whole_7 : decode cX4_whole 7 = .ok (.iconst 3, 1) := dk_6 (dk_at dksX4_whole_0 7 rfl rfl)
theorem dX4_whole_8 : decode cX4_whole 8 = .ok (.iand, 1) := dk_126 (dk_at dksX4_whole_0 8 rfl rfl)
theorem dX4_whole_9 : decode cX4_whole 9 = .ok (.aaload, 1) := dk_50 (dk_at dksX4_whole_0 9 rfl rfl)
theorem dX4_whole_10 : decode cX4_whole 10 = .ok (.astore 4, 2) := dk_58 4 (dk_at dksX4_whole_0 10 rfl rfl)
theorem dX4_whole_12 : decode cX4_whole 12 = .ok (.aload 4, 2) := dk_25 4 (dk_at dksX4_whole_0 12 rfl rfl)
theorem dX4_whole_14 : decode cX4_whole 14 = .ok (.arraylength, 1) := dk_190 (dk_at dksX4_whole_0 14 rfl rfl)
theorem dX4_whole_15 : decode cX4_whole 15 = .ok (.istore 5, 2) := dk_54 5 (dk_at dksX4_whole_0 15 rfl rfl)
theorem dX4_whole_17 : decode cX4_whole 17 = .ok (.iconst 0, 1) := dk_3 (dk_at dksX4_whole_0 17 rfl rfl)
theorem dX4_whole_18 : decode cX4_whole 18 = .ok (.istore 6, 2) := dk_54 6 (dk_at dksX4_whole_0 18 rfl rfl)
theorem dX4_whole_20 : decode cX4_whole 20 = .ok (.iload 6, 2) := dk_21 6 (dk_at dksX4_whole_0 20 rfl rfl)
theorem dX4_whole_22 : decode cX4_whole 22 = .ok (.iload 5, 2) := dk_21 5 (dk_at dksX4_whole_0 22 rfl rfl)
theorem dX4_whole_24 : decode cX4_whole 24 = .ok (.if_icmp .ge 25, 3) := dk_162 0 25 (dk_at dksX4_whole_1 0 rfl rfl)
theorem dX4_whole_27 : decode cX4_whole 27 = .ok (.aload 4, 2) := dk_25 4 (dk_at dksX4_whole_1 3 rfl rfl)
theorem dX4_whole_29 : decode cX4_whole 29 = .ok (.iload 6, 2) := dk_21 6 (dk_at dksX4_whole_1 5 rfl rfl)
theorem dX4_whole_31 : decode cX4_whole 31 = .ok (.laload, 1) := dk_47 (dk_at dksX4_whole_1 7 rfl rfl)
theorem dX4_whole_32 : decode cX4_whole 32 = .ok (.lstore 7, 2) := dk_55 7 (dk_at dksX4_whole_1 8 rfl rfl)
theorem dX4_whole_34 : decode cX4_whole 34 = .ok (.ldc2_w 37, 3) := dk_20 0 37 (dk_at dksX4_whole_1 10 rfl rfl)
theorem dX4_whole_37 : decode cX4_whole 37 = .ok (.lload_n 2, 1) := dk_32 (dk_at dksX4_whole_1 13 rfl rfl)
theorem dX4_whole_38 : decode cX4_whole 38 = .ok (.lmul, 1) := dk_105 (dk_at dksX4_whole_1 14 rfl rfl)
theorem dX4_whole_39 : decode cX4_whole 39 = .ok (.lload 7, 2) := dk_22 7 (dk_at dksX4_whole_1 15 rfl rfl)
theorem dX4_whole_41 : decode cX4_whole 41 = .ok (.ladd, 1) := dk_97 (dk_at dksX4_whole_1 17 rfl rfl)
theorem dX4_whole_42 : decode cX4_whole 42 = .ok (.lstore_n 2, 1) := dk_65 (dk_at dksX4_whole_1 18 rfl rfl)
theorem dX4_whole_43 : decode cX4_whole 43 = .ok (.iinc 6 1, 3) := dk_132 6 1 (dk_at dksX4_whole_1 19 rfl rfl)
theorem dX4_whole_46 : decode cX4_whole 46 = .ok (.goto (-26), 3) := dk_167 255 230 (dk_at dksX4_whole_2 0 rfl rfl)
theorem dX4_whole_49 : decode cX4_whole 49 = .ok (.lload_n 2, 1) := dk_32 (dk_at dksX4_whole_2 3 rfl rfl)
theorem dX4_whole_50 : decode cX4_whole 50 = .ok (.lreturn, 1) := dk_173 (dk_at dksX4_whole_2 4 rfl rfl)
theorem q12 : (Jvm.Cond.initialized "FixedRowDeskModel") ∈ lw_all := lw_g (lw_at lw_m1 9 rfl) rfl
theorem q371 : (Jvm.Cond.instantiable "FixedRowDeskModel" (3 : Nat)) ∈ lw_all := lw_g (lw_at lw_m2 128 rfl) rfl
theorem q373 : (Jvm.Cond.instanceMethod ({ cls := "FixedRowDeskModel", name := "<init>", desc := "()V" } : Jvm.MethodName)) ∈ lw_all := lw_g (lw_at lw_m2 130 rfl) rfl
theorem q374 : (Jvm.Cond.code ({ cls := "FixedRowDeskModel", name := "<init>", desc := "()V" } : Jvm.MethodName) prog_3_method_1_code (2 : Nat) (Option.none : Option Jvm.ClassFile.FieldType)) ∈ lw_all := lw_g (lw_at lw_m2 131 rfl) rfl
theorem q375 : (Jvm.Cond.methodLink "FixedRowDeskModel" (1 : Nat) ({ cls := "java/lang/Object", name := "<init>", desc := "()V" } : Jvm.MethodName)) ∈ lw_all := lw_g (lw_at lw_m2 132 rfl) rfl
theorem q376 : (Jvm.Cond.classLink "FixedRowDeskModel" (13 : Nat) "[J") ∈ lw_all := lw_g (lw_at lw_m2 133 rfl) rfl
theorem q378 : (Jvm.Cond.fieldLink "FixedRowDeskModel" (9 : Nat) "FixedRowDeskModel" "maker" "[J") ∈ lw_all := lw_g (lw_at lw_m2 135 rfl) rfl
theorem q379 : (Jvm.Cond.fieldLink "FixedRowDeskModel" (20 : Nat) "FixedRowDeskModel" "made" "I") ∈ lw_all := lw_g (lw_at lw_m2 136 rfl) rfl
theorem q380 : (Jvm.Cond.fieldLink "FixedRowDeskModel" (14 : Nat) "FixedRowDeskModel" "rows" "[[J") ∈ lw_all := lw_g (lw_at lw_m2 137 rfl) rfl
theorem q381 : (Jvm.Cond.laysFinal "FixedRowDeskModel" "FixedRowDeskModel" "maker" "[J") ∈ lw_all := lw_g (lw_at lw_m2 138 rfl) rfl
theorem q382 : (Jvm.Cond.soleField "FixedRowDeskModel" "maker") ∈ lw_all := lw_g (lw_at lw_m2 139 rfl) rfl
theorem q383 : (Jvm.Cond.lays "FixedRowDeskModel" "FixedRowDeskModel" "made" "I") ∈ lw_all := lw_g (lw_at lw_m2 140 rfl) rfl
theorem q384 : (Jvm.Cond.soleField "FixedRowDeskModel" "made") ∈ lw_all := lw_g (lw_at lw_m2 141 rfl) rfl
theorem q385 : (Jvm.Cond.lays "FixedRowDeskModel" "FixedRowDeskModel" "rows" "[[J") ∈ lw_all := lw_g (lw_at lw_m2 142 rfl) rfl
theorem q386 : (Jvm.Cond.soleField "FixedRowDeskModel" "rows") ∈ lw_all := lw_g (lw_at lw_m2 143 rfl) rfl
theorem q387 : (Jvm.Cond.superclass "FixedRowDeskModel" "java/lang/Object") ∈ lw_all := lw_g (lw_at lw_m2 144 rfl) rfl
theorem q389 : (Jvm.Cond.instanceMethod ({ cls := "FixedRowDeskModel", name := "add", desc := "(II)Z" } : Jvm.MethodName)) ∈ lw_all := lw_g (lw_at lw_m2 146 rfl) rfl
theorem q390 : (Jvm.Cond.selects "FixedRowDeskModel" ({ cls := "FixedRowDeskModel", name := "add", desc := "(II)Z" } : Jvm.MethodName) ({ cls := "FixedRowDeskModel", name := "add", desc := "(II)Z" } : Jvm.MethodName)) ∈ lw_all := lw_g (lw_at lw_m2 147 rfl) rfl
theorem q391 : (Jvm.Cond.code ({ cls := "FixedRowDeskModel", name := "add", desc := "(II)Z" } : Jvm.MethodName) prog_3_method_4_code (3 : Nat) (Option.some Jvm.ClassFile.FieldType.boolean)) ∈ lw_all := lw_g (lw_at lw_m2 148 rfl) rfl
theorem q392 : (Jvm.Cond.methodLink "FixedRowDeskModel" (24 : Nat) ({ cls := "FixedRowDeskModel", name := "joined", desc := "(II)J" } : Jvm.MethodName)) ∈ lw_all := lw_g (lw_at lw_m2 149 rfl) rfl
theorem q393 : (Jvm.Cond.static ({ cls := "FixedRowDeskModel", name := "joined", desc := "(II)J" } : Jvm.MethodName)) ∈ lw_all := lw_g (lw_at lw_m2 150 rfl) rfl
theorem q394 : (Jvm.Cond.code ({ cls := "FixedRowDeskModel", name := "joined", desc := "(II)J" } : Jvm.MethodName) prog_3_method_2_code (2 : Nat) (Option.some Jvm.ClassFile.FieldType.long)) ∈ lw_all := lw_g (lw_at lw_m2 151 rfl) rfl
theorem q395 : (Jvm.Cond.constantLong "FixedRowDeskModel" (18 : Nat) (4294967296 : Int64)) ∈ lw_all := lw_g (lw_at lw_m2 152 rfl) rfl
theorem q397 : (Jvm.Cond.instanceMethod ({ cls := "FixedRowDeskModel", name := "addRow", desc := "(I)Z" } : Jvm.MethodName)) ∈ lw_all := lw_g (lw_at lw_m2 154 rfl) rfl
theorem q398 : (Jvm.Cond.selects "FixedRowDeskModel" ({ cls := "FixedRowDeskModel", name := "addRow", desc := "(I)Z" } : Jvm.MethodName) ({ cls := "FixedRowDeskModel", name := "addRow", desc := "(I)Z" } : Jvm.MethodName)) ∈ lw_all := lw_g (lw_at lw_m2 155 rfl) rfl
theorem q399 : (Jvm.Cond.code ({ cls := "FixedRowDeskModel", name := "addRow", desc := "(I)Z" } : Jvm.MethodName) prog_3_method_5_code (4 : Nat) (Option.some Jvm.ClassFile.FieldType.boolean)) ∈ lw_all := lw_g (lw_at lw_m2 156 rfl) rfl
theorem q401 : (Jvm.Cond.instanceMethod ({ cls := "FixedRowDeskModel", name := "build", desc := "(I)I" } : Jvm.MethodName)) ∈ lw_all := lw_g (lw_at lw_m2 158 rfl) rfl
theorem q402 : (Jvm.Cond.selects "FixedRowDeskModel" ({ cls := "FixedRowDeskModel", name := "build", desc := "(I)I" } : Jvm.MethodName) ({ cls := "FixedRowDeskModel", name := "build", desc := "(I)I" } : Jvm.MethodName)) ∈ lw_all := lw_g (lw_at lw_m2 159 rfl) rfl
theorem q403 : (Jvm.Cond.code ({ cls := "FixedRowDeskModel", name := "build", desc := "(I)I" } : Jvm.MethodName) prog_3_method_6_code (2 : Nat) (Option.some Jvm.ClassFile.FieldType.int)) ∈ lw_all := lw_g (lw_at lw_m2 160 rfl) rfl
theorem q404 : (Jvm.Cond.methodLink "FixedRowDeskModel" (28 : Nat) ({ cls := "FixedRowDeskModel", name := "cut", desc := "([JII)[J" } : Jvm.MethodName)) ∈ lw_all := lw_g (lw_at lw_m2 161 rfl) rfl
theorem q405 : (Jvm.Cond.static ({ cls := "FixedRowDeskModel", name := "cut", desc := "([JII)[J" } : Jvm.MethodName)) ∈ lw_all := lw_g (lw_at lw_m2 162 rfl) rfl
theorem q406 : (Jvm.Cond.code ({ cls := "FixedRowDeskModel", name := "cut", desc := "([JII)[J" } : Jvm.MethodName) prog_3_method_3_code (5 : Nat) (Option.some (Jvm.ClassFile.FieldType.array Jvm.ClassFile.FieldType.long))) ∈ lw_all := lw_g (lw_at lw_m2 163 rfl) rfl
theorem q408 : (Jvm.Cond.instanceMethod ({ cls := "FixedRowDeskModel", name := "anew", desc := "(I)V" } : Jvm.MethodName)) ∈ lw_all := lw_g (lw_at lw_m2 165 rfl) rfl
theorem q409 : (Jvm.Cond.selects "FixedRowDeskModel" ({ cls := "FixedRowDeskModel", name := "anew", desc := "(I)V" } : Jvm.MethodName) ({ cls := "FixedRowDeskModel", name := "anew", desc := "(I)V" } : Jvm.MethodName)) ∈ lw_all := lw_g (lw_at lw_m2 166 rfl) rfl
theorem q410 : (Jvm.Cond.code ({ cls := "FixedRowDeskModel", name := "anew", desc := "(I)V" } : Jvm.MethodName) prog_3_method_7_code (2 : Nat) (Option.none : Option Jvm.ClassFile.FieldType)) ∈ lw_all := lw_g (lw_at lw_m2 167 rfl) rfl
theorem q412 : (Jvm.Cond.instanceMethod ({ cls := "FixedRowDeskModel", name := "part", desc := "(IIII)I" } : Jvm.MethodName)) ∈ lw_all := lw_g (lw_at lw_m2 169 rfl) rfl
theorem q413 : (Jvm.Cond.selects "FixedRowDeskModel" ({ cls := "FixedRowDeskModel", name := "part", desc := "(IIII)I" } : Jvm.MethodName) ({ cls := "FixedRowDeskModel", name := "part", desc := "(IIII)I" } : Jvm.MethodName)) ∈ lw_all := lw_g (lw_at lw_m2 170 rfl) rfl
theorem q414 : (Jvm.Cond.code ({ cls := "FixedRowDeskModel", name := "part", desc := "(IIII)I" } : Jvm.MethodName) prog_3_method_8_code (8 : Nat) (Option.some Jvm.ClassFile.FieldType.int)) ∈ lw_all := lw_g (lw_at lw_m2 171 rfl) rfl
theorem q415 : (Jvm.Cond.constant "FixedRowDeskModel" (32 : Nat) (2147483647 : Int32)) ∈ lw_all := lw_g (lw_at lw_m2 172 rfl) rfl
theorem q417 : (Jvm.Cond.instanceMethod ({ cls := "FixedRowDeskModel", name := "trim", desc := "(I)V" } : Jvm.MethodName)) ∈ lw_all := lw_g (lw_at lw_m2 174 rfl) rfl
theorem q418 : (Jvm.Cond.selects "FixedRowDeskModel" ({ cls := "FixedRowDeskModel", name := "trim", desc := "(I)V" } : Jvm.MethodName) ({ cls := "FixedRowDeskModel", name := "trim", desc := "(I)V" } : Jvm.MethodName)) ∈ lw_all := lw_g (lw_at lw_m2 175 rfl) rfl
theorem q419 : (Jvm.Cond.code ({ cls := "FixedRowDeskModel", name := "trim", desc := "(I)V" } : Jvm.MethodName) prog_3_method_9_code (2 : Nat) (Option.none : Option Jvm.ClassFile.FieldType)) ∈ lw_all := lw_g (lw_at lw_m2 176 rfl) rfl
theorem q421 : (Jvm.Cond.instanceMethod ({ cls := "FixedRowDeskModel", name := "get", desc := "(II)J" } : Jvm.MethodName)) ∈ lw_all := lw_g (lw_at lw_m2 178 rfl) rfl
theorem q422 : (Jvm.Cond.selects "FixedRowDeskModel" ({ cls := "FixedRowDeskModel", name := "get", desc := "(II)J" } : Jvm.MethodName) ({ cls := "FixedRowDeskModel", name := "get", desc := "(II)J" } : Jvm.MethodName)) ∈ lw_all := lw_g (lw_at lw_m2 179 rfl) rfl
theorem q423 : (Jvm.Cond.code ({ cls := "FixedRowDeskModel", name := "get", desc := "(II)J" } : Jvm.MethodName) prog_3_method_10_code (4 : Nat) (Option.some Jvm.ClassFile.FieldType.long)) ∈ lw_all := lw_g (lw_at lw_m2 180 rfl) rfl
theorem q425 : (Jvm.Cond.instanceMethod ({ cls := "FixedRowDeskModel", name := "first", desc := "(III)I" } : Jvm.MethodName)) ∈ lw_all := lw_g (lw_at lw_m2 182 rfl) rfl
theorem q426 : (Jvm.Cond.selects "FixedRowDeskModel" ({ cls := "FixedRowDeskModel", name := "first", desc := "(III)I" } : Jvm.MethodName) ({ cls := "FixedRowDeskModel", name := "first", desc := "(III)I" } : Jvm.MethodName)) ∈ lw_all := lw_g (lw_at lw_m2 183 rfl) rfl
theorem q427 : (Jvm.Cond.code ({ cls := "FixedRowDeskModel", name := "first", desc := "(III)I" } : Jvm.MethodName) prog_3_method_11_code (6 : Nat) (Option.some Jvm.ClassFile.FieldType.int)) ∈ lw_all := lw_g (lw_at lw_m2 184 rfl) rfl
theorem q429 : (Jvm.Cond.instanceMethod ({ cls := "FixedRowDeskModel", name := "last", desc := "(III)I" } : Jvm.MethodName)) ∈ lw_all := lw_g (lw_at lw_m2 186 rfl) rfl
theorem q430 : (Jvm.Cond.selects "FixedRowDeskModel" ({ cls := "FixedRowDeskModel", name := "last", desc := "(III)I" } : Jvm.MethodName) ({ cls := "FixedRowDeskModel", name := "last", desc := "(III)I" } : Jvm.MethodName)) ∈ lw_all := lw_g (lw_at lw_m2 187 rfl) rfl
theorem q431 : (Jvm.Cond.code ({ cls := "FixedRowDeskModel", name := "last", desc := "(III)I" } : Jvm.MethodName) prog_3_method_12_code (6 : Nat) (Option.some Jvm.ClassFile.FieldType.int)) ∈ lw_all := lw_g (lw_at lw_m2 188 rfl) rfl
theorem q433 : (Jvm.Cond.instanceMethod ({ cls := "FixedRowDeskModel", name := "holds", desc := "(III)Z" } : Jvm.MethodName)) ∈ lw_all := lw_g (lw_at lw_m2 190 rfl) rfl
theorem q434 : (Jvm.Cond.selects "FixedRowDeskModel" ({ cls := "FixedRowDeskModel", name := "holds", desc := "(III)Z" } : Jvm.MethodName) ({ cls := "FixedRowDeskModel", name := "holds", desc := "(III)Z" } : Jvm.MethodName)) ∈ lw_all := lw_g (lw_at lw_m2 191 rfl) rfl
theorem q435 : (Jvm.Cond.code ({ cls := "FixedRowDeskModel", name := "holds", desc := "(III)Z" } : Jvm.MethodName) prog_3_method_13_code (4 : Nat) (Option.some Jvm.ClassFile.FieldType.boolean)) ∈ lw_all := lw_g (lw_at lw_m2 192 rfl) rfl
theorem q436 : (Jvm.Cond.methodLink "FixedRowDeskModel" (33 : Nat) ({ cls := "FixedRowDeskModel", name := "first", desc := "(III)I" } : Jvm.MethodName)) ∈ lw_all := lw_g (lw_at lw_m2 193 rfl) rfl
theorem q438 : (Jvm.Cond.instanceMethod ({ cls := "FixedRowDeskModel", name := "length", desc := "(I)I" } : Jvm.MethodName)) ∈ lw_all := lw_g (lw_at lw_m2 195 rfl) rfl
theorem q439 : (Jvm.Cond.selects "FixedRowDeskModel" ({ cls := "FixedRowDeskModel", name := "length", desc := "(I)I" } : Jvm.MethodName) ({ cls := "FixedRowDeskModel", name := "length", desc := "(I)I" } : Jvm.MethodName)) ∈ lw_all := lw_g (lw_at lw_m2 196 rfl) rfl
theorem q440 : (Jvm.Cond.code ({ cls := "FixedRowDeskModel", name := "length", desc := "(I)I" } : Jvm.MethodName) prog_3_method_14_code (2 : Nat) (Option.some Jvm.ClassFile.FieldType.int)) ∈ lw_all := lw_g (lw_at lw_m2 197 rfl) rfl
theorem q442 : (Jvm.Cond.instanceMethod ({ cls := "FixedRowDeskModel", name := "same", desc := "(II)Z" } : Jvm.MethodName)) ∈ lw_all := lw_g (lw_at lw_m2 199 rfl) rfl
theorem q443 : (Jvm.Cond.selects "FixedRowDeskModel" ({ cls := "FixedRowDeskModel", name := "same", desc := "(II)Z" } : Jvm.MethodName) ({ cls := "FixedRowDeskModel", name := "same", desc := "(II)Z" } : Jvm.MethodName)) ∈ lw_all := lw_g (lw_at lw_m2 200 rfl) rfl
theorem q444 : (Jvm.Cond.code ({ cls := "FixedRowDeskModel", name := "same", desc := "(II)Z" } : Jvm.MethodName) prog_3_method_15_code (6 : Nat) (Option.some Jvm.ClassFile.FieldType.boolean)) ∈ lw_all := lw_g (lw_at lw_m2 201 rfl) rfl
theorem q446 : (Jvm.Cond.instanceMethod ({ cls := "FixedRowDeskModel", name := "hash", desc := "(I)I" } : Jvm.MethodName)) ∈ lw_all := lw_g (lw_at lw_m2 203 rfl) rfl
theorem q447 : (Jvm.Cond.selects "FixedRowDeskModel" ({ cls := "FixedRowDeskModel", name := "hash", desc := "(I)I" } : Jvm.MethodName) ({ cls := "FixedRowDeskModel", name := "hash", desc := "(I)I" } : Jvm.MethodName)) ∈ lw_all := lw_g (lw_at lw_m2 204 rfl) rfl
theorem q448 : (Jvm.Cond.code ({ cls := "FixedRowDeskModel", name := "hash", desc := "(I)I" } : Jvm.MethodName) prog_3_method_16_code (8 : Nat) (Option.some Jvm.ClassFile.FieldType.int)) ∈ lw_all := lw_g (lw_at lw_m2 205 rfl) rfl
theorem q450 : (Jvm.Cond.instanceMethod ({ cls := "FixedRowDeskModel", name := "whole", desc := "(I)J" } : Jvm.MethodName)) ∈ lw_all := lw_g (lw_at lw_m2 207 rfl) rfl
theorem q451 : (Jvm.Cond.selects "FixedRowDeskModel" ({ cls := "FixedRowDeskModel", name := "whole", desc := "(I)J" } : Jvm.MethodName) ({ cls := "FixedRowDeskModel", name := "whole", desc := "(I)J" } : Jvm.MethodName)) ∈ lw_all := lw_g (lw_at lw_m2 208 rfl) rfl
theorem q452 : (Jvm.Cond.code ({ cls := "FixedRowDeskModel", name := "whole", desc := "(I)J" } : Jvm.MethodName) prog_3_method_17_code (9 : Nat) (Option.some Jvm.ClassFile.FieldType.long)) ∈ lw_all := lw_g (lw_at lw_m2 209 rfl) rfl
theorem q453 : (Jvm.Cond.constantLong "FixedRowDeskModel" (37 : Nat) (31 : Int64)) ∈ lw_all := lw_g (lw_at lw_m2 210 rfl) rfl
theorem in_X4 : ∀ w ∈ wsX40, w ∈ lw_all := lw_in wsX40 [381, 383, 385] (by decide +kernel) (by decide +kernel)
/-! java/lang/Integer -/
set_option maxRecDepth 100000
def RJ5 : String := "java/lang/Integer"
abbrev cJ5_highestOneBit : ByteArray := prog_12_method_45_code
def yJ5_highestOneBit : MethodName := ⟨RJ5, "highestOneBit", "(I)I"⟩
def dkwJ5_highestOneBit_0 : List UInt8 := [26, 18, 127, 26, 184, 0, 51, 124, 126, 172]
abbrev dktJ5_highestOneBit_0 : List UInt8 := dkwJ5_highestOneBit_0 ++ []
theorem dksJ5_highestOneBit_0 : cJ5_highestOneBit.data.toList.drop 0 = dktJ5_highestOneBit_0 := by decide +kernel
theorem dJ5_highestOneBit_0 : decode cJ5_highestOneBit 0 = .ok (.iload_n 0, 1) := dk_26 (dk_at dksJ5_highestOneBit_0 0 rfl rfl)
theorem dJ5_highestOneBit_1 : decode cJ5_highestOneBit 1 = .ok (.ldc 127, 2) := dk_18 127 (dk_at dksJ5_highestOneBit_0 1 rfl rfl)
theorem dJ5_highestOneBit_3 : decode cJ5_highestOneBit 3 = .ok (.iload_n 0, 1) := dk_26 (dk_at dksJ5_highestOneBit_0 3 rfl rfl)
theorem dJ5_highestOneBit_4 : decode cJ5_highestOneBit 4 = .ok (.invokestatic 51, 3) := dk_184 0 51 (dk_at dksJ5_highestOneBit_0 4 rfl rfl)
theorem dJ5_highestOneBit_7 : decode cJ5_highestOneBit 7 = .ok (.iushr, 1) := dk_124 (dk_at dksJ5_highestOneBit_0 7 rfl rfl)
theorem dJ5_highestOneBit_8 : decode cJ5_highestOneBit 8 = .ok (.iand, 1) := dk_126 (dk_at dksJ5_highestOneBit_0 8 rfl rfl)
theorem dJ5_highestOneBit_9 : decode cJ5_highestOneBit 9 = .ok (.ireturn, 1) := dk_172 (dk_at dksJ5_highestOneBit_0 9 rfl rfl)
abbrev cJ5_numberOfLeadingZeros : ByteArray := prog_12_method_47_code
def yJ5_numberOfLeadingZeros : MethodName := ⟨RJ5, "numberOfLeadingZeros", "(I)I"⟩
def dkwJ5_numberOfLeadingZeros_3 : List UInt8 := [5, 124, 59, 27, 26, 4, 124, 100, 172]
abbrev dktJ5_numberOfLeadingZeros_3 : List UInt8 := dkwJ5_numberOfLeadingZeros_3 ++ []
def dkwJ5_numberOfLeadingZeros_2 : List UInt8 := [124, 59, 26, 16, 16, 161, 0, 10, 132, 1, 252, 26, 7, 124, 59, 26, 7, 161, 0, 10, 132, 1, 254, 26]
abbrev dktJ5_numberOfLeadingZeros_2 : List UInt8 := dkwJ5_numberOfLeadingZeros_2 ++ dktJ5_numberOfLeadingZeros_3
def dkwJ5_numberOfLeadingZeros_1 : List UInt8 := [161, 0, 11, 132, 1, 240, 26, 16, 16, 124, 59, 26, 17, 1, 0, 161, 0, 11, 132, 1, 248, 26, 16, 8]
abbrev dktJ5_numberOfLeadingZeros_1 : List UInt8 := dkwJ5_numberOfLeadingZeros_1 ++ dktJ5_numberOfLeadingZeros_2
def dkwJ5_numberOfLeadingZeros_0 : List UInt8 := [26, 157, 0, 14, 26, 154, 0, 8, 16, 32, 167, 0, 4, 3, 172, 16, 31, 60, 26, 19, 1, 8]
abbrev dktJ5_numberOfLeadingZeros_0 : List UInt8 := dkwJ5_numberOfLeadingZeros_0 ++ dktJ5_numberOfLeadingZeros_1
theorem dksJ5_numberOfLeadingZeros_0 : cJ5_numberOfLeadingZeros.data.toList.drop 0 = dktJ5_numberOfLeadingZeros_0 := by decide +kernel
theorem dksJ5_numberOfLeadingZeros_1 : cJ5_numberOfLeadingZeros.data.toList.drop 22 = dktJ5_numberOfLeadingZeros_1 := dk_seg dksJ5_numberOfLeadingZeros_0 22 rfl rfl
theorem dksJ5_numberOfLeadingZeros_2 : cJ5_numberOfLeadingZeros.data.toList.drop 46 = dktJ5_numberOfLeadingZeros_2 := dk_seg dksJ5_numberOfLeadingZeros_1 24 rfl rfl
theorem dksJ5_numberOfLeadingZeros_3 : cJ5_numberOfLeadingZeros.data.toList.drop 70 = dktJ5_numberOfLeadingZeros_3 := dk_seg dksJ5_numberOfLeadingZeros_2 24 rfl rfl
theorem dJ5_numberOfLeadingZeros_0 : decode cJ5_numberOfLeadingZeros 0 = .ok (.iload_n 0, 1) := dk_26 (dk_at dksJ5_numberOfLeadingZeros_0 0 rfl rfl)
theorem dJ5_numberOfLeadingZeros_1 : decode cJ5_numberOfLeadingZeros 1 = .ok (.ifCond .gt 14, 3) := dk_157 0 14 (dk_at dksJ5_numberOfLeadingZeros_0 1 rfl rfl)
theorem dJ5_numberOfLeadingZeros_4 : decode cJ5_numberOfLeadingZeros 4 = .ok (.iload_n 0, 1) := dk_26 (dk_at dksJ5_numberOfLeadingZeros_0 4 rfl rfl)
theorem dJ5_numberOfLeadingZeros_5 : decode cJ5_numberOfLeadingZeros 5 = .ok (.ifCond .ne 8, 3) := dk_154 0 8 (dk_at dksJ5_numberOfLeadingZeros_0 5 rfl rfl)
theorem dJ5_numberOfLeadingZeros_8 : decode cJ5_numberOfLeadingZeros 8 = .ok (.bipush 32, 2) := dk_16 32 (dk_at dksJ5_numberOfLeadingZeros_0 8 rfl rfl)
theorem dJ5_numberOfLeadingZeros_10 : decode cJ5_numberOfLeadingZeros 10 = .ok (.goto 4, 3) := dk_167 0 4 (dk_at dksJ5_numberOfLeadingZeros_0 10 rfl rfl)
theorem dJ5_numberOfLeadingZeros_13 : decode cJ5_numberOfLeadingZeros 13 = .ok (.iconst 0, 1) := dk_3 (dk_at dksJ5_numberOfLeadingZeros_0 13 rfl rfl)
theorem dJ5_numberOfLeadingZeros_14 : decode cJ5_numberOfLeadingZeros 14 = .ok (.ireturn, 1) := dk_172 (dk_at dksJ5_numberOfLeadingZeros_0 14 rfl rfl)
theorem dJ5_numberOfLeadingZeros_15 : decode cJ5_numberOfLeadingZeros 15 = .ok (.bipush 31, 2) := dk_16 31 (dk_at dksJ5_numberOfLeadingZeros_0 15 rfl rfl)
theorem dJ5_numberOfLeadingZeros_17 : decode cJ5_numberOfLeadingZeros 17 = .ok (.istore_n 1, 1) := dk_60 (dk_at dksJ5_numberOfLeadingZeros_0 17 rfl rfl)
theorem dJ5_numberOfLeadingZeros_18 : decode cJ5_numberOfLeadingZeros 18 = .ok (.iload_n 0, 1) := dk_26 (dk_at dksJ5_numberOfLeadingZeros_0 18 rfl rfl)
theorem dJ5_numberOfLeadingZeros_19 : decode cJ5_numberOfLeadingZeros 19 = .ok (.ldc_w 264, 3) := dk_19 1 8 (dk_at dksJ5_numberOfLeadingZeros_0 19 rfl rfl)
theorem dJ5_numberOfLeadingZeros_22 : decode cJ5_numberOfLeadingZeros 22 = .ok (.if_icmp .lt 11, 3) := dk_161 0 11 (dk_at dksJ5_numberOfLeadingZeros_1 0 rfl rfl)
theorem dJ5_numberOfLeadingZeros_25 : decode cJ5_numberOfLeadingZeros 25 = .ok (.iinc 1 (-16), 3) := dk_132 1 240 (dk_at dksJ5_numberOfLeadingZeros_1 3 rfl rfl)
theorem dJ5_numberOfLeadingZeros_28 : decode cJ5_numberOfLeadingZeros 28 = .ok (.iload_n 0, 1) := dk_26 (dk_at dksJ5_numberOfLeadingZeros_1 6 rfl rfl)
theorem dJ5_numberOfLeadingZeros_29 : decode cJ5_numberOfLeadingZeros 29 = .ok (.bipush 16, 2) := dk_16 16 (dk_at dksJ5_numberOfLeadingZeros_1 7 rfl rfl)
theorem dJ5_numberOfLeadingZeros_31 : decode cJ5_numberOfLeadingZeros 31 = .ok (.iushr, 1) := dk_124 (dk_at dksJ5_numberOfLeadingZeros_1 9 rfl rfl)
theorem dJ5_numberOfLeadingZeros_32 : decode cJ5_numberOfLeadingZeros 32 = .ok (.istore_n 0, 1) := dk_59 (dk_at dksJ5_numberOfLeadingZeros_1 10 rfl rfl)
theorem dJ5_numberOfLeadingZeros_33 : decode cJ5_numberOfLeadingZeros 33 = .ok (.iload_n 0, 1) := dk_26 (dk_at dksJ5_numberOfLeadingZeros_1 11 rfl rfl)
theorem dJ5_numberOfLeadingZeros_34 : decode cJ5_numberOfLeadingZeros 34 = .ok (.sipush 256, 3) := dk_17 1 0 (dk_at dksJ5_numberOfLeadingZeros_1 12 rfl rfl)
theorem dJ5_numberOfLeadingZeros_37 : decode cJ5_numberOfLeadingZeros 37 = .ok (.if_icmp .lt 11, 3) := dk_161 0 11 (dk_at dksJ5_numberOfLeadingZeros_1 15 rfl rfl)
theorem dJ5_numberOfLeadingZeros_40 : decode cJ5_numberOfLeadingZeros 40 = .ok (.iinc 1 (-8), 3) := dk_132 1 248 (dk_at dksJ5_numberOfLeadingZeros_1 18 rfl rfl)
theorem dJ5_numberOfLeadingZeros_43 : decode cJ5_numberOfLeadingZeros 43 = .ok (.iload_n 0, 1) := dk_26 (dk_at dksJ5_numberOfLeadingZeros_1 21 rfl rfl)
theorem dJ5_numberOfLeadingZeros_44 : decode cJ5_numberOfLeadingZeros 44 = .ok (.bipush 8, 2) := dk_16 8 (dk_at dksJ5_numberOfLeadingZeros_1 22 rfl rfl)
theorem dJ5_numberOfLeadingZeros_46 : decode cJ5_numberOfLeadingZeros 46 = .ok (.iushr, 1) := dk_124 (dk_at dksJ5_numberOfLeadingZeros_2 0 rfl rfl)
theorem dJ5_numberOfLeadingZeros_47 : decode cJ5_numberOfLeadingZeros 47 = .ok (.istore_n 0, 1) := dk_59 (dk_at dksJ5_numberOfLeadingZeros_2 1 rfl rfl)
theorem dJ5_numberOfLeadingZeros_48 : decode cJ5_numberOfLeadingZeros 48 = .ok (.iload_n 0, 1) := dk_26 (dk_at dksJ5_numberOfLeadingZeros_2 2 rfl rfl)
theorem dJ5_numberOfLeadingZeros_49 : decode cJ5_numberOfLeadingZeros 49 = .ok (.bipush 16, 2) := dk_16 16 (dk_at dksJ5_numberOfLeadingZeros_2 3 rfl rfl)
theorem dJ5_numberOfLeadingZeros_51 : decode cJ5_numberOfLeadingZeros 51 = .ok (.if_icmp .lt 10, 3) := dk_161 0 10 (dk_at dksJ5_numberOfLeadingZeros_2 5 rfl rfl)
theorem dJ5_numberOfLeadingZeros_54 : decode cJ5_numberOfLeadingZeros 54 = .ok (.iinc 1 (-4), 3) := dk_132 1 252 (dk_at dksJ5_numberOfLeadingZeros_2 8 rfl rfl)
theorem dJ5_numberOfLeadingZeros_57 : decode cJ5_numberOfLeadingZeros 57 = .ok (.iload_n 0, 1) := dk_26 (dk_at dksJ5_numberOfLeadingZeros_2 11 rfl rfl)
theorem dJ5_numberOfLeadingZeros_58 : decode cJ5_numberOfLeadingZeros 58 = .ok (.iconst 4, 1) := dk_7 (dk_at dksJ5_numberOfLeadingZeros_2 12 rfl rfl)
theorem dJ5_numberOfLeadingZeros_59 : decode cJ5_numberOfLeadingZeros 59 = .ok (.iushr, 1) := dk_124 (dk_at dksJ5_numberOfLeadingZeros_2 13 rfl rfl)
theorem dJ5_numberOfLeadingZeros_60 : decode cJ5_numberOfLeadingZeros 60 = .ok (.istore_n 0, 1) := dk_59 (dk_at dksJ5_numberOfLeadingZeros_2 14 rfl rfl)
theorem dJ5_numberOfLeadingZeros_61 : decode cJ5_numberOfLeadingZeros 61 = .ok (.iload_n 0, 1) := dk_26 (dk_at dksJ5_numberOfLeadingZeros_2 15 rfl rfl)
theorem dJ5_numberOfLeadingZeros_62 : decode cJ5_numberOfLeadingZeros 62 = .ok (.iconst 4, 1) := dk_7 (dk_at dksJ5_numberOfLeadingZeros_2 16 rfl rfl)
theorem dJ5_numberOfLeadingZeros_63 : decode cJ5_numberOfLeadingZeros 63 = .ok (.if_icmp .lt 10, 3) := dk_161 0 10 (dk_at dksJ5_numberOfLeadingZeros_2 17 rfl rfl)
theorem dJ5_numberOfLeadingZeros_66 : decode cJ5_numberOfLeadingZeros 66 = .ok (.iinc 1 (-2), 3) := dk_132 1 254 (dk_at dksJ5_numberOfLeadingZeros_2 20 rfl rfl)
theorem dJ5_numberOfLeadingZeros_69 : decode cJ5_numberOfLeadingZeros 69 = .ok (.iload_n 0, 1) := dk_26 (dk_at dksJ5_numberOfLeadingZeros_2 23 rfl rfl)
theorem dJ5_numberOfLeadingZeros_70 : decode cJ5_numberOfLeadingZeros 70 = .ok (.iconst 2, 1) := dk_5 (dk_at dksJ5_numberOfLeadingZeros_3 0 rfl rfl)
theorem dJ5_numberOfLeadingZeros_71 : decode cJ5_numberOfLeadingZeros 71 = .ok (.iushr, 1) := dk_124 (dk_at dksJ5_numberOfLeadingZeros_3 1 rfl rfl)
theorem dJ5_numberOfLeadingZeros_72 : decode cJ5_numberOfLeadingZeros 72 = .ok (.istore_n 0, 1) := dk_59 (dk_at dksJ5_numberOfLeadingZeros_3 2 rfl rfl)
theorem dJ5_numberOfLeadingZeros_73 : decode cJ5_numberOfLeadingZeros 73 = .ok (.iload_n 1, 1) := dk_27 (dk_at dksJ5_numberOfLeadingZeros_3 3 rfl rfl)
theorem dJ5_numberOfLeadingZeros_74 : decode cJ5_numberOfLeadingZeros 74 = .ok (.iload_n 0, 1) := dk_26 (dk_at dksJ5_numberOfLeadingZeros_3 4 rfl rfl)
theorem dJ5_numberOfLeadingZeros_75 : decode cJ5_numberOfLeadingZeros 75 = .ok (.iconst 1, 1) := dk_4 (dk_at dksJ5_numberOfLeadingZeros_3 5 rfl rfl)
theorem dJ5_numberOfLeadingZeros_76 : decode cJ5_numberOfLeadingZeros 76 = .ok (.iushr, 1) := dk_124 (dk_at dksJ5_numberOfLeadingZeros_3 6 rfl rfl)
theorem dJ5_numberOfLeadingZeros_77 : decode cJ5_numberOfLeadingZeros 77 = .ok (.isub, 1) := dk_100 (dk_at dksJ5_numberOfLeadingZeros_3 7 rfl rfl)
theorem dJ5_numberOfLeadingZeros_78 : decode cJ5_numberOfLeadingZeros 78 = .ok (.ireturn, 1) := dk_172 (dk_at dksJ5_numberOfLeadingZeros_3 8 rfl rfl)
theorem q15 : (Jvm.Cond.initialized "java/lang/Integer") ∈ lw_all := lw_g (lw_at lw_m1 12 rfl) rfl
theorem q190 : (Jvm.Cond.static ({ cls := "java/lang/Integer", name := "highestOneBit", desc := "(I)I" } : Jvm.MethodName)) ∈ lw_all := lw_g (lw_at lw_m1 187 rfl) rfl
theorem q191 : (Jvm.Cond.code ({ cls := "java/lang/Integer", name := "highestOneBit", desc := "(I)I" } : Jvm.MethodName) prog_12_method_45_code (1 : Nat) (Option.some Jvm.ClassFile.FieldType.int)) ∈ lw_all := lw_g (lw_at lw_m1 188 rfl) rfl
theorem q192 : (Jvm.Cond.constant "java/lang/Integer" (127 : Nat) (-2147483648 : Int32)) ∈ lw_all := lw_g (lw_at lw_m1 189 rfl) rfl
theorem q193 : (Jvm.Cond.methodLink "java/lang/Integer" (51 : Nat) ({ cls := "java/lang/Integer", name := "numberOfLeadingZeros", desc := "(I)I" } : Jvm.MethodName)) ∈ lw_all := lw_g (lw_at lw_m1 190 rfl) rfl
theorem q194 : (Jvm.Cond.static ({ cls := "java/lang/Integer", name := "numberOfLeadingZeros", desc := "(I)I" } : Jvm.MethodName)) ∈ lw_all := lw_g (lw_at lw_m1 191 rfl) rfl
theorem q195 : (Jvm.Cond.code ({ cls := "java/lang/Integer", name := "numberOfLeadingZeros", desc := "(I)I" } : Jvm.MethodName) prog_12_method_47_code (2 : Nat) (Option.some Jvm.ClassFile.FieldType.int)) ∈ lw_all := lw_g (lw_at lw_m1 192 rfl) rfl
theorem q196 : (Jvm.Cond.constant "java/lang/Integer" (264 : Nat) (65536 : Int32)) ∈ lw_all := lw_g (lw_at lw_m1 193 rfl) rfl
/-! java/util/Arrays -/
set_option maxRecDepth 100000
def RJ6 : String := "java/util/Arrays"
abbrev cJ6_copyOf : ByteArray := prog_20_method_124_code
def yJ6_copyOf : MethodName := ⟨RJ6, "copyOf", "([JI)[J"⟩
def dkwJ6_copyOf_1 : List UInt8 := [27, 184, 1, 48, 184, 0, 150, 44, 176]
abbrev dktJ6_copyOf_1 : List UInt8 := dkwJ6_copyOf_1 ++ []
def dkwJ6_copyOf_0 : List UInt8 := [27, 42, 190, 160, 0, 11, 42, 182, 1, 63, 192, 1, 64, 176, 27, 188, 11, 77, 42, 3, 44, 3, 42, 190]
abbrev dktJ6_copyOf_0 : List UInt8 := dkwJ6_copyOf_0 ++ dktJ6_copyOf_1
theorem dksJ6_copyOf_0 : cJ6_copyOf.data.toList.drop 0 = dktJ6_copyOf_0 := by decide +kernel
theorem dksJ6_copyOf_1 : cJ6_copyOf.data.toList.drop 24 = dktJ6_copyOf_1 := dk_seg dksJ6_copyOf_0 24 rfl rfl
theorem dJ6_copyOf_0 : decode cJ6_copyOf 0 = .ok (.iload_n 1, 1) := dk_27 (dk_at dksJ6_copyOf_0 0 rfl rfl)
theorem dJ6_copyOf_1 : decode cJ6_copyOf 1 = .ok (.aload_n 0, 1) := dk_42 (dk_at dksJ6_copyOf_0 1 rfl rfl)
theorem dJ6_copyOf_2 : decode cJ6_copyOf 2 = .ok (.arraylength, 1) := dk_190 (dk_at dksJ6_copyOf_0 2 rfl rfl)
theorem dJ6_copyOf_3 : decode cJ6_copyOf 3 = .ok (.if_icmp .ne 11, 3) := dk_160 0 11 (dk_at dksJ6_copyOf_0 3 rfl rfl)
theorem dJ6_copyOf_6 : decode cJ6_copyOf 6 = .ok (.aload_n 0, 1) := dk_42 (dk_at dksJ6_copyOf_0 6 rfl rfl)
theorem dJ6_copyOf_7 : decode cJ6_copyOf 7 = .ok (.invokevirtual 319, 3) := dk_182 1 63 (dk_at dksJ6_copyOf_0 7 rfl rfl)
theorem dJ6_copyOf_10 : decode cJ6_copyOf 10 = .ok (.checkcast 320, 3) := dk_192 1 64 (dk_at dksJ6_copyOf_0 10 rfl rfl)
theorem dJ6_copyOf_13 : decode cJ6_copyOf 13 = .ok (.areturn, 1) := dk_176 (dk_at dksJ6_copyOf_0 13 rfl rfl)
theorem dJ6_copyOf_14 : decode cJ6_copyOf 14 = .ok (.iload_n 1, 1) := dk_27 (dk_at dksJ6_copyOf_0 14 rfl rfl)
theorem dJ6_copyOf_15 : decode cJ6_copyOf 15 = .ok (.newarray .long, 2) := dk_188_11 (dk_at dksJ6_copyOf_0 15 rfl rfl)
theorem dJ6_copyOf_17 : decode cJ6_copyOf 17 = .ok (.astore_n 2, 1) := dk_77 (dk_at dksJ6_copyOf_0 17 rfl rfl)
theorem dJ6_copyOf_18 : decode cJ6_copyOf 18 = .ok (.aload_n 0, 1) := dk_42 (dk_at dksJ6_copyOf_0 18 rfl rfl)
theorem dJ6_copyOf_19 : decode cJ6_copyOf 19 = .ok (.iconst 0, 1) := dk_3 (dk_at dksJ6_copyOf_0 19 rfl rfl)
theorem dJ6_copyOf_20 : decode cJ6_copyOf 20 = .ok (.aload_n 2, 1) := dk_44 (dk_at dksJ6_copyOf_0 20 rfl rfl)
theorem dJ6_copyOf_21 : decode cJ6_copyOf 21 = .ok (.iconst 0, 1) := dk_3 (dk_at dksJ6_copyOf_0 21 rfl rfl)
theorem dJ6_copyOf_22 : decode cJ6_copyOf 22 = .ok (.aload_n 0, 1) := dk_42 (dk_at dksJ6_copyOf_0 22 rfl rfl)
theorem dJ6_copyOf_23 : decode cJ6_copyOf 23 = .ok (.arraylength, 1) := dk_190 (dk_at dksJ6_copyOf_0 23 rfl rfl)
theorem dJ6_copyOf_24 : decode cJ6_copyOf 24 = .ok (.iload_n 1, 1) := dk_27 (dk_at dksJ6_copyOf_1 0 rfl rfl)
theorem dJ6_copyOf_25 : decode cJ6_copyOf 25 = .ok (.invokestatic 304, 3) := dk_184 1 48 (dk_at dksJ6_copyOf_1 1 rfl rfl)
theorem dJ6_copyOf_28 : decode cJ6_copyOf 28 = .ok (.invokestatic 150, 3) := dk_184 0 150 (dk_at dksJ6_copyOf_1 4 rfl rfl)
theorem dJ6_copyOf_31 : decode cJ6_copyOf 31 = .ok (.aload_n 2, 1) := dk_44 (dk_at dksJ6_copyOf_1 7 rfl rfl)
theorem dJ6_copyOf_32 : decode cJ6_copyOf 32 = .ok (.areturn, 1) := dk_176 (dk_at dksJ6_copyOf_1 8 rfl rfl)
abbrev cJ6_copyOfRange : ByteArray := prog_20_method_138_code
def yJ6_copyOfRange : MethodName := ⟨RJ6, "copyOfRange", "([JII)[J"⟩
def dkwJ6_copyOfRange_1 : List UInt8 := [176]
abbrev dktJ6_copyOfRange_1 : List UInt8 := dkwJ6_copyOfRange_1 ++ []
def dkwJ6_copyOfRange_0 : List UInt8 := [27, 154, 0, 9, 28, 42, 190, 159, 0, 10, 42, 27, 28, 184, 1, 99, 176, 42, 182, 1, 63, 192, 1, 64]
abbrev dktJ6_copyOfRange_0 : List UInt8 := dkwJ6_copyOfRange_0 ++ dktJ6_copyOfRange_1
theorem dksJ6_copyOfRange_0 : cJ6_copyOfRange.data.toList.drop 0 = dktJ6_copyOfRange_0 := by decide +kernel
theorem dksJ6_copyOfRange_1 : cJ6_copyOfRange.data.toList.drop 24 = dktJ6_copyOfRange_1 := dk_seg dksJ6_copyOfRange_0 24 rfl rfl
theorem dJ6_copyOfRange_0 : decode cJ6_copyOfRange 0 = .ok (.iload_n 1, 1) := dk_27 (dk_at dksJ6_copyOfRange_0 0 rfl rfl)
theorem dJ6_copyOfRange_1 : decode cJ6_copyOfRange 1 = .ok (.ifCond .ne 9, 3) := dk_154 0 9 (dk_at dksJ6_copyOfRange_0 1 rfl rfl)
theorem dJ6_copyOfRange_4 : decode cJ6_copyOfRange 4 = .ok (.iload_n 2, 1) := dk_28 (dk_at dksJ6_copyOfRange_0 4 rfl rfl)
theorem dJ6_copyOfRange_5 : decode cJ6_copyOfRange 5 = .ok (.aload_n 0, 1) := dk_42 (dk_at dksJ6_copyOfRange_0 5 rfl rfl)
theorem dJ6_copyOfRange_6 : decode cJ6_copyOfRange 6 = .ok (.arraylength, 1) := dk_190 (dk_at dksJ6_copyOfRange_0 6 rfl rfl)
theorem dJ6_copyOfRange_7 : decode cJ6_copyOfRange 7 = .ok (.if_icmp .eq 10, 3) := dk_159 0 10 (dk_at dksJ6_copyOfRange_0 7 rfl rfl)
theorem dJ6_copyOfRange_10 : decode cJ6_copyOfRange 10 = .ok (.aload_n 0, 1) := dk_42 (dk_at dksJ6_copyOfRange_0 10 rfl rfl)
theorem dJ6_copyOfRange_11 : decode cJ6_copyOfRange 11 = .ok (.iload_n 1, 1) := dk_27 (dk_at dksJ6_copyOfRange_0 11 rfl rfl)
theorem dJ6_copyOfRange_12 : decode cJ6_copyOfRange 12 = .ok (.iload_n 2, 1) := dk_28 (dk_at dksJ6_copyOfRange_0 12 rfl rfl)
theorem dJ6_copyOfRange_13 : decode cJ6_copyOfRange 13 = .ok (.invokestatic 355, 3) := dk_184 1 99 (dk_at dksJ6_copyOfRange_0 13 rfl rfl)
theorem dJ6_copyOfRange_16 : decode cJ6_copyOfRange 16 = .ok (.areturn, 1) := dk_176 (dk_at dksJ6_copyOfRange_0 16 rfl rfl)
theorem dJ6_copyOfRange_17 : decode cJ6_copyOfRange 17 = .ok (.aload_n 0, 1) := dk_42 (dk_at dksJ6_copyOfRange_0 17 rfl rfl)
theorem dJ6_copyOfRange_18 : decode cJ6_copyOfRange 18 = .ok (.invokevirtual 319, 3) := dk_182 1 63 (dk_at dksJ6_copyOfRange_0 18 rfl rfl)
theorem dJ6_copyOfRange_21 : decode cJ6_copyOfRange 21 = .ok (.checkcast 320, 3) := dk_192 1 64 (dk_at dksJ6_copyOfRange_0 21 rfl rfl)
theorem dJ6_copyOfRange_24 : decode cJ6_copyOfRange 24 = .ok (.areturn, 1) := dk_176 (dk_at dksJ6_copyOfRange_1 0 rfl rfl)
abbrev cJ6_copyOfRangeLong : ByteArray := prog_20_method_139_code
def yJ6_copyOfRangeLong : MethodName := ⟨RJ6, "copyOfRangeLong", "([JII)[J"⟩
def dkwJ6_copyOfRangeLong_1 : List UInt8 := [184, 1, 48, 184, 0, 150, 25, 4, 176]
abbrev dktJ6_copyOfRangeLong_1 : List UInt8 := dkwJ6_copyOfRangeLong_1 ++ []
def dkwJ6_copyOfRangeLong_0 : List UInt8 := [27, 28, 184, 1, 87, 28, 27, 100, 62, 29, 188, 11, 58, 4, 42, 27, 25, 4, 3, 42, 190, 27, 100, 29]
abbrev dktJ6_copyOfRangeLong_0 : List UInt8 := dkwJ6_copyOfRangeLong_0 ++ dktJ6_copyOfRangeLong_1
theorem dksJ6_copyOfRangeLong_0 : cJ6_copyOfRangeLong.data.toList.drop 0 = dktJ6_copyOfRangeLong_0 := by decide +kernel
theorem dksJ6_copyOfRangeLong_1 : cJ6_copyOfRangeLong.data.toList.drop 24 = dktJ6_copyOfRangeLong_1 := dk_seg dksJ6_copyOfRangeLong_0 24 rfl rfl
theorem dJ6_copyOfRangeLong_0 : decode cJ6_copyOfRangeLong 0 = .ok (.iload_n 1, 1) := dk_27 (dk_at dksJ6_copyOfRangeLong_0 0 rfl rfl)
theorem dJ6_copyOfRangeLong_1 : decode cJ6_copyOfRangeLong 1 = .ok (.iload_n 2, 1) := dk_28 (dk_at dksJ6_copyOfRangeLong_0 1 rfl rfl)
theorem dJ6_copyOfRangeLong_2 : decode cJ6_copyOfRangeLong 2 = .ok (.invokestatic 343, 3) := dk_184 1 87 (dk_at dksJ6_copyOfRangeLong_0 2 rfl rfl)
theorem dJ6_copyOfRangeLong_5 : decode cJ6_copyOfRangeLong 5 = .ok (.iload_n 2, 1) := dk_28 (dk_at dksJ6_copyOfRangeLong_0 5 rfl rfl)
theorem dJ6_copyOfRangeLong_6 : decode cJ6_copyOfRangeLong 6 = .ok (.iload_n 1, 1) := dk_27 (dk_at dksJ6_copyOfRangeLong_0 6 rfl rfl)
theorem dJ6_copyOfRangeLong_7 : decode cJ6_copyOfRangeLong 7 = .ok (.isub, 1) := dk_100 (dk_at dksJ6_copyOfRangeLong_0 7 rfl rfl)
theorem dJ6_copyOfRangeLong_8 : decode cJ6_copyOfRangeLong 8 = .ok (.istore_n 3, 1) := dk_62 (dk_at dksJ6_copyOfRangeLong_0 8 rfl rfl)
theorem dJ6_copyOfRangeLong_9 : decode cJ6_copyOfRangeLong 9 = .ok (.iload_n 3, 1) := dk_29 (dk_at dksJ6_copyOfRangeLong_0 9 rfl rfl)
theorem dJ6_copyOfRangeLong_10 : decode cJ6_copyOfRangeLong 10 = .ok (.newarray .long, 2) := dk_188_11 (dk_at dksJ6_copyOfRangeLong_0 10 rfl rfl)
theorem dJ6_copyOfRangeLong_12 : decode cJ6_copyOfRangeLong 12 = .ok (.astore 4, 2) := dk_58 4 (dk_at dksJ6_copyOfRangeLong_0 12 rfl rfl)
theorem dJ6_copyOfRangeLong_14 : decode cJ6_copyOfRangeLong 14 = .ok (.aload_n 0, 1) := dk_42 (dk_at dksJ6_copyOfRangeLong_0 14 rfl rfl)
theorem dJ6_copyOfRangeLong_15 : decode cJ6_copyOfRangeLong 15 = .ok (.iload_n 1, 1) := dk_27 (dk_at dksJ6_copyOfRangeLong_0 15 rfl rfl)
theorem dJ6_copyOfRangeLong_16 : decode cJ6_copyOfRangeLong 16 = .ok (.aload 4, 2) := dk_25 4 (dk_at dksJ6_copyOfRangeLong_0 16 rfl rfl)
theorem dJ6_copyOfRangeLong_18 : decode cJ6_copyOfRangeLong 18 = .ok (.iconst 0, 1) := dk_3 (dk_at dksJ6_copyOfRangeLong_0 18 rfl rfl)
theorem dJ6_copyOfRangeLong_19 : decode cJ6_copyOfRangeLong 19 = .ok (.aload_n 0, 1) := dk_42 (dk_at dksJ6_copyOfRangeLong_0 19 rfl rfl)
theorem dJ6_copyOfRangeLong_20 : decode cJ6_copyOfRangeLong 20 = .ok (.arraylength, 1) := dk_190 (dk_at dksJ6_copyOfRangeLong_0 20 rfl rfl)
theorem dJ6_copyOfRangeLong_21 : decode cJ6_copyOfRangeLong 21 = .ok (.iload_n 1, 1) := dk_27 (dk_at dksJ6_copyOfRangeLong_0 21 rfl rfl)
theorem dJ6_copyOfRangeLong_22 : decode cJ6_copyOfRangeLong 22 = .ok (.isub, 1) := dk_100 (dk_at dksJ6_copyOfRangeLong_0 22 rfl rfl)
theorem dJ6_copyOfRangeLong_23 : decode cJ6_copyOfRangeLong 23 = .ok (.iload_n 3, 1) := dk_29 (dk_at dksJ6_copyOfRangeLong_0 23 rfl rfl)
theorem dJ6_copyOfRangeLong_24 : decode cJ6_copyOfRangeLong 24 = .ok (.invokestatic 304, 3) := dk_184 1 48 (dk_at dksJ6_copyOfRangeLong_1 0 rfl rfl)
theorem dJ6_copyOfRangeLong_27 : decode cJ6_copyOfRangeLong 27 = .ok (.invokestatic 150, 3) := dk_184 0 150 (dk_at dksJ6_copyOfRangeLong_1 3 rfl rfl)
theorem dJ6_copyOfRangeLong_30 : decode cJ6_copyOfRangeLong 30 = .ok (.aload 4, 2) := dk_25 4 (dk_at dksJ6_copyOfRangeLong_1 6 rfl rfl)
theorem dJ6_copyOfRangeLong_32 : decode cJ6_copyOfRangeLong 32 = .ok (.areturn, 1) := dk_176 (dk_at dksJ6_copyOfRangeLong_1 8 rfl rfl)
abbrev cJ6_checkLength : ByteArray := prog_20_method_131_code
def yJ6_checkLength : MethodName := ⟨RJ6, "checkLength", "(II)V"⟩
def dkwJ6_checkLength_1 : List UInt8 := [182, 0, 50, 27, 182, 0, 54, 182, 0, 61, 183, 0, 65, 191, 177]
abbrev dktJ6_checkLength_1 : List UInt8 := dkwJ6_checkLength_1 ++ []
def dkwJ6_checkLength_0 : List UInt8 := [27, 26, 162, 0, 35, 187, 0, 43, 89, 187, 0, 45, 89, 183, 0, 47, 26, 182, 0, 54, 19, 1, 81]
abbrev dktJ6_checkLength_0 : List UInt8 := dkwJ6_checkLength_0 ++ dktJ6_checkLength_1
theorem dksJ6_checkLength_0 : cJ6_checkLength.data.toList.drop 0 = dktJ6_checkLength_0 := by decide +kernel
theorem dksJ6_checkLength_1 : cJ6_checkLength.data.toList.drop 23 = dktJ6_checkLength_1 := dk_seg dksJ6_checkLength_0 23 rfl rfl
theorem dJ6_checkLength_0 : decode cJ6_checkLength 0 = .ok (.iload_n 1, 1) := dk_27 (dk_at dksJ6_checkLength_0 0 rfl rfl)
theorem dJ6_checkLength_1 : decode cJ6_checkLength 1 = .ok (.iload_n 0, 1) := dk_26 (dk_at dksJ6_checkLength_0 1 rfl rfl)
theorem dJ6_checkLength_2 : decode cJ6_checkLength 2 = .ok (.if_icmp .ge 35, 3) := dk_162 0 35 (dk_at dksJ6_checkLength_0 2 rfl rfl)
theorem dJ6_checkLength_5 : decode cJ6_checkLength 5 = .ok (.new 43, 3) := dk_187 0 43 (dk_at dksJ6_checkLength_0 5 rfl rfl)
theorem dJ6_checkLength_8 : decode cJ6_checkLength 8 = .ok (.dup, 1) := dk_89 (dk_at dksJ6_checkLength_0 8 rfl rfl)
theorem dJ6_checkLength_9 : decode cJ6_checkLength 9 = .ok (.new 45, 3) := dk_187 0 45 (dk_at dksJ6_checkLength_0 9 rfl rfl)
theorem dJ6_checkLength_12 : decode cJ6_checkLength 12 = .ok (.dup, 1) := dk_89 (dk_at dksJ6_checkLength_0 12 rfl rfl)
theorem dJ6_checkLength_13 : decode cJ6_checkLength 13 = .ok (.invokespecial 47, 3) := dk_183 0 47 (dk_at dksJ6_checkLength_0 13 rfl rfl)
theorem dJ6_checkLength_16 : decode cJ6_checkLength 16 = .ok (.iload_n 0, 1) := dk_26 (dk_at dksJ6_checkLength_0 16 rfl rfl)
theorem dJ6_checkLength_17 : decode cJ6_checkLength 17 = .ok (.invokevirtual 54, 3) := dk_182 0 54 (dk_at dksJ6_checkLength_0 17 rfl rfl)
theorem dJ6_checkLength_20 : decode cJ6_checkLength 20 = .ok (.ldc_w 337, 3) := dk_19 1 81 (dk_at dksJ6_checkLength_0 20 rfl rfl)
theorem dJ6_checkLength_23 : decode cJ6_checkLength 23 = .ok (.invokevirtual 50, 3) := dk_182 0 50 (dk_at dksJ6_checkLength_1 0 rfl rfl)
theorem dJ6_checkLength_26 : decode cJ6_checkLength 26 = .ok (.iload_n 1, 1) := dk_27 (dk_at dksJ6_checkLength_1 3 rfl rfl)
theorem dJ6_checkLength_27 : decode cJ6_checkLength 27 = .ok (.invokevirtual 54, 3) := dk_182 0 54 (dk_at dksJ6_checkLength_1 4 rfl rfl)
theorem dJ6_checkLength_30 : decode cJ6_checkLength 30 = .ok (.invokevirtual 61, 3) := dk_182 0 61 (dk_at dksJ6_checkLength_1 7 rfl rfl)
theorem dJ6_checkLength_33 : decode cJ6_checkLength 33 = .ok (.invokespecial 65, 3) := dk_183 0 65 (dk_at dksJ6_checkLength_1 10 rfl rfl)
theorem dJ6_checkLength_36 : decode cJ6_checkLength 36 = .ok (.athrow, 1) := dk_191 (dk_at dksJ6_checkLength_1 13 rfl rfl)
theorem dJ6_checkLength_37 : decode cJ6_checkLength 37 = .ok (.return_, 1) := dk_177 (dk_at dksJ6_checkLength_1 14 rfl rfl)
theorem q16 : (Jvm.Cond.initialized "java/util/Arrays") ∈ lw_all := lw_g (lw_at lw_m1 13 rfl) rfl
theorem q199 : (Jvm.Cond.static ({ cls := "java/util/Arrays", name := "copyOf", desc := "([JI)[J" } : Jvm.MethodName)) ∈ lw_all := lw_g (lw_at lw_m1 196 rfl) rfl
theorem q200 : (Jvm.Cond.code ({ cls := "java/util/Arrays", name := "copyOf", desc := "([JI)[J" } : Jvm.MethodName) prog_20_method_124_code (3 : Nat) (Option.some (Jvm.ClassFile.FieldType.array Jvm.ClassFile.FieldType.long))) ∈ lw_all := lw_g (lw_at lw_m1 197 rfl) rfl
theorem q201 : (Jvm.Cond.methodLink "java/util/Arrays" (319 : Nat) ({ cls := "[J", name := "clone", desc := "()Ljava/lang/Object;" } : Jvm.MethodName)) ∈ lw_all := lw_g (lw_at lw_m1 198 rfl) rfl
theorem q207 : (Jvm.Cond.classLink "java/util/Arrays" (320 : Nat) "[J") ∈ lw_all := lw_g (lw_at lw_m1 204 rfl) rfl
theorem q208 : (Jvm.Cond.methodLink "java/util/Arrays" (304 : Nat) ({ cls := "java/lang/Math", name := "min", desc := "(II)I" } : Jvm.MethodName)) ∈ lw_all := lw_g (lw_at lw_m1 205 rfl) rfl
theorem q211 : (Jvm.Cond.methodLink "java/util/Arrays" (150 : Nat) ({ cls := "java/lang/System", name := "arraycopy", desc := "(Ljava/lang/Object;ILjava/lang/Object;II)V" } : Jvm.MethodName)) ∈ lw_all := lw_g (lw_at lw_m1 208 rfl) rfl
theorem q288 : (Jvm.Cond.static ({ cls := "java/util/Arrays", name := "copyOfRange", desc := "([JII)[J" } : Jvm.MethodName)) ∈ lw_all := lw_g (lw_at lw_m2 45 rfl) rfl
theorem q289 : (Jvm.Cond.code ({ cls := "java/util/Arrays", name := "copyOfRange", desc := "([JII)[J" } : Jvm.MethodName) prog_20_method_138_code (3 : Nat) (Option.some (Jvm.ClassFile.FieldType.array Jvm.ClassFile.FieldType.long))) ∈ lw_all := lw_g (lw_at lw_m2 46 rfl) rfl
theorem q290 : (Jvm.Cond.methodLink "java/util/Arrays" (355 : Nat) ({ cls := "java/util/Arrays", name := "copyOfRangeLong", desc := "([JII)[J" } : Jvm.MethodName)) ∈ lw_all := lw_g (lw_at lw_m2 47 rfl) rfl
theorem q291 : (Jvm.Cond.static ({ cls := "java/util/Arrays", name := "copyOfRangeLong", desc := "([JII)[J" } : Jvm.MethodName)) ∈ lw_all := lw_g (lw_at lw_m2 48 rfl) rfl
theorem q292 : (Jvm.Cond.code ({ cls := "java/util/Arrays", name := "copyOfRangeLong", desc := "([JII)[J" } : Jvm.MethodName) prog_20_method_139_code (5 : Nat) (Option.some (Jvm.ClassFile.FieldType.array Jvm.ClassFile.FieldType.long))) ∈ lw_all := lw_g (lw_at lw_m2 49 rfl) rfl
theorem q293 : (Jvm.Cond.methodLink "java/util/Arrays" (343 : Nat) ({ cls := "java/util/Arrays", name := "checkLength", desc := "(II)V" } : Jvm.MethodName)) ∈ lw_all := lw_g (lw_at lw_m2 50 rfl) rfl
theorem q294 : (Jvm.Cond.static ({ cls := "java/util/Arrays", name := "checkLength", desc := "(II)V" } : Jvm.MethodName)) ∈ lw_all := lw_g (lw_at lw_m2 51 rfl) rfl
theorem q295 : (Jvm.Cond.code ({ cls := "java/util/Arrays", name := "checkLength", desc := "(II)V" } : Jvm.MethodName) prog_20_method_131_code (2 : Nat) (Option.none : Option Jvm.ClassFile.FieldType)) ∈ lw_all := lw_g (lw_at lw_m2 52 rfl) rfl
/-! java/lang/Math -/
set_option maxRecDepth 100000
def RJ7 : String := "java/lang/Math"
abbrev cJ7_min : ByteArray := prog_14_method_69_code
def yJ7_min : MethodName := ⟨RJ7, "min", "(II)I"⟩
def dkwJ7_min_0 : List UInt8 := [26, 27, 163, 0, 7, 26, 167, 0, 4, 27, 172]
abbrev dktJ7_min_0 : List UInt8 := dkwJ7_min_0 ++ []
theorem dksJ7_min_0 : cJ7_min.data.toList.drop 0 = dktJ7_min_0 := by decide +kernel
theorem dJ7_min_0 : decode cJ7_min 0 = .ok (.iload_n 0, 1) := dk_26 (dk_at dksJ7_min_0 0 rfl rfl)
theorem dJ7_min_1 : decode cJ7_min 1 = .ok (.iload_n 1, 1) := dk_27 (dk_at dksJ7_min_0 1 rfl rfl)
theorem dJ7_min_2 : decode cJ7_min 2 = .ok (.if_icmp .gt 7, 3) := dk_163 0 7 (dk_at dksJ7_min_0 2 rfl rfl)
theorem dJ7_min_5 : decode cJ7_min 5 = .ok (.iload_n 0, 1) := dk_26 (dk_at dksJ7_min_0 5 rfl rfl)
theorem dJ7_min_6 : decode cJ7_min 6 = .ok (.goto 4, 3) := dk_167 0 4 (dk_at dksJ7_min_0 6 rfl rfl)
theorem dJ7_min_9 : decode cJ7_min 9 = .ok (.iload_n 1, 1) := dk_27 (dk_at dksJ7_min_0 9 rfl rfl)
theorem dJ7_min_10 : decode cJ7_min 10 = .ok (.ireturn, 1) := dk_172 (dk_at dksJ7_min_0 10 rfl rfl)
theorem q17 : (Jvm.Cond.initialized "java/lang/Math") ∈ lw_all := lw_g (lw_at lw_m1 14 rfl) rfl
theorem q209 : (Jvm.Cond.static ({ cls := "java/lang/Math", name := "min", desc := "(II)I" } : Jvm.MethodName)) ∈ lw_all := lw_g (lw_at lw_m1 206 rfl) rfl
theorem q210 : (Jvm.Cond.code ({ cls := "java/lang/Math", name := "min", desc := "(II)I" } : Jvm.MethodName) prog_14_method_69_code (2 : Nat) (Option.some Jvm.ClassFile.FieldType.int)) ∈ lw_all := lw_g (lw_at lw_m1 207 rfl) rfl
/-! java/lang/Long -/
set_option maxRecDepth 100000
def RJ9 : String := "java/lang/Long"
abbrev cJ9_hashCode : ByteArray := prog_13_method_36_code
def yJ9_hashCode : MethodName := ⟨RJ9, "hashCode", "(J)I"⟩
def dkwJ9_hashCode_0 : List UInt8 := [30, 30, 16, 32, 125, 131, 136, 172]
abbrev dktJ9_hashCode_0 : List UInt8 := dkwJ9_hashCode_0 ++ []
theorem dksJ9_hashCode_0 : cJ9_hashCode.data.toList.drop 0 = dktJ9_hashCode_0 := by decide +kernel
theorem dJ9_hashCode_0 : decode cJ9_hashCode 0 = .ok (.lload_n 0, 1) := dk_30 (dk_at dksJ9_hashCode_0 0 rfl rfl)
theorem dJ9_hashCode_1 : decode cJ9_hashCode 1 = .ok (.lload_n 0, 1) := dk_30 (dk_at dksJ9_hashCode_0 1 rfl rfl)
theorem dJ9_hashCode_2 : decode cJ9_hashCode 2 = .ok (.bipush 32, 2) := dk_16 32 (dk_at dksJ9_hashCode_0 2 rfl rfl)
theorem dJ9_hashCode_4 : decode cJ9_hashCode 4 = .ok (.lushr, 1) := dk_125 (dk_at dksJ9_hashCode_0 4 rfl rfl)
theorem dJ9_hashCode_5 : decode cJ9_hashCode 5 = .ok (.lxor, 1) := dk_131 (dk_at dksJ9_hashCode_0 5 rfl rfl)
theorem dJ9_hashCode_6 : decode cJ9_hashCode 6 = .ok (.l2i, 1) := dk_136 (dk_at dksJ9_hashCode_0 6 rfl rfl)
theorem dJ9_hashCode_7 : decode cJ9_hashCode 7 = .ok (.ireturn, 1) := dk_172 (dk_at dksJ9_hashCode_0 7 rfl rfl)
theorem q20 : (Jvm.Cond.initialized "java/lang/Long") ∈ lw_all := lw_g (lw_at lw_m1 17 rfl) rfl
theorem q362 : (Jvm.Cond.static ({ cls := "java/lang/Long", name := "hashCode", desc := "(J)I" } : Jvm.MethodName)) ∈ lw_all := lw_g (lw_at lw_m2 119 rfl) rfl
theorem q363 : (Jvm.Cond.code ({ cls := "java/lang/Long", name := "hashCode", desc := "(J)I" } : Jvm.MethodName) prog_13_method_36_code (2 : Nat) (Option.some Jvm.ClassFile.FieldType.int)) ∈ lw_all := lw_g (lw_at lw_m2 120 rfl) rfl
/-! java/lang/Object -/
set_option maxRecDepth 100000
def RJ10 : String := "java/lang/Object"
abbrev cJ10_init : ByteArray := object_method_1_code
def yJ10_init : MethodName := ⟨RJ10, "<init>", "()V"⟩
theorem dJ10_init_0 : decode cJ10_init 0 = .ok (.return_, 1) := by decide +kernel
theorem q27 : (Jvm.Cond.instanceMethod ({ cls := "java/lang/Object", name := "<init>", desc := "()V" } : Jvm.MethodName)) ∈ lw_all := lw_g (lw_at lw_m1 24 rfl) rfl
theorem q28 : (Jvm.Cond.code ({ cls := "java/lang/Object", name := "<init>", desc := "()V" } : Jvm.MethodName) object_method_1_code (1 : Nat) (Option.none : Option Jvm.ClassFile.FieldType)) ∈ lw_all := lw_g (lw_at lw_m1 25 rfl) rfl
theorem q203 : (Jvm.Cond.native ({ cls := "java/lang/Object", name := "clone", desc := "()Ljava/lang/Object;" } : Jvm.MethodName)) ∈ lw_all := lw_g (lw_at lw_m1 200 rfl) rfl
theorem q204 : (Jvm.Cond.instanceMethod ({ cls := "java/lang/Object", name := "clone", desc := "()Ljava/lang/Object;" } : Jvm.MethodName)) ∈ lw_all := lw_g (lw_at lw_m1 201 rfl) rfl
theorem q455 : (Jvm.Cond.initialized "java/lang/Object") ∈ lw_all := lw_g (lw_at lw_m2 212 rfl) rfl
theorem q3 : (Jvm.Cond.initialized "FixedRowDeskLaw") ∈ lw_all := lw_g (lw_at lw_m1 0 rfl) rfl
set_option maxRecDepth 100000
theorem q21 : (Jvm.Cond.classLink "FixedRowDeskLaw" (7 : Nat) "FixedRowDesk") ∈ lw_all := lw_g (lw_at lw_m1 18 rfl) rfl
theorem q23 : (Jvm.Cond.methodLink "FixedRowDeskLaw" (9 : Nat) ({ cls := "FixedRowDesk", name := "<init>", desc := "()V" } : Jvm.MethodName)) ∈ lw_all := lw_g (lw_at lw_m1 20 rfl) rfl
theorem q154 : (Jvm.Cond.methodLink "FixedRowDeskLaw" (13 : Nat) ({ cls := "FixedRowDesk", name := "add", desc := "(II)Z" } : Jvm.MethodName)) ∈ lw_all := lw_g (lw_at lw_m1 151 rfl) rfl
theorem q214 : (Jvm.Cond.methodLink "FixedRowDeskLaw" (18 : Nat) ({ cls := "FixedRowDesk", name := "addRow", desc := "(I)Z" } : Jvm.MethodName)) ∈ lw_all := lw_g (lw_at lw_m1 211 rfl) rfl
theorem q228 : (Jvm.Cond.methodLink "FixedRowDeskLaw" (23 : Nat) ({ cls := "FixedRowDesk", name := "build", desc := "(I)I" } : Jvm.MethodName)) ∈ lw_all := lw_g (lw_at lw_m1 225 rfl) rfl
theorem q239 : (Jvm.Cond.methodLink "FixedRowDeskLaw" (28 : Nat) ({ cls := "FixedRowDesk", name := "anew", desc := "(I)V" } : Jvm.MethodName)) ∈ lw_all := lw_g (lw_at lw_m1 236 rfl) rfl
theorem q243 : (Jvm.Cond.methodLink "FixedRowDeskLaw" (33 : Nat) ({ cls := "FixedRowDesk", name := "part", desc := "(IIII)I" } : Jvm.MethodName)) ∈ lw_all := lw_g (lw_at lw_m2 0 rfl) rfl
theorem q271 : (Jvm.Cond.methodLink "FixedRowDeskLaw" (38 : Nat) ({ cls := "FixedRowDesk", name := "trim", desc := "(I)V" } : Jvm.MethodName)) ∈ lw_all := lw_g (lw_at lw_m2 28 rfl) rfl
theorem q296 : (Jvm.Cond.methodLink "FixedRowDeskLaw" (42 : Nat) ({ cls := "FixedRowDesk", name := "get", desc := "(II)J" } : Jvm.MethodName)) ∈ lw_all := lw_g (lw_at lw_m2 53 rfl) rfl
theorem q315 : (Jvm.Cond.methodLink "FixedRowDeskLaw" (47 : Nat) ({ cls := "FixedRowDesk", name := "first", desc := "(III)I" } : Jvm.MethodName)) ∈ lw_all := lw_g (lw_at lw_m2 72 rfl) rfl
theorem q323 : (Jvm.Cond.methodLink "FixedRowDeskLaw" (52 : Nat) ({ cls := "FixedRowDesk", name := "last", desc := "(III)I" } : Jvm.MethodName)) ∈ lw_all := lw_g (lw_at lw_m2 80 rfl) rfl
theorem q331 : (Jvm.Cond.methodLink "FixedRowDeskLaw" (56 : Nat) ({ cls := "FixedRowDesk", name := "holds", desc := "(III)Z" } : Jvm.MethodName)) ∈ lw_all := lw_g (lw_at lw_m2 88 rfl) rfl
theorem q340 : (Jvm.Cond.methodLink "FixedRowDeskLaw" (61 : Nat) ({ cls := "FixedRowDesk", name := "length", desc := "(I)I" } : Jvm.MethodName)) ∈ lw_all := lw_g (lw_at lw_m2 97 rfl) rfl
theorem q344 : (Jvm.Cond.methodLink "FixedRowDeskLaw" (65 : Nat) ({ cls := "FixedRowDesk", name := "same", desc := "(II)Z" } : Jvm.MethodName)) ∈ lw_all := lw_g (lw_at lw_m2 101 rfl) rfl
theorem q353 : (Jvm.Cond.methodLink "FixedRowDeskLaw" (69 : Nat) ({ cls := "FixedRowDesk", name := "hash", desc := "(I)I" } : Jvm.MethodName)) ∈ lw_all := lw_g (lw_at lw_m2 110 rfl) rfl
theorem q364 : (Jvm.Cond.methodLink "FixedRowDeskLaw" (73 : Nat) ({ cls := "FixedRowDesk", name := "whole", desc := "(I)J" } : Jvm.MethodName)) ∈ lw_all := lw_g (lw_at lw_m2 121 rfl) rfl
theorem q370 : (Jvm.Cond.classLink "FixedRowDeskLaw" (10 : Nat) "FixedRowDeskModel") ∈ lw_all := lw_g (lw_at lw_m2 127 rfl) rfl
theorem q372 : (Jvm.Cond.methodLink "FixedRowDeskLaw" (12 : Nat) ({ cls := "FixedRowDeskModel", name := "<init>", desc := "()V" } : Jvm.MethodName)) ∈ lw_all := lw_g (lw_at lw_m2 129 rfl) rfl
theorem q388 : (Jvm.Cond.methodLink "FixedRowDeskLaw" (17 : Nat) ({ cls := "FixedRowDeskModel", name := "add", desc := "(II)Z" } : Jvm.MethodName)) ∈ lw_all := lw_g (lw_at lw_m2 145 rfl) rfl
theorem q396 : (Jvm.Cond.methodLink "FixedRowDeskLaw" (22 : Nat) ({ cls := "FixedRowDeskModel", name := "addRow", desc := "(I)Z" } : Jvm.MethodName)) ∈ lw_all := lw_g (lw_at lw_m2 153 rfl) rfl
theorem q400 : (Jvm.Cond.methodLink "FixedRowDeskLaw" (27 : Nat) ({ cls := "FixedRowDeskModel", name := "build", desc := "(I)I" } : Jvm.MethodName)) ∈ lw_all := lw_g (lw_at lw_m2 157 rfl) rfl
theorem q407 : (Jvm.Cond.methodLink "FixedRowDeskLaw" (32 : Nat) ({ cls := "FixedRowDeskModel", name := "anew", desc := "(I)V" } : Jvm.MethodName)) ∈ lw_all := lw_g (lw_at lw_m2 164 rfl) rfl
theorem q411 : (Jvm.Cond.methodLink "FixedRowDeskLaw" (37 : Nat) ({ cls := "FixedRowDeskModel", name := "part", desc := "(IIII)I" } : Jvm.MethodName)) ∈ lw_all := lw_g (lw_at lw_m2 168 rfl) rfl
theorem q416 : (Jvm.Cond.methodLink "FixedRowDeskLaw" (41 : Nat) ({ cls := "FixedRowDeskModel", name := "trim", desc := "(I)V" } : Jvm.MethodName)) ∈ lw_all := lw_g (lw_at lw_m2 173 rfl) rfl
theorem q420 : (Jvm.Cond.methodLink "FixedRowDeskLaw" (46 : Nat) ({ cls := "FixedRowDeskModel", name := "get", desc := "(II)J" } : Jvm.MethodName)) ∈ lw_all := lw_g (lw_at lw_m2 177 rfl) rfl
theorem q424 : (Jvm.Cond.methodLink "FixedRowDeskLaw" (51 : Nat) ({ cls := "FixedRowDeskModel", name := "first", desc := "(III)I" } : Jvm.MethodName)) ∈ lw_all := lw_g (lw_at lw_m2 181 rfl) rfl
theorem q428 : (Jvm.Cond.methodLink "FixedRowDeskLaw" (55 : Nat) ({ cls := "FixedRowDeskModel", name := "last", desc := "(III)I" } : Jvm.MethodName)) ∈ lw_all := lw_g (lw_at lw_m2 185 rfl) rfl
theorem q432 : (Jvm.Cond.methodLink "FixedRowDeskLaw" (60 : Nat) ({ cls := "FixedRowDeskModel", name := "holds", desc := "(III)Z" } : Jvm.MethodName)) ∈ lw_all := lw_g (lw_at lw_m2 189 rfl) rfl
theorem q437 : (Jvm.Cond.methodLink "FixedRowDeskLaw" (64 : Nat) ({ cls := "FixedRowDeskModel", name := "length", desc := "(I)I" } : Jvm.MethodName)) ∈ lw_all := lw_g (lw_at lw_m2 194 rfl) rfl
theorem q441 : (Jvm.Cond.methodLink "FixedRowDeskLaw" (68 : Nat) ({ cls := "FixedRowDeskModel", name := "same", desc := "(II)Z" } : Jvm.MethodName)) ∈ lw_all := lw_g (lw_at lw_m2 198 rfl) rfl
theorem q445 : (Jvm.Cond.methodLink "FixedRowDeskLaw" (72 : Nat) ({ cls := "FixedRowDeskModel", name := "hash", desc := "(I)I" } : Jvm.MethodName)) ∈ lw_all := lw_g (lw_at lw_m2 202 rfl) rfl
theorem q449 : (Jvm.Cond.methodLink "FixedRowDeskLaw" (77 : Nat) ({ cls := "FixedRowDeskModel", name := "whole", desc := "(I)J" } : Jvm.MethodName)) ∈ lw_all := lw_g (lw_at lw_m2 206 rfl) rfl
theorem q202 : (Jvm.Cond.sameMethod "[J" "java/lang/Object" "clone" "()Ljava/lang/Object;") ∈ lw_all := lw_g (lw_at lw_m1 199 rfl) rfl
set_option maxRecDepth 100000
theorem q205 : (Jvm.Cond.selects "[J" ({ cls := "[J", name := "clone", desc := "()Ljava/lang/Object;" } : Jvm.MethodName) ({ cls := "java/lang/Object", name := "clone", desc := "()Ljava/lang/Object;" } : Jvm.MethodName)) ∈ lw_all := lw_g (lw_at lw_m1 202 rfl) rfl
theorem q206 : (Jvm.Cond.castable "[J" "java/lang/Cloneable") ∈ lw_tbl := lw_at lw_m1 203 rfl
theorem q18 : (Jvm.Cond.initialized "java/lang/System") ∈ lw_all := lw_g (lw_at lw_m1 15 rfl) rfl
set_option maxRecDepth 100000
theorem q212 : (Jvm.Cond.static ({ cls := "java/lang/System", name := "arraycopy", desc := "(Ljava/lang/Object;ILjava/lang/Object;II)V" } : Jvm.MethodName)) ∈ lw_all := lw_g (lw_at lw_m1 209 rfl) rfl
theorem q213 : (Jvm.Cond.native ({ cls := "java/lang/System", name := "arraycopy", desc := "(Ljava/lang/Object;ILjava/lang/Object;II)V" } : Jvm.MethodName)) ∈ lw_all := lw_g (lw_at lw_m1 210 rfl) rfl
theorem q103 : (Jvm.Cond.arrayClass Jvm.ClassFile.FieldType.byte) ∈ lw_all := lw_g (lw_at lw_m1 100 rfl) rfl
set_option maxRecDepth 100000
theorem q117 : (Jvm.Cond.arrayClass Jvm.ClassFile.FieldType.long) ∈ lw_all := lw_g (lw_at lw_m1 114 rfl) rfl
theorem q119 : (Jvm.Cond.arrayOver (Jvm.ClassFile.FieldType.object "ImmutableLongArray")) ∈ lw_tbl := lw_at lw_m1 116 rfl
theorem q377 : (Jvm.Cond.arrayOver (Jvm.ClassFile.FieldType.array Jvm.ClassFile.FieldType.long)) ∈ lw_tbl := lw_at lw_m2 134 rfl
/-! the law's own entry -/
set_option maxRecDepth 100000
abbrev cL_law : ByteArray := code
def dkwL_law_21 : List UInt8 := [29, 4, 96, 46, 182, 0, 77, 148, 153, 0, 5, 3, 172, 132, 3, 6, 167, 253, 239, 4, 172]
abbrev dktL_law_21 : List UInt8 := dkwL_law_21 ++ []
def dkwL_law_20 : List UInt8 := [42, 29, 4, 96, 46, 182, 0, 72, 159, 0, 29, 3, 172, 43, 42, 29, 4, 96, 46, 182, 0, 73, 44, 42]
abbrev dktL_law_20 : List UInt8 := dkwL_law_20 ++ dktL_law_21
def dkwL_law_19 : List UInt8 := [46, 42, 29, 5, 96, 46, 182, 0, 68, 159, 0, 52, 3, 172, 43, 42, 29, 4, 96, 46, 182, 0, 69, 44]
abbrev dktL_law_19 : List UInt8 := dkwL_law_19 ++ dktL_law_20
def dkwL_law_18 : List UInt8 := [159, 0, 85, 3, 172, 43, 42, 29, 4, 96, 46, 42, 29, 5, 96, 46, 182, 0, 65, 44, 42, 29, 4, 96]
abbrev dktL_law_18 : List UInt8 := dkwL_law_18 ++ dktL_law_19
def dkwL_law_17 : List UInt8 := [159, 0, 108, 3, 172, 43, 42, 29, 4, 96, 46, 182, 0, 61, 44, 42, 29, 4, 96, 46, 182, 0, 64]
abbrev dktL_law_17 : List UInt8 := dkwL_law_17 ++ dktL_law_18
def dkwL_law_16 : List UInt8 := [182, 0, 56, 44, 42, 29, 4, 96, 46, 42, 29, 5, 96, 46, 42, 29, 6, 96, 46, 182, 0, 60]
abbrev dktL_law_16 : List UInt8 := dkwL_law_16 ++ dktL_law_17
def dkwL_law_15 : List UInt8 := [182, 0, 55, 159, 0, 151, 3, 172, 43, 42, 29, 4, 96, 46, 42, 29, 5, 96, 46, 42, 29, 6, 96, 46]
abbrev dktL_law_15 : List UInt8 := dkwL_law_15 ++ dktL_law_16
def dkwL_law_14 : List UInt8 := [42, 29, 6, 96, 46, 182, 0, 52, 44, 42, 29, 4, 96, 46, 42, 29, 5, 96, 46, 42, 29, 6, 96, 46]
abbrev dktL_law_14 : List UInt8 := dkwL_law_14 ++ dktL_law_15
def dkwL_law_13 : List UInt8 := [42, 29, 6, 96, 46, 182, 0, 51, 159, 0, 194, 3, 172, 43, 42, 29, 4, 96, 46, 42, 29, 5, 96, 46]
abbrev dktL_law_13 : List UInt8 := dkwL_law_13 ++ dktL_law_14
def dkwL_law_12 : List UInt8 := [42, 29, 5, 96, 46, 42, 29, 6, 96, 46, 182, 0, 47, 44, 42, 29, 4, 96, 46, 42, 29, 5, 96, 46]
abbrev dktL_law_12 : List UInt8 := dkwL_law_12 ++ dktL_law_13
def dkwL_law_11 : List UInt8 := [29, 4, 96, 46, 42, 29, 5, 96, 46, 182, 0, 46, 148, 153, 0, 237, 3, 172, 43, 42, 29, 4, 96, 46]
abbrev dktL_law_11 : List UInt8 := dkwL_law_11 ++ dktL_law_12
def dkwL_law_10 : List UInt8 := [96, 46, 182, 0, 41, 167, 1, 13, 43, 42, 29, 4, 96, 46, 42, 29, 5, 96, 46, 182, 0, 42, 44, 42]
abbrev dktL_law_10 : List UInt8 := dkwL_law_10 ++ dktL_law_11
def dkwL_law_9 : List UInt8 := [7, 96, 46, 182, 0, 37, 159, 1, 36, 3, 172, 43, 42, 29, 4, 96, 46, 182, 0, 38, 44, 42, 29, 4]
abbrev dktL_law_9 : List UInt8 := dkwL_law_9 ++ dktL_law_10
def dkwL_law_8 : List UInt8 := [7, 96, 46, 182, 0, 33, 44, 42, 29, 4, 96, 46, 42, 29, 5, 96, 46, 42, 29, 6, 96, 46, 42, 29]
abbrev dktL_law_8 : List UInt8 := dkwL_law_8 ++ dktL_law_9
def dkwL_law_7 : List UInt8 := [182, 0, 32, 167, 1, 87, 43, 42, 29, 4, 96, 46, 42, 29, 5, 96, 46, 42, 29, 6, 96, 46, 42, 29]
abbrev dktL_law_7 : List UInt8 := dkwL_law_7 ++ dktL_law_8
def dkwL_law_6 : List UInt8 := [182, 0, 27, 159, 1, 110, 3, 172, 43, 42, 29, 4, 96, 46, 182, 0, 28, 44, 42, 29, 4, 96, 46]
abbrev dktL_law_6 : List UInt8 := dkwL_law_6 ++ dktL_law_7
def dkwL_law_5 : List UInt8 := [182, 0, 22, 159, 1, 133, 3, 172, 43, 42, 29, 4, 96, 46, 182, 0, 23, 44, 42, 29, 4, 96, 46]
abbrev dktL_law_5 : List UInt8 := dkwL_law_5 ++ dktL_law_6
def dkwL_law_4 : List UInt8 := [46, 182, 0, 17, 159, 1, 156, 3, 172, 43, 42, 29, 4, 96, 46, 182, 0, 18, 44, 42, 29, 4, 96, 46]
abbrev dktL_law_4 : List UInt8 := dkwL_law_4 ++ dktL_law_5
def dkwL_law_3 : List UInt8 := [43, 42, 29, 4, 96, 46, 42, 29, 5, 96, 46, 182, 0, 13, 44, 42, 29, 4, 96, 46, 42, 29, 5, 96]
abbrev dktL_law_3 : List UInt8 := dkwL_law_3 ++ dktL_law_4
def dkwL_law_2 : List UInt8 := [170, 0, 0, 0, 0, 1, 255, 0, 0, 0, 0, 0, 0, 0, 13, 0, 0, 0, 71, 0, 0, 0, 104, 0, 0, 0, 127, 0, 0, 0, 150, 0, 0, 0, 171, 0, 0, 0, 224, 0, 0, 0, 245, 0, 0, 1, 23, 0, 0, 1, 66, 0, 0, 1, 109, 0, 0, 1, 152, 0, 0, 1, 175, 0, 0, 1, 208, 0, 0, 1, 231]
abbrev dktL_law_2 : List UInt8 := dkwL_law_2 ++ dktL_law_3
def dkwL_law_1 : List UInt8 := [163, 2, 14, 42, 29, 46, 16, 15, 126]
abbrev dktL_law_1 : List UInt8 := dkwL_law_1 ++ dktL_law_2
def dkwL_law_0 : List UInt8 := [187, 0, 7, 89, 183, 0, 9, 76, 187, 0, 10, 89, 183, 0, 12, 77, 3, 62, 29, 42, 190, 16, 6, 100]
abbrev dktL_law_0 : List UInt8 := dkwL_law_0 ++ dktL_law_1
theorem dksL_law_0 : cL_law.data.toList.drop 0 = dktL_law_0 := by decide +kernel
theorem dksL_law_1 : cL_law.data.toList.drop 24 = dktL_law_1 := dk_seg dksL_law_0 24 rfl rfl
theorem dksL_law_2 : cL_law.data.toList.drop 33 = dktL_law_2 := dk_seg dksL_law_1 9 rfl rfl
theorem dksL_law_3 : cL_law.data.toList.drop 104 = dktL_law_3 := dk_seg dksL_law_2 71 rfl rfl
theorem dksL_law_4 : cL_law.data.toList.drop 128 = dktL_law_4 := dk_seg dksL_law_3 24 rfl rfl
theorem dksL_law_5 : cL_law.data.toList.drop 152 = dktL_law_5 := dk_seg dksL_law_4 24 rfl rfl
theorem dksL_law_6 : cL_law.data.toList.drop 175 = dktL_law_6 := dk_seg dksL_law_5 23 rfl rfl
theorem dksL_law_7 : cL_law.data.toList.drop 198 = dktL_law_7 := dk_seg dksL_law_6 23 rfl rfl
theorem dksL_law_8 : cL_law.data.toList.drop 222 = dktL_law_8 := dk_seg dksL_law_7 24 rfl rfl
theorem dksL_law_9 : cL_law.data.toList.drop 246 = dktL_law_9 := dk_seg dksL_law_8 24 rfl rfl
theorem dksL_law_10 : cL_law.data.toList.drop 270 = dktL_law_10 := dk_seg dksL_law_9 24 rfl rfl
theorem dksL_law_11 : cL_law.data.toList.drop 294 = dktL_law_11 := dk_seg dksL_law_10 24 rfl rfl
theorem dksL_law_12 : cL_law.data.toList.drop 318 = dktL_law_12 := dk_seg dksL_law_11 24 rfl rfl
theorem dksL_law_13 : cL_law.data.toList.drop 342 = dktL_law_13 := dk_seg dksL_law_12 24 rfl rfl
theorem dksL_law_14 : cL_law.data.toList.drop 366 = dktL_law_14 := dk_seg dksL_law_13 24 rfl rfl
theorem dksL_law_15 : cL_law.data.toList.drop 390 = dktL_law_15 := dk_seg dksL_law_14 24 rfl rfl
theorem dksL_law_16 : cL_law.data.toList.drop 414 = dktL_law_16 := dk_seg dksL_law_15 24 rfl rfl
theorem dksL_law_17 : cL_law.data.toList.drop 436 = dktL_law_17 := dk_seg dksL_law_16 22 rfl rfl
theorem dksL_law_18 : cL_law.data.toList.drop 459 = dktL_law_18 := dk_seg dksL_law_17 23 rfl rfl
theorem dksL_law_19 : cL_law.data.toList.drop 483 = dktL_law_19 := dk_seg dksL_law_18 24 rfl rfl
theorem dksL_law_20 : cL_law.data.toList.drop 507 = dktL_law_20 := dk_seg dksL_law_19 24 rfl rfl
theorem dksL_law_21 : cL_law.data.toList.drop 531 = dktL_law_21 := dk_seg dksL_law_20 24 rfl rfl
theorem dL_law_0 : decode cL_law 0 = .ok (.new 7, 3) := dk_187 0 7 (dk_at dksL_law_0 0 rfl rfl)
theorem dL_law_3 : decode cL_law 3 = .ok (.dup, 1) := dk_89 (dk_at dksL_law_0 3 rfl rfl)
theorem dL_law_4 : decode cL_law 4 = .ok (.invokespecial 9, 3) := dk_183 0 9 (dk_at dksL_law_0 4 rfl rfl)
theorem dL_law_7 : decode cL_law 7 = .ok (.astore_n 1, 1) := dk_76 (dk_at dksL_law_0 7 rfl rfl)
theorem dL_law_8 : decode cL_law 8 = .ok (.new 10, 3) := dk_187 0 10 (dk_at dksL_law_0 8 rfl rfl)
theorem dL_law_11 : decode cL_law 11 = .ok (.dup, 1) := dk_89 (dk_at dksL_law_0 11 rfl rfl)
theorem dL_law_12 : decode cL_law 12 = .ok (.invokespecial 12, 3) := dk_183 0 12 (dk_at dksL_law_0 12 rfl rfl)
theorem dL_law_15 : decode cL_law 15 = .ok (.astore_n 2, 1) := dk_77 (dk_at dksL_law_0 15 rfl rfl)
theorem dL_law_16 : decode cL_law 16 = .ok (.iconst 0, 1) := dk_3 (dk_at dksL_law_0 16 rfl rfl)
theorem dL_law_17 : decode cL_law 17 = .ok (.istore_n 3, 1) := dk_62 (dk_at dksL_law_0 17 rfl rfl)
theorem dL_law_18 : decode cL_law 18 = .ok (.iload_n 3, 1) := dk_29 (dk_at dksL_law_0 18 rfl rfl)
theorem dL_law_19 : decode cL_law 19 = .ok (.aload_n 0, 1) := dk_42 (dk_at dksL_law_0 19 rfl rfl)
theorem dL_law_20 : decode cL_law 20 = .ok (.arraylength, 1) := dk_190 (dk_at dksL_law_0 20 rfl rfl)
theorem dL_law_21 : decode cL_law 21 = .ok (.bipush 6, 2) := dk_16 6 (dk_at dksL_law_0 21 rfl rfl)
theorem dL_law_23 : decode cL_law 23 = .ok (.isub, 1) := dk_100 (dk_at dksL_law_0 23 rfl rfl)
theorem dL_law_24 : decode cL_law 24 = .ok (.if_icmp .gt 526, 3) := dk_163 2 14 (dk_at dksL_law_1 0 rfl rfl)
theorem dL_law_27 : decode cL_law 27 = .ok (.aload_n 0, 1) := dk_42 (dk_at dksL_law_1 3 rfl rfl)
theorem dL_law_28 : decode cL_law 28 = .ok (.iload_n 3, 1) := dk_29 (dk_at dksL_law_1 4 rfl rfl)
theorem dL_law_29 : decode cL_law 29 = .ok (.iaload, 1) := dk_46 (dk_at dksL_law_1 5 rfl rfl)
theorem dL_law_30 : decode cL_law 30 = .ok (.bipush 15, 2) := dk_16 15 (dk_at dksL_law_1 6 rfl rfl)
theorem dL_law_32 : decode cL_law 32 = .ok (.iand, 1) := dk_126 (dk_at dksL_law_1 8 rfl rfl)
theorem dL_law_33 : decode cL_law 33 = .ok (.tableswitch 511 0 13 #[71, 104, 127, 150, 171, 224, 245, 279, 322, 365, 408, 431, 464, 487], 71) := by decide +kernel
theorem dL_law_104 : decode cL_law 104 = .ok (.aload_n 1, 1) := dk_43 (dk_at dksL_law_3 0 rfl rfl)
theorem dL_law_105 : decode cL_law 105 = .ok (.aload_n 0, 1) := dk_42 (dk_at dksL_law_3 1 rfl rfl)
theorem dL_law_106 : decode cL_law 106 = .ok (.iload_n 3, 1) := dk_29 (dk_at dksL_law_3 2 rfl rfl)
theorem dL_law_107 : decode cL_law 107 = .ok (.iconst 1, 1) := dk_4 (dk_at dksL_law_3 3 rfl rfl)
theorem dL_law_108 : decode cL_law 108 = .ok (.iadd, 1) := dk_96 (dk_at dksL_law_3 4 rfl rfl)
theorem dL_law_109 : decode cL_law 109 = .ok (.iaload, 1) := dk_46 (dk_at dksL_law_3 5 rfl rfl)
theorem dL_law_110 : decode cL_law 110 = .ok (.aload_n 0, 1) := dk_42 (dk_at dksL_law_3 6 rfl rfl)
theorem dL_law_111 : decode cL_law 111 = .ok (.iload_n 3, 1) := dk_29 (dk_at dksL_law_3 7 rfl rfl)
theorem dL_law_112 : decode cL_law 112 = .ok (.iconst 2, 1) := dk_5 (dk_at dksL_law_3 8 rfl rfl)
theorem dL_law_113 : decode cL_law 113 = .ok (.iadd, 1) := dk_96 (dk_at dksL_law_3 9 rfl rfl)
theorem dL_law_114 : decode cL_law 114 = .ok (.iaload, 1) := dk_46 (dk_at dksL_law_3 10 rfl rfl)
theorem dL_law_115 : decode cL_law 115 = .ok (.invokevirtual 13, 3) := dk_182 0 13 (dk_at dksL_law_3 11 rfl rfl)
theorem dL_law_118 : decode cL_law 118 = .ok (.aload_n 2, 1) := dk_44 (dk_at dksL_law_3 14 rfl rfl)
theorem dL_law_119 : decode cL_law 119 = .ok (.aload_n 0, 1) := dk_42 (dk_at dksL_law_3 15 rfl rfl)
theorem dL_law_120 : decode cL_law 120 = .ok (.iload_n 3, 1) := dk_29 (dk_at dksL_law_3 16 rfl rfl)
theorem dL_law_121 : decode cL_law 121 = .ok (.iconst 1, 1) := dk_4 (dk_at dksL_law_3 17 rfl rfl)
theorem dL_law_122 : decode cL_law 122 = .ok (.iadd, 1) := dk_96 (dk_at dksL_law_3 18 rfl rfl)
theorem dL_law_123 : decode cL_law 123 = .ok (.iaload, 1) := dk_46 (dk_at dksL_law_3 19 rfl rfl)
theorem dL_law_124 : decode cL_law 124 = .ok (.aload_n 0, 1) := dk_42 (dk_at dksL_law_3 20 rfl rfl)
theorem dL_law_125 : decode cL_law 125 = .ok (.iload_n 3, 1) := dk_29 (dk_at dksL_law_3 21 rfl rfl)
theorem dL_law_126 : decode cL_law 126 = .ok (.iconst 2, 1) := dk_5 (dk_at dksL_law_3 22 rfl rfl)
theorem dL_law_127 : decode cL_law 127 = .ok (.iadd, 1) := dk_96 (dk_at dksL_law_3 23 rfl rfl)
theorem dL_law_128 : decode cL_law 128 = .ok (.iaload, 1) := dk_46 (dk_at dksL_law_4 0 rfl rfl)
theorem dL_law_129 : decode cL_law 129 = .ok (.invokevirtual 17, 3) := dk_182 0 17 (dk_at dksL_law_4 1 rfl rfl)
theorem dL_law_132 : decode cL_law 132 = .ok (.if_icmp .eq 412, 3) := dk_159 1 156 (dk_at dksL_law_4 4 rfl rfl)
theorem dL_law_135 : decode cL_law 135 = .ok (.iconst 0, 1) := dk_3 (dk_at dksL_law_4 7 rfl rfl)
theorem dL_law_136 : decode cL_law 136 = .ok (.ireturn, 1) := dk_172 (dk_at dksL_law_4 8 rfl rfl)
theorem dL_law_137 : decode cL_law 137 = .ok (.aload_n 1, 1) := dk_43 (dk_at dksL_law_4 9 rfl rfl)
theorem dL_law_138 : decode cL_law 138 = .ok (.aload_n 0, 1) := dk_42 (dk_at dksL_law_4 10 rfl rfl)
theorem dL_law_139 : decode cL_law 139 = .ok (.iload_n 3, 1) := dk_29 (dk_at dksL_law_4 11 rfl rfl)
theorem dL_law_140 : decode cL_law 140 = .ok (.iconst 1, 1) := dk_4 (dk_at dksL_law_4 12 rfl rfl)
theorem dL_law_141 : decode cL_law 141 = .ok (.iadd, 1) := dk_96 (dk_at dksL_law_4 13 rfl rfl)
theorem dL_law_142 : decode cL_law 142 = .ok (.iaload, 1) := dk_46 (dk_at dksL_law_4 14 rfl rfl)
theorem dL_law_143 : decode cL_law 143 = .ok (.invokevirtual 18, 3) := dk_182 0 18 (dk_at dksL_law_4 15 rfl rfl)
theorem dL_law_146 : decode cL_law 146 = .ok (.aload_n 2, 1) := dk_44 (dk_at dksL_law_4 18 rfl rfl)
theorem dL_law_147 : decode cL_law 147 = .ok (.aload_n 0, 1) := dk_42 (dk_at dksL_law_4 19 rfl rfl)
theorem dL_law_148 : decode cL_law 148 = .ok (.iload_n 3, 1) := dk_29 (dk_at dksL_law_4 20 rfl rfl)
theorem dL_law_149 : decode cL_law 149 = .ok (.iconst 1, 1) := dk_4 (dk_at dksL_law_4 21 rfl rfl)
theorem dL_law_150 : decode cL_law 150 = .ok (.iadd, 1) := dk_96 (dk_at dksL_law_4 22 rfl rfl)
theorem dL_law_151 : decode cL_law 151 = .ok (.iaload, 1) := dk_46 (dk_at dksL_law_4 23 rfl rfl)
theorem dL_law_152 : decode cL_law 152 = .ok (.invokevirtual 22, 3) := dk_182 0 22 (dk_at dksL_law_5 0 rfl rfl)
theorem dL_law_155 : decode cL_law 155 = .ok (.if_icmp .eq 389, 3) := dk_159 1 133 (dk_at dksL_law_5 3 rfl rfl)
theorem dL_law_158 : decode cL_law 158 = .ok (.iconst 0, 1) := dk_3 (dk_at dksL_law_5 6 rfl rfl)
theorem dL_law_159 : decode cL_law 159 = .ok (.ireturn, 1) := dk_172 (dk_at dksL_law_5 7 rfl rfl)
theorem dL_law_160 : decode cL_law 160 = .ok (.aload_n 1, 1) := dk_43 (dk_at dksL_law_5 8 rfl rfl)
theorem dL_law_161 : decode cL_law 161 = .ok (.aload_n 0, 1) := dk_42 (dk_at dksL_law_5 9 rfl rfl)
theorem dL_law_162 : decode cL_law 162 = .ok (.iload_n 3, 1) := dk_29 (dk_at dksL_law_5 10 rfl rfl)
theorem dL_law_163 : decode cL_law 163 = .ok (.iconst 1, 1) := dk_4 (dk_at dksL_law_5 11 rfl rfl)
theorem dL_law_164 : decode cL_law 164 = .ok (.iadd, 1) := dk_96 (dk_at dksL_law_5 12 rfl rfl)
theorem dL_law_165 : decode cL_law 165 = .ok (.iaload, 1) := dk_46 (dk_at dksL_law_5 13 rfl rfl)
theorem dL_law_166 : decode cL_law 166 = .ok (.invokevirtual 23, 3) := dk_182 0 23 (dk_at dksL_law_5 14 rfl rfl)
theorem dL_law_169 : decode cL_law 169 = .ok (.aload_n 2, 1) := dk_44 (dk_at dksL_law_5 17 rfl rfl)
theorem dL_law_170 : decode cL_law 170 = .ok (.aload_n 0, 1) := dk_42 (dk_at dksL_law_5 18 rfl rfl)
theorem dL_law_171 : decode cL_law 171 = .ok (.iload_n 3, 1) := dk_29 (dk_at dksL_law_5 19 rfl rfl)
theorem dL_law_172 : decode cL_law 172 = .ok (.iconst 1, 1) := dk_4 (dk_at dksL_law_5 20 rfl rfl)
theorem dL_law_173 : decode cL_law 173 = .ok (.iadd, 1) := dk_96 (dk_at dksL_law_5 21 rfl rfl)
theorem dL_law_174 : decode cL_law 174 = .ok (.iaload, 1) := dk_46 (dk_at dksL_law_5 22 rfl rfl)
theorem dL_law_175 : decode cL_law 175 = .ok (.invokevirtual 27, 3) := dk_182 0 27 (dk_at dksL_law_6 0 rfl rfl)
theorem dL_law_178 : decode cL_law 178 = .ok (.if_icmp .eq 366, 3) := dk_159 1 110 (dk_at dksL_law_6 3 rfl rfl)
theorem dL_law_181 : decode cL_law 181 = .ok (.iconst 0, 1) := dk_3 (dk_at dksL_law_6 6 rfl rfl)
theorem dL_law_182 : decode cL_law 182 = .ok (.ireturn, 1) := dk_172 (dk_at dksL_law_6 7 rfl rfl)
theorem dL_law_183 : decode cL_law 183 = .ok (.aload_n 1, 1) := dk_43 (dk_at dksL_law_6 8 rfl rfl)
theorem dL_law_184 : decode cL_law 184 = .ok (.aload_n 0, 1) := dk_42 (dk_at dksL_law_6 9 rfl rfl)
theorem dL_law_185 : decode cL_law 185 = .ok (.iload_n 3, 1) := dk_29 (dk_at dksL_law_6 10 rfl rfl)
theorem dL_law_186 : decode cL_law 186 = .ok (.iconst 1, 1) := dk_4 (dk_at dksL_law_6 11 rfl rfl)
theorem dL_law_187 : decode cL_law 187 = .ok (.iadd, 1) := dk_96 (dk_at dksL_law_6 12 rfl rfl)
theorem dL_law_188 : decode cL_law 188 = .ok (.iaload, 1) := dk_46 (dk_at dksL_law_6 13 rfl rfl)
theorem dL_law_189 : decode cL_law 189 = .ok (.invokevirtual 28, 3) := dk_182 0 28 (dk_at dksL_law_6 14 rfl rfl)
theorem dL_law_192 : decode cL_law 192 = .ok (.aload_n 2, 1) := dk_44 (dk_at dksL_law_6 17 rfl rfl)
theorem dL_law_193 : decode cL_law 193 = .ok (.aload_n 0, 1) := dk_42 (dk_at dksL_law_6 18 rfl rfl)
theorem dL_law_194 : decode cL_law 194 = .ok (.iload_n 3, 1) := dk_29 (dk_at dksL_law_6 19 rfl rfl)
theorem dL_law_195 : decode cL_law 195 = .ok (.iconst 1, 1) := dk_4 (dk_at dksL_law_6 20 rfl rfl)
theorem dL_law_196 : decode cL_law 196 = .ok (.iadd, 1) := dk_96 (dk_at dksL_law_6 21 rfl rfl)
theorem dL_law_197 : decode cL_law 197 = .ok (.iaload, 1) := dk_46 (dk_at dksL_law_6 22 rfl rfl)
theorem dL_law_198 : decode cL_law 198 = .ok (.invokevirtual 32, 3) := dk_182 0 32 (dk_at dksL_law_7 0 rfl rfl)
theorem dL_law_201 : decode cL_law 201 = .ok (.goto 343, 3) := dk_167 1 87 (dk_at dksL_law_7 3 rfl rfl)
theorem dL_law_204 : decode cL_law 204 = .ok (.aload_n 1, 1) := dk_43 (dk_at dksL_law_7 6 rfl rfl)
theorem dL_law_205 : decode cL_law 205 = .ok (.aload_n 0, 1) := dk_42 (dk_at dksL_law_7 7 rfl rfl)
theorem dL_law_206 : decode cL_law 206 = .ok (.iload_n 3, 1) := dk_29 (dk_at dksL_law_7 8 rfl rfl)
theorem dL_law_207 : decode cL_law 207 = .ok (.iconst 1, 1) := dk_4 (dk_at dksL_law_7 9 rfl rfl)
theorem dL_law_208 : decode cL_law 208 = .ok (.iadd, 1) := dk_96 (dk_at dksL_law_7 10 rfl rfl)
theorem dL_law_209 : decode cL_law 209 = .ok (.iaload, 1) := dk_46 (dk_at dksL_law_7 11 rfl rfl)
theorem dL_law_210 : decode cL_law 210 = .ok (.aload_n 0, 1) := dk_42 (dk_at dksL_law_7 12 rfl rfl)
theorem dL_law_211 : decode cL_law 211 = .ok (.iload_n 3, 1) := dk_29 (dk_at dksL_law_7 13 rfl rfl)
theorem dL_law_212 : decode cL_law 212 = .ok (.iconst 2, 1) := dk_5 (dk_at dksL_law_7 14 rfl rfl)
theorem dL_law_213 : decode cL_law 213 = .ok (.iadd, 1) := dk_96 (dk_at dksL_law_7 15 rfl rfl)
theorem dL_law_214 : decode cL_law 214 = .ok (.iaload, 1) := dk_46 (dk_at dksL_law_7 16 rfl rfl)
theorem dL_law_215 : decode cL_law 215 = .ok (.aload_n 0, 1) := dk_42 (dk_at dksL_law_7 17 rfl rfl)
theorem dL_law_216 : decode cL_law 216 = .ok (.iload_n 3, 1) := dk_29 (dk_at dksL_law_7 18 rfl rfl)
theorem dL_law_217 : decode cL_law 217 = .ok (.iconst 3, 1) := dk_6 (dk_at dksL_law_7 19 rfl rfl)
theorem dL_law_218 : decode cL_law 218 = .ok (.iadd, 1) := dk_96 (dk_at dksL_law_7 20 rfl rfl)
theorem dL_law_219 : decode cL_law 219 = .ok (.iaload, 1) := dk_46 (dk_at dksL_law_7 21 rfl rfl)
theorem dL_law_220 : decode cL_law 220 = .ok (.aload_n 0, 1) := dk_42 (dk_at dksL_law_7 22 rfl rfl)
theorem dL_law_221 : decode cL_law 221 = .ok (.iload_n 3, 1) := dk_29 (dk_at dksL_law_7 23 rfl rfl)
theorem dL_law_222 : decode cL_law 222 = .ok (.iconst 4, 1) := dk_7 (dk_at dksL_law_8 0 rfl rfl)
theorem dL_law_223 : decode cL_law 223 = .ok (.iadd, 1) := dk_96 (dk_at dksL_law_8 1 rfl rfl)
theorem dL_law_224 : decode cL_law 224 = .ok (.iaload, 1) := dk_46 (dk_at dksL_law_8 2 rfl rfl)
theorem dL_law_225 : decode cL_law 225 = .ok (.invokevirtual 33, 3) := dk_182 0 33 (dk_at dksL_law_8 3 rfl rfl)
theorem dL_law_228 : decode cL_law 228 = .ok (.aload_n 2, 1) := dk_44 (dk_at dksL_law_8 6 rfl rfl)
theorem dL_law_229 : decode cL_law 229 = .ok (.aload_n 0, 1) := dk_42 (dk_at dksL_law_8 7 rfl rfl)
theorem dL_law_230 : decode cL_law 230 = .ok (.iload_n 3, 1) := dk_29 (dk_at dksL_law_8 8 rfl rfl)
theorem dL_law_231 : decode cL_law 231 = .ok (.iconst 1, 1) := dk_4 (dk_at dksL_law_8 9 rfl rfl)
theorem dL_law_232 : decode cL_law 232 = .ok (.iadd, 1) := dk_96 (dk_at dksL_law_8 10 rfl rfl)
theorem dL_law_233 : decode cL_law 233 = .ok (.iaload, 1) := dk_46 (dk_at dksL_law_8 11 rfl rfl)
theorem dL_law_234 : decode cL_law 234 = .ok (.aload_n 0, 1) := dk_42 (dk_at dksL_law_8 12 rfl rfl)
theorem dL_law_235 : decode cL_law 235 = .ok (.iload_n 3, 1) := dk_29 (dk_at dksL_law_8 13 rfl rfl)
theorem dL_law_236 : decode cL_law 236 = .ok (.iconst 2, 1) := dk_5 (dk_at dksL_law_8 14 rfl rfl)
theorem dL_law_237 : decode cL_law 237 = .ok (.iadd, 1) := dk_96 (dk_at dksL_law_8 15 rfl rfl)
theorem dL_law_238 : decode cL_law 238 = .ok (.iaload, 1) := dk_46 (dk_at dksL_law_8 16 rfl rfl)
theorem dL_law_239 : decode cL_law 239 = .ok (.aload_n 0, 1) := dk_42 (dk_at dksL_law_8 17 rfl rfl)
theorem dL_law_240 : decode cL_law 240 = .ok (.iload_n 3, 1) := dk_29 (dk_at dksL_law_8 18 rfl rfl)
theorem dL_law_241 : decode cL_law 241 = .ok (.iconst 3, 1) := dk_6 (dk_at dksL_law_8 19 rfl rfl)
theorem dL_law_242 : decode cL_law 242 = .ok (.iadd, 1) := dk_96 (dk_at dksL_law_8 20 rfl rfl)
theorem dL_law_243 : decode cL_law 243 = .ok (.iaload, 1) := dk_46 (dk_at dksL_law_8 21 rfl rfl)
theorem dL_law_244 : decode cL_law 244 = .ok (.aload_n 0, 1) := dk_42 (dk_at dksL_law_8 22 rfl rfl)
theorem dL_law_245 : decode cL_law 245 = .ok (.iload_n 3, 1) := dk_29 (dk_at dksL_law_8 23 rfl rfl)
theorem dL_law_246 : decode cL_law 246 = .ok (.iconst 4, 1) := dk_7 (dk_at dksL_law_9 0 rfl rfl)
theorem dL_law_247 : decode cL_law 247 = .ok (.iadd, 1) := dk_96 (dk_at dksL_law_9 1 rfl rfl)
theorem dL_law_248 : decode cL_law 248 = .ok (.iaload, 1) := dk_46 (dk_at dksL_law_9 2 rfl rfl)
theorem dL_law_249 : decode cL_law 249 = .ok (.invokevirtual 37, 3) := dk_182 0 37 (dk_at dksL_law_9 3 rfl rfl)
theorem dL_law_252 : decode cL_law 252 = .ok (.if_icmp .eq 292, 3) := dk_159 1 36 (dk_at dksL_law_9 6 rfl rfl)
theorem dL_law_255 : decode cL_law 255 = .ok (.iconst 0, 1) := dk_3 (dk_at dksL_law_9 9 rfl rfl)
theorem dL_law_256 : decode cL_law 256 = .ok (.ireturn, 1) := dk_172 (dk_at dksL_law_9 10 rfl rfl)
theorem dL_law_257 : decode cL_law 257 = .ok (.aload_n 1, 1) := dk_43 (dk_at dksL_law_9 11 rfl rfl)
theorem dL_law_258 : decode cL_law 258 = .ok (.aload_n 0, 1) := dk_42 (dk_at dksL_law_9 12 rfl rfl)
theorem dL_law_259 : decode cL_law 259 = .ok (.iload_n 3, 1) := dk_29 (dk_at dksL_law_9 13 rfl rfl)
theorem dL_law_260 : decode cL_law 260 = .ok (.iconst 1, 1) := dk_4 (dk_at dksL_law_9 14 rfl rfl)
theorem dL_law_261 : decode cL_law 261 = .ok (.iadd, 1) := dk_96 (dk_at dksL_law_9 15 rfl rfl)
theorem dL_law_262 : decode cL_law 262 = .ok (.iaload, 1) := dk_46 (dk_at dksL_law_9 16 rfl rfl)
theorem dL_law_263 : decode cL_law 263 = .ok (.invokevirtual 38, 3) := dk_182 0 38 (dk_at dksL_law_9 17 rfl rfl)
theorem dL_law_266 : decode cL_law 266 = .ok (.aload_n 2, 1) := dk_44 (dk_at dksL_law_9 20 rfl rfl)
theorem dL_law_267 : decode cL_law 267 = .ok (.aload_n 0, 1) := dk_42 (dk_at dksL_law_9 21 rfl rfl)
theorem dL_law_268 : decode cL_law 268 = .ok (.iload_n 3, 1) := dk_29 (dk_at dksL_law_9 22 rfl rfl)
theorem dL_law_269 : decode cL_law 269 = .ok (.iconst 1, 1) := dk_4 (dk_at dksL_law_9 23 rfl rfl)
theorem dL_law_270 : decode cL_law 270 = .ok (.iadd, 1) := dk_96 (dk_at dksL_law_10 0 rfl rfl)
theorem dL_law_271 : decode cL_law 271 = .ok (.iaload, 1) := dk_46 (dk_at dksL_law_10 1 rfl rfl)
theorem dL_law_272 : decode cL_law 272 = .ok (.invokevirtual 41, 3) := dk_182 0 41 (dk_at dksL_law_10 2 rfl rfl)
theorem dL_law_275 : decode cL_law 275 = .ok (.goto 269, 3) := dk_167 1 13 (dk_at dksL_law_10 5 rfl rfl)
theorem dL_law_278 : decode cL_law 278 = .ok (.aload_n 1, 1) := dk_43 (dk_at dksL_law_10 8 rfl rfl)
theorem dL_law_279 : decode cL_law 279 = .ok (.aload_n 0, 1) := dk_42 (dk_at dksL_law_10 9 rfl rfl)
theorem dL_law_280 : decode cL_law 280 = .ok (.iload_n 3, 1) := dk_29 (dk_at dksL_law_10 10 rfl rfl)
theorem dL_law_281 : decode cL_law 281 = .ok (.iconst 1, 1) := dk_4 (dk_at dksL_law_10 11 rfl rfl)
theorem dL_law_282 : decode cL_law 282 = .ok (.iadd, 1) := dk_96 (dk_at dksL_law_10 12 rfl rfl)
theorem dL_law_283 : decode cL_law 283 = .ok (.iaload, 1) := dk_46 (dk_at dksL_law_10 13 rfl rfl)
theorem dL_law_284 : decode cL_law 284 = .ok (.aload_n 0, 1) := dk_42 (dk_at dksL_law_10 14 rfl rfl)
theorem dL_law_285 : decode cL_law 285 = .ok (.iload_n 3, 1) := dk_29 (dk_at dksL_law_10 15 rfl rfl)
theorem dL_law_286 : decode cL_law 286 = .ok (.iconst 2, 1) := dk_5 (dk_at dksL_law_10 16 rfl rfl)
theorem dL_law_287 : decode cL_law 287 = .ok (.iadd, 1) := dk_96 (dk_at dksL_law_10 17 rfl rfl)
theorem dL_law_288 : decode cL_law 288 = .ok (.iaload, 1) := dk_46 (dk_at dksL_law_10 18 rfl rfl)
theorem dL_law_289 : decode cL_law 289 = .ok (.invokevirtual 42, 3) := dk_182 0 42 (dk_at dksL_law_10 19 rfl rfl)
theorem dL_law_292 : decode cL_law 292 = .ok (.aload_n 2, 1) := dk_44 (dk_at dksL_law_10 22 rfl rfl)
theorem dL_law_293 : decode cL_law 293 = .ok (.aload_n 0, 1) := dk_42 (dk_at dksL_law_10 23 rfl rfl)
theorem dL_law_294 : decode cL_law 294 = .ok (.iload_n 3, 1) := dk_29 (dk_at dksL_law_11 0 rfl rfl)
theorem dL_law_295 : decode cL_law 295 = .ok (.iconst 1, 1) := dk_4 (dk_at dksL_law_11 1 rfl rfl)
theorem dL_law_296 : decode cL_law 296 = .ok (.iadd, 1) := dk_96 (dk_at dksL_law_11 2 rfl rfl)
theorem dL_law_297 : decode cL_law 297 = .ok (.iaload, 1) := dk_46 (dk_at dksL_law_11 3 rfl rfl)
theorem dL_law_298 : decode cL_law 298 = .ok (.aload_n 0, 1) := dk_42 (dk_at dksL_law_11 4 rfl rfl)
theorem dL_law_299 : decode cL_law 299 = .ok (.iload_n 3, 1) := dk_29 (dk_at dksL_law_11 5 rfl rfl)
theorem dL_law_300 : decode cL_law 300 = .ok (.iconst 2, 1) := dk_5 (dk_at dksL_law_11 6 rfl rfl)
theorem dL_law_301 : decode cL_law 301 = .ok (.iadd, 1) := dk_96 (dk_at dksL_law_11 7 rfl rfl)
theorem dL_law_302 : decode cL_law 302 = .ok (.iaload, 1) := dk_46 (dk_at dksL_law_11 8 rfl rfl)
theorem dL_law_303 : decode cL_law 303 = .ok (.invokevirtual 46, 3) := dk_182 0 46 (dk_at dksL_law_11 9 rfl rfl)
theorem dL_law_306 : decode cL_law 306 = .ok (.lcmp, 1) := dk_148 (dk_at dksL_law_11 12 rfl rfl)
theorem dL_law_307 : decode cL_law 307 = .ok (.ifCond .eq 237, 3) := dk_153 0 237 (dk_at dksL_law_11 13 rfl rfl)
theorem dL_law_310 : decode cL_law 310 = .ok (.iconst 0, 1) := dk_3 (dk_at dksL_law_11 16 rfl rfl)
theorem dL_law_311 : decode cL_law 311 = .ok (.ireturn, 1) := dk_172 (dk_at dksL_law_11 17 rfl rfl)
theorem dL_law_312 : decode cL_law 312 = .ok (.aload_n 1, 1) := dk_43 (dk_at dksL_law_11 18 rfl rfl)
theorem dL_law_313 : decode cL_law 313 = .ok (.aload_n 0, 1) := dk_42 (dk_at dksL_law_11 19 rfl rfl)
theorem dL_law_314 : decode cL_law 314 = .ok (.iload_n 3, 1) := dk_29 (dk_at dksL_law_11 20 rfl rfl)
theorem dL_law_315 : decode cL_law 315 = .ok (.iconst 1, 1) := dk_4 (dk_at dksL_law_11 21 rfl rfl)
theorem dL_law_316 : decode cL_law 316 = .ok (.iadd, 1) := dk_96 (dk_at dksL_law_11 22 rfl rfl)
theorem dL_law_317 : decode cL_law 317 = .ok (.iaload, 1) := dk_46 (dk_at dksL_law_11 23 rfl rfl)
theorem dL_law_318 : decode cL_law 318 = .ok (.aload_n 0, 1) := dk_42 (dk_at dksL_law_12 0 rfl rfl)
theorem dL_law_319 : decode cL_law 319 = .ok (.iload_n 3, 1) := dk_29 (dk_at dksL_law_12 1 rfl rfl)
theorem dL_law_320 : decode cL_law 320 = .ok (.iconst 2, 1) := dk_5 (dk_at dksL_law_12 2 rfl rfl)
theorem dL_law_321 : decode cL_law 321 = .ok (.iadd, 1) := dk_96 (dk_at dksL_law_12 3 rfl rfl)
theorem dL_law_322 : decode cL_law 322 = .ok (.iaload, 1) := dk_46 (dk_at dksL_law_12 4 rfl rfl)
theorem dL_law_323 : decode cL_law 323 = .ok (.aload_n 0, 1) := dk_42 (dk_at dksL_law_12 5 rfl rfl)
theorem dL_law_324 : decode cL_law 324 = .ok (.iload_n 3, 1) := dk_29 (dk_at dksL_law_12 6 rfl rfl)
theorem dL_law_325 : decode cL_law 325 = .ok (.iconst 3, 1) := dk_6 (dk_at dksL_law_12 7 rfl rfl)
theorem dL_law_326 : decode cL_law 326 = .ok (.iadd, 1) := dk_96 (dk_at dksL_law_12 8 rfl rfl)
theorem dL_law_327 : decode cL_law 327 = .ok (.iaload, 1) := dk_46 (dk_at dksL_law_12 9 rfl rfl)
theorem dL_law_328 : decode cL_law 328 = .ok (.invokevirtual 47, 3) := dk_182 0 47 (dk_at dksL_law_12 10 rfl rfl)
theorem dL_law_331 : decode cL_law 331 = .ok (.aload_n 2, 1) := dk_44 (dk_at dksL_law_12 13 rfl rfl)
theorem dL_law_332 : decode cL_law 332 = .ok (.aload_n 0, 1) := dk_42 (dk_at dksL_law_12 14 rfl rfl)
theorem dL_law_333 : decode cL_law 333 = .ok (.iload_n 3, 1) := dk_29 (dk_at dksL_law_12 15 rfl rfl)
theorem dL_law_334 : decode cL_law 334 = .ok (.iconst 1, 1) := dk_4 (dk_at dksL_law_12 16 rfl rfl)
theorem dL_law_335 : decode cL_law 335 = .ok (.iadd, 1) := dk_96 (dk_at dksL_law_12 17 rfl rfl)
theorem dL_law_336 : decode cL_law 336 = .ok (.iaload, 1) := dk_46 (dk_at dksL_law_12 18 rfl rfl)
theorem dL_law_337 : decode cL_law 337 = .ok (.aload_n 0, 1) := dk_42 (dk_at dksL_law_12 19 rfl rfl)
theorem dL_law_338 : decode cL_law 338 = .ok (.iload_n 3, 1) := dk_29 (dk_at dksL_law_12 20 rfl rfl)
theorem dL_law_339 : decode cL_law 339 = .ok (.iconst 2, 1) := dk_5 (dk_at dksL_law_12 21 rfl rfl)
theorem dL_law_340 : decode cL_law 340 = .ok (.iadd, 1) := dk_96 (dk_at dksL_law_12 22 rfl rfl)
theorem dL_law_341 : decode cL_law 341 = .ok (.iaload, 1) := dk_46 (dk_at dksL_law_12 23 rfl rfl)
theorem dL_law_342 : decode cL_law 342 = .ok (.aload_n 0, 1) := dk_42 (dk_at dksL_law_13 0 rfl rfl)
theorem dL_law_343 : decode cL_law 343 = .ok (.iload_n 3, 1) := dk_29 (dk_at dksL_law_13 1 rfl rfl)
theorem dL_law_344 : decode cL_law 344 = .ok (.iconst 3, 1) := dk_6 (dk_at dksL_law_13 2 rfl rfl)
theorem dL_law_345 : decode cL_law 345 = .ok (.iadd, 1) := dk_96 (dk_at dksL_law_13 3 rfl rfl)
theorem dL_law_346 : decode cL_law 346 = .ok (.iaload, 1) := dk_46 (dk_at dksL_law_13 4 rfl rfl)
theorem dL_law_347 : decode cL_law 347 = .ok (.invokevirtual 51, 3) := dk_182 0 51 (dk_at dksL_law_13 5 rfl rfl)
theorem dL_law_350 : decode cL_law 350 = .ok (.if_icmp .eq 194, 3) := dk_159 0 194 (dk_at dksL_law_13 8 rfl rfl)
theorem dL_law_353 : decode cL_law 353 = .ok (.iconst 0, 1) := dk_3 (dk_at dksL_law_13 11 rfl rfl)
theorem dL_law_354 : decode cL_law 354 = .ok (.ireturn, 1) := dk_172 (dk_at dksL_law_13 12 rfl rfl)
theorem dL_law_355 : decode cL_law 355 = .ok (.aload_n 1, 1) := dk_43 (dk_at dksL_law_13 13 rfl rfl)
theorem dL_law_356 : decode cL_law 356 = .ok (.aload_n 0, 1) := dk_42 (dk_at dksL_law_13 14 rfl rfl)
theorem dL_law_357 : decode cL_law 357 = .ok (.iload_n 3, 1) := dk_29 (dk_at dksL_law_13 15 rfl rfl)
theorem dL_law_358 : decode cL_law 358 = .ok (.iconst 1, 1) := dk_4 (dk_at dksL_law_13 16 rfl rfl)
theorem dL_law_359 : decode cL_law 359 = .ok (.iadd, 1) := dk_96 (dk_at dksL_law_13 17 rfl rfl)
theorem dL_law_360 : decode cL_law 360 = .ok (.iaload, 1) := dk_46 (dk_at dksL_law_13 18 rfl rfl)
theorem dL_law_361 : decode cL_law 361 = .ok (.aload_n 0, 1) := dk_42 (dk_at dksL_law_13 19 rfl rfl)
theorem dL_law_362 : decode cL_law 362 = .ok (.iload_n 3, 1) := dk_29 (dk_at dksL_law_13 20 rfl rfl)
theorem dL_law_363 : decode cL_law 363 = .ok (.iconst 2, 1) := dk_5 (dk_at dksL_law_13 21 rfl rfl)
theorem dL_law_364 : decode cL_law 364 = .ok (.iadd, 1) := dk_96 (dk_at dksL_law_13 22 rfl rfl)
theorem dL_law_365 : decode cL_law 365 = .ok (.iaload, 1) := dk_46 (dk_at dksL_law_13 23 rfl rfl)
theorem dL_law_366 : decode cL_law 366 = .ok (.aload_n 0, 1) := dk_42 (dk_at dksL_law_14 0 rfl rfl)
theorem dL_law_367 : decode cL_law 367 = .ok (.iload_n 3, 1) := dk_29 (dk_at dksL_law_14 1 rfl rfl)
theorem dL_law_368 : decode cL_law 368 = .ok (.iconst 3, 1) := dk_6 (dk_at dksL_law_14 2 rfl rfl)
theorem dL_law_369 : decode cL_law 369 = .ok (.iadd, 1) := dk_96 (dk_at dksL_law_14 3 rfl rfl)
theorem dL_law_370 : decode cL_law 370 = .ok (.iaload, 1) := dk_46 (dk_at dksL_law_14 4 rfl rfl)
theorem dL_law_371 : decode cL_law 371 = .ok (.invokevirtual 52, 3) := dk_182 0 52 (dk_at dksL_law_14 5 rfl rfl)
theorem dL_law_374 : decode cL_law 374 = .ok (.aload_n 2, 1) := dk_44 (dk_at dksL_law_14 8 rfl rfl)
theorem dL_law_375 : decode cL_law 375 = .ok (.aload_n 0, 1) := dk_42 (dk_at dksL_law_14 9 rfl rfl)
theorem dL_law_376 : decode cL_law 376 = .ok (.iload_n 3, 1) := dk_29 (dk_at dksL_law_14 10 rfl rfl)
theorem dL_law_377 : decode cL_law 377 = .ok (.iconst 1, 1) := dk_4 (dk_at dksL_law_14 11 rfl rfl)
theorem dL_law_378 : decode cL_law 378 = .ok (.iadd, 1) := dk_96 (dk_at dksL_law_14 12 rfl rfl)
theorem dL_law_379 : decode cL_law 379 = .ok (.iaload, 1) := dk_46 (dk_at dksL_law_14 13 rfl rfl)
theorem dL_law_380 : decode cL_law 380 = .ok (.aload_n 0, 1) := dk_42 (dk_at dksL_law_14 14 rfl rfl)
theorem dL_law_381 : decode cL_law 381 = .ok (.iload_n 3, 1) := dk_29 (dk_at dksL_law_14 15 rfl rfl)
theorem dL_law_382 : decode cL_law 382 = .ok (.iconst 2, 1) := dk_5 (dk_at dksL_law_14 16 rfl rfl)
theorem dL_law_383 : decode cL_law 383 = .ok (.iadd, 1) := dk_96 (dk_at dksL_law_14 17 rfl rfl)
theorem dL_law_384 : decode cL_law 384 = .ok (.iaload, 1) := dk_46 (dk_at dksL_law_14 18 rfl rfl)
theorem dL_law_385 : decode cL_law 385 = .ok (.aload_n 0, 1) := dk_42 (dk_at dksL_law_14 19 rfl rfl)
theorem dL_law_386 : decode cL_law 386 = .ok (.iload_n 3, 1) := dk_29 (dk_at dksL_law_14 20 rfl rfl)
theorem dL_law_387 : decode cL_law 387 = .ok (.iconst 3, 1) := dk_6 (dk_at dksL_law_14 21 rfl rfl)
theorem dL_law_388 : decode cL_law 388 = .ok (.iadd, 1) := dk_96 (dk_at dksL_law_14 22 rfl rfl)
theorem dL_law_389 : decode cL_law 389 = .ok (.iaload, 1) := dk_46 (dk_at dksL_law_14 23 rfl rfl)
theorem dL_law_390 : decode cL_law 390 = .ok (.invokevirtual 55, 3) := dk_182 0 55 (dk_at dksL_law_15 0 rfl rfl)
theorem dL_law_393 : decode cL_law 393 = .ok (.if_icmp .eq 151, 3) := dk_159 0 151 (dk_at dksL_law_15 3 rfl rfl)
theorem dL_law_396 : decode cL_law 396 = .ok (.iconst 0, 1) := dk_3 (dk_at dksL_law_15 6 rfl rfl)
theorem dL_law_397 : decode cL_law 397 = .ok (.ireturn, 1) := dk_172 (dk_at dksL_law_15 7 rfl rfl)
theorem dL_law_398 : decode cL_law 398 = .ok (.aload_n 1, 1) := dk_43 (dk_at dksL_law_15 8 rfl rfl)
theorem dL_law_399 : decode cL_law 399 = .ok (.aload_n 0, 1) := dk_42 (dk_at dksL_law_15 9 rfl rfl)
theorem dL_law_400 : decode cL_law 400 = .ok (.iload_n 3, 1) := dk_29 (dk_at dksL_law_15 10 rfl rfl)
theorem dL_law_401 : decode cL_law 401 = .ok (.iconst 1, 1) := dk_4 (dk_at dksL_law_15 11 rfl rfl)
theorem dL_law_402 : decode cL_law 402 = .ok (.iadd, 1) := dk_96 (dk_at dksL_law_15 12 rfl rfl)
theorem dL_law_403 : decode cL_law 403 = .ok (.iaload, 1) := dk_46 (dk_at dksL_law_15 13 rfl rfl)
theorem dL_law_404 : decode cL_law 404 = .ok (.aload_n 0, 1) := dk_42 (dk_at dksL_law_15 14 rfl rfl)
theorem dL_law_405 : decode cL_law 405 = .ok (.iload_n 3, 1) := dk_29 (dk_at dksL_law_15 15 rfl rfl)
theorem dL_law_406 : decode cL_law 406 = .ok (.iconst 2, 1) := dk_5 (dk_at dksL_law_15 16 rfl rfl)
theorem dL_law_407 : decode cL_law 407 = .ok (.iadd, 1) := dk_96 (dk_at dksL_law_15 17 rfl rfl)
theorem dL_law_408 : decode cL_law 408 = .ok (.iaload, 1) := dk_46 (dk_at dksL_law_15 18 rfl rfl)
theorem dL_law_409 : decode cL_law 409 = .ok (.aload_n 0, 1) := dk_42 (dk_at dksL_law_15 19 rfl rfl)
theorem dL_law_410 : decode cL_law 410 = .ok (.iload_n 3, 1) := dk_29 (dk_at dksL_law_15 20 rfl rfl)
theorem dL_law_411 : decode cL_law 411 = .ok (.iconst 3, 1) := dk_6 (dk_at dksL_law_15 21 rfl rfl)
theorem dL_law_412 : decode cL_law 412 = .ok (.iadd, 1) := dk_96 (dk_at dksL_law_15 22 rfl rfl)
theorem dL_law_413 : decode cL_law 413 = .ok (.iaload, 1) := dk_46 (dk_at dksL_law_15 23 rfl rfl)
theorem dL_law_414 : decode cL_law 414 = .ok (.invokevirtual 56, 3) := dk_182 0 56 (dk_at dksL_law_16 0 rfl rfl)
theorem dL_law_417 : decode cL_law 417 = .ok (.aload_n 2, 1) := dk_44 (dk_at dksL_law_16 3 rfl rfl)
theorem dL_law_418 : decode cL_law 418 = .ok (.aload_n 0, 1) := dk_42 (dk_at dksL_law_16 4 rfl rfl)
theorem dL_law_419 : decode cL_law 419 = .ok (.iload_n 3, 1) := dk_29 (dk_at dksL_law_16 5 rfl rfl)
theorem dL_law_420 : decode cL_law 420 = .ok (.iconst 1, 1) := dk_4 (dk_at dksL_law_16 6 rfl rfl)
theorem dL_law_421 : decode cL_law 421 = .ok (.iadd, 1) := dk_96 (dk_at dksL_law_16 7 rfl rfl)
theorem dL_law_422 : decode cL_law 422 = .ok (.iaload, 1) := dk_46 (dk_at dksL_law_16 8 rfl rfl)
theorem dL_law_423 : decode cL_law 423 = .ok (.aload_n 0, 1) := dk_42 (dk_at dksL_law_16 9 rfl rfl)
theorem dL_law_424 : decode cL_law 424 = .ok (.iload_n 3, 1) := dk_29 (dk_at dksL_law_16 10 rfl rfl)
theorem dL_law_425 : decode cL_law 425 = .ok (.iconst 2, 1) := dk_5 (dk_at dksL_law_16 11 rfl rfl)
theorem dL_law_426 : decode cL_law 426 = .ok (.iadd, 1) := dk_96 (dk_at dksL_law_16 12 rfl rfl)
theorem dL_law_427 : decode cL_law 427 = .ok (.iaload, 1) := dk_46 (dk_at dksL_law_16 13 rfl rfl)
theorem dL_law_428 : decode cL_law 428 = .ok (.aload_n 0, 1) := dk_42 (dk_at dksL_law_16 14 rfl rfl)
theorem dL_law_429 : decode cL_law 429 = .ok (.iload_n 3, 1) := dk_29 (dk_at dksL_law_16 15 rfl rfl)
theorem dL_law_430 : decode cL_law 430 = .ok (.iconst 3, 1) := dk_6 (dk_at dksL_law_16 16 rfl rfl)
theorem dL_law_431 : decode cL_law 431 = .ok (.iadd, 1) := dk_96 (dk_at dksL_law_16 17 rfl rfl)
theorem dL_law_432 : decode cL_law 432 = .ok (.iaload, 1) := dk_46 (dk_at dksL_law_16 18 rfl rfl)
theorem dL_law_433 : decode cL_law 433 = .ok (.invokevirtual 60, 3) := dk_182 0 60 (dk_at dksL_law_16 19 rfl rfl)
theorem dL_law_436 : decode cL_law 436 = .ok (.if_icmp .eq 108, 3) := dk_159 0 108 (dk_at dksL_law_17 0 rfl rfl)
theorem dL_law_439 : decode cL_law 439 = .ok (.iconst 0, 1) := dk_3 (dk_at dksL_law_17 3 rfl rfl)
theorem dL_law_440 : decode cL_law 440 = .ok (.ireturn, 1) := dk_172 (dk_at dksL_law_17 4 rfl rfl)
theorem dL_law_441 : decode cL_law 441 = .ok (.aload_n 1, 1) := dk_43 (dk_at dksL_law_17 5 rfl rfl)
theorem dL_law_442 : decode cL_law 442 = .ok (.aload_n 0, 1) := dk_42 (dk_at dksL_law_17 6 rfl rfl)
theorem dL_law_443 : decode cL_law 443 = .ok (.iload_n 3, 1) := dk_29 (dk_at dksL_law_17 7 rfl rfl)
theorem dL_law_444 : decode cL_law 444 = .ok (.iconst 1, 1) := dk_4 (dk_at dksL_law_17 8 rfl rfl)
theorem dL_law_445 : decode cL_law 445 = .ok (.iadd, 1) := dk_96 (dk_at dksL_law_17 9 rfl rfl)
theorem dL_law_446 : decode cL_law 446 = .ok (.iaload, 1) := dk_46 (dk_at dksL_law_17 10 rfl rfl)
theorem dL_law_447 : decode cL_law 447 = .ok (.invokevirtual 61, 3) := dk_182 0 61 (dk_at dksL_law_17 11 rfl rfl)
theorem dL_law_450 : decode cL_law 450 = .ok (.aload_n 2, 1) := dk_44 (dk_at dksL_law_17 14 rfl rfl)
theorem dL_law_451 : decode cL_law 451 = .ok (.aload_n 0, 1) := dk_42 (dk_at dksL_law_17 15 rfl rfl)
theorem dL_law_452 : decode cL_law 452 = .ok (.iload_n 3, 1) := dk_29 (dk_at dksL_law_17 16 rfl rfl)
theorem dL_law_453 : decode cL_law 453 = .ok (.iconst 1, 1) := dk_4 (dk_at dksL_law_17 17 rfl rfl)
theorem dL_law_454 : decode cL_law 454 = .ok (.iadd, 1) := dk_96 (dk_at dksL_law_17 18 rfl rfl)
theorem dL_law_455 : decode cL_law 455 = .ok (.iaload, 1) := dk_46 (dk_at dksL_law_17 19 rfl rfl)
theorem dL_law_456 : decode cL_law 456 = .ok (.invokevirtual 64, 3) := dk_182 0 64 (dk_at dksL_law_17 20 rfl rfl)
theorem dL_law_459 : decode cL_law 459 = .ok (.if_icmp .eq 85, 3) := dk_159 0 85 (dk_at dksL_law_18 0 rfl rfl)
theorem dL_law_462 : decode cL_law 462 = .ok (.iconst 0, 1) := dk_3 (dk_at dksL_law_18 3 rfl rfl)
theorem dL_law_463 : decode cL_law 463 = .ok (.ireturn, 1) := dk_172 (dk_at dksL_law_18 4 rfl rfl)
theorem dL_law_464 : decode cL_law 464 = .ok (.aload_n 1, 1) := dk_43 (dk_at dksL_law_18 5 rfl rfl)
theorem dL_law_465 : decode cL_law 465 = .ok (.aload_n 0, 1) := dk_42 (dk_at dksL_law_18 6 rfl rfl)
theorem dL_law_466 : decode cL_law 466 = .ok (.iload_n 3, 1) := dk_29 (dk_at dksL_law_18 7 rfl rfl)
theorem dL_law_467 : decode cL_law 467 = .ok (.iconst 1, 1) := dk_4 (dk_at dksL_law_18 8 rfl rfl)
theorem dL_law_468 : decode cL_law 468 = .ok (.iadd, 1) := dk_96 (dk_at dksL_law_18 9 rfl rfl)
theorem dL_law_469 : decode cL_law 469 = .ok (.iaload, 1) := dk_46 (dk_at dksL_law_18 10 rfl rfl)
theorem dL_law_470 : decode cL_law 470 = .ok (.aload_n 0, 1) := dk_42 (dk_at dksL_law_18 11 rfl rfl)
theorem dL_law_471 : decode cL_law 471 = .ok (.iload_n 3, 1) := dk_29 (dk_at dksL_law_18 12 rfl rfl)
theorem dL_law_472 : decode cL_law 472 = .ok (.iconst 2, 1) := dk_5 (dk_at dksL_law_18 13 rfl rfl)
theorem dL_law_473 : decode cL_law 473 = .ok (.iadd, 1) := dk_96 (dk_at dksL_law_18 14 rfl rfl)
theorem dL_law_474 : decode cL_law 474 = .ok (.iaload, 1) := dk_46 (dk_at dksL_law_18 15 rfl rfl)
theorem dL_law_475 : decode cL_law 475 = .ok (.invokevirtual 65, 3) := dk_182 0 65 (dk_at dksL_law_18 16 rfl rfl)
theorem dL_law_478 : decode cL_law 478 = .ok (.aload_n 2, 1) := dk_44 (dk_at dksL_law_18 19 rfl rfl)
theorem dL_law_479 : decode cL_law 479 = .ok (.aload_n 0, 1) := dk_42 (dk_at dksL_law_18 20 rfl rfl)
theorem dL_law_480 : decode cL_law 480 = .ok (.iload_n 3, 1) := dk_29 (dk_at dksL_law_18 21 rfl rfl)
theorem dL_law_481 : decode cL_law 481 = .ok (.iconst 1, 1) := dk_4 (dk_at dksL_law_18 22 rfl rfl)
theorem dL_law_482 : decode cL_law 482 = .ok (.iadd, 1) := dk_96 (dk_at dksL_law_18 23 rfl rfl)
theorem dL_law_483 : decode cL_law 483 = .ok (.iaload, 1) := dk_46 (dk_at dksL_law_19 0 rfl rfl)
theorem dL_law_484 : decode cL_law 484 = .ok (.aload_n 0, 1) := dk_42 (dk_at dksL_law_19 1 rfl rfl)
theorem dL_law_485 : decode cL_law 485 = .ok (.iload_n 3, 1) := dk_29 (dk_at dksL_law_19 2 rfl rfl)
theorem dL_law_486 : decode cL_law 486 = .ok (.iconst 2, 1) := dk_5 (dk_at dksL_law_19 3 rfl rfl)
theorem dL_law_487 : decode cL_law 487 = .ok (.iadd, 1) := dk_96 (dk_at dksL_law_19 4 rfl rfl)
theorem dL_law_488 : decode cL_law 488 = .ok (.iaload, 1) := dk_46 (dk_at dksL_law_19 5 rfl rfl)
theorem dL_law_489 : decode cL_law 489 = .ok (.invokevirtual 68, 3) := dk_182 0 68 (dk_at dksL_law_19 6 rfl rfl)
theorem dL_law_492 : decode cL_law 492 = .ok (.if_icmp .eq 52, 3) := dk_159 0 52 (dk_at dksL_law_19 9 rfl rfl)
theorem dL_law_495 : decode cL_law 495 = .ok (.iconst 0, 1) := dk_3 (dk_at dksL_law_19 12 rfl rfl)
theorem dL_law_496 : decode cL_law 496 = .ok (.ireturn, 1) := dk_172 (dk_at dksL_law_19 13 rfl rfl)
theorem dL_law_497 : decode cL_law 497 = .ok (.aload_n 1, 1) := dk_43 (dk_at dksL_law_19 14 rfl rfl)
theorem dL_law_498 : decode cL_law 498 = .ok (.aload_n 0, 1) := dk_42 (dk_at dksL_law_19 15 rfl rfl)
theorem dL_law_499 : decode cL_law 499 = .ok (.iload_n 3, 1) := dk_29 (dk_at dksL_law_19 16 rfl rfl)
theorem dL_law_500 : decode cL_law 500 = .ok (.iconst 1, 1) := dk_4 (dk_at dksL_law_19 17 rfl rfl)
theorem dL_law_501 : decode cL_law 501 = .ok (.iadd, 1) := dk_96 (dk_at dksL_law_19 18 rfl rfl)
theorem dL_law_502 : decode cL_law 502 = .ok (.iaload, 1) := dk_46 (dk_at dksL_law_19 19 rfl rfl)
theorem dL_law_503 : decode cL_law 503 = .ok (.invokevirtual 69, 3) := dk_182 0 69 (dk_at dksL_law_19 20 rfl rfl)
theorem dL_law_506 : decode cL_law 506 = .ok (.aload_n 2, 1) := dk_44 (dk_at dksL_law_19 23 rfl rfl)
theorem dL_law_507 : decode cL_law 507 = .ok (.aload_n 0, 1) := dk_42 (dk_at dksL_law_20 0 rfl rfl)
theorem dL_law_508 : decode cL_law 508 = .ok (.iload_n 3, 1) := dk_29 (dk_at dksL_law_20 1 rfl rfl)
theorem dL_law_509 : decode cL_law 509 = .ok (.iconst 1, 1) := dk_4 (dk_at dksL_law_20 2 rfl rfl)
theorem dL_law_510 : decode cL_law 510 = .ok (.iadd, 1) := dk_96 (dk_at dksL_law_20 3 rfl rfl)
theorem dL_law_511 : decode cL_law 511 = .ok (.iaload, 1) := dk_46 (dk_at dksL_law_20 4 rfl rfl)
theorem dL_law_512 : decode cL_law 512 = .ok (.invokevirtual 72, 3) := dk_182 0 72 (dk_at dksL_law_20 5 rfl rfl)
theorem dL_law_515 : decode cL_law 515 = .ok (.if_icmp .eq 29, 3) := dk_159 0 29 (dk_at dksL_law_20 8 rfl rfl)
theorem dL_law_518 : decode cL_law 518 = .ok (.iconst 0, 1) := dk_3 (dk_at dksL_law_20 11 rfl rfl)
theorem dL_law_519 : decode cL_law 519 = .ok (.ireturn, 1) := dk_172 (dk_at dksL_law_20 12 rfl rfl)
theorem dL_law_520 : decode cL_law 520 = .ok (.aload_n 1, 1) := dk_43 (dk_at dksL_law_20 13 rfl rfl)
theorem dL_law_521 : decode cL_law 521 = .ok (.aload_n 0, 1) := dk_42 (dk_at dksL_law_20 14 rfl rfl)
theorem dL_law_522 : decode cL_law 522 = .ok (.iload_n 3, 1) := dk_29 (dk_at dksL_law_20 15 rfl rfl)
theorem dL_law_523 : decode cL_law 523 = .ok (.iconst 1, 1) := dk_4 (dk_at dksL_law_20 16 rfl rfl)
theorem dL_law_524 : decode cL_law 524 = .ok (.iadd, 1) := dk_96 (dk_at dksL_law_20 17 rfl rfl)
theorem dL_law_525 : decode cL_law 525 = .ok (.iaload, 1) := dk_46 (dk_at dksL_law_20 18 rfl rfl)
theorem dL_law_526 : decode cL_law 526 = .ok (.invokevirtual 73, 3) := dk_182 0 73 (dk_at dksL_law_20 19 rfl rfl)
theorem dL_law_529 : decode cL_law 529 = .ok (.aload_n 2, 1) := dk_44 (dk_at dksL_law_20 22 rfl rfl)
theorem dL_law_530 : decode cL_law 530 = .ok (.aload_n 0, 1) := dk_42 (dk_at dksL_law_20 23 rfl rfl)
theorem dL_law_531 : decode cL_law 531 = .ok (.iload_n 3, 1) := dk_29 (dk_at dksL_law_21 0 rfl rfl)
theorem dL_law_532 : decode cL_law 532 = .ok (.iconst 1, 1) := dk_4 (dk_at dksL_law_21 1 rfl rfl)
theorem dL_law_533 : decode cL_law 533 = .ok (.iadd, 1) := dk_96 (dk_at dksL_law_21 2 rfl rfl)
theorem dL_law_534 : decode cL_law 534 = .ok (.iaload, 1) := dk_46 (dk_at dksL_law_21 3 rfl rfl)
theorem dL_law_535 : decode cL_law 535 = .ok (.invokevirtual 77, 3) := dk_182 0 77 (dk_at dksL_law_21 4 rfl rfl)
theorem dL_law_538 : decode cL_law 538 = .ok (.lcmp, 1) := dk_148 (dk_at dksL_law_21 7 rfl rfl)
theorem dL_law_539 : decode cL_law 539 = .ok (.ifCond .eq 5, 3) := dk_153 0 5 (dk_at dksL_law_21 8 rfl rfl)
theorem dL_law_542 : decode cL_law 542 = .ok (.iconst 0, 1) := dk_3 (dk_at dksL_law_21 11 rfl rfl)
theorem dL_law_543 : decode cL_law 543 = .ok (.ireturn, 1) := dk_172 (dk_at dksL_law_21 12 rfl rfl)
theorem dL_law_544 : decode cL_law 544 = .ok (.iinc 3 6, 3) := dk_132 3 6 (dk_at dksL_law_21 13 rfl rfl)
theorem dL_law_547 : decode cL_law 547 = .ok (.goto (-529), 3) := dk_167 253 239 (dk_at dksL_law_21 16 rfl rfl)
theorem dL_law_550 : decode cL_law 550 = .ok (.iconst 1, 1) := dk_4 (dk_at dksL_law_21 19 rfl rfl)
theorem dL_law_551 : decode cL_law 551 = .ok (.ireturn, 1) := dk_172 (dk_at dksL_law_21 20 rfl rfl)
end
section
/-! THE WORLD: a list L of addresses and what f says of each; the classes; what a run knows of the tables -/
set_option maxRecDepth 100000
abbrev vwCl : List vw_C := [(RX0, TX0, 3), (RX1, TX1, 3), (RX3, TX3, 2), (RX4, TX4, 3)]
abbrev fr_k : Type := (ClassId × ClassId × ClassId) × (Nat × Nat)
abbrev fr_ty (k : fr_k) : List (ClassId × FieldType) := [(k.1.1, .long), (k.1.2.1, .object "ImmutableLongArray"), (k.1.2.2, .array .long)]
abbrev fL (k : fr_k) (n : Nat) (v : Nat → Int64) : va_E := .inl (k.1.1, n, .inr (.inl v))
abbrev fQ (k : fr_k) (n : Nat) (g : Nat → Option Nat) : va_E := .inl (k.1.2.1, n, .inr (.inr (.inr (.inr g))))
abbrev fG (k : fr_k) (n : Nat) (g : Nat → Option Nat) : va_E := .inl (k.1.2.2, n, .inr (.inr (.inr (.inr g))))
abbrev fO (ci : Nat) (fs : List Value) : va_E := .inr (ci, fs)
/-- what every method knows, beside the words: the classes, the array classes, the nest's links, two String constants -/
def fr_K (D : va_G) (k : fr_k) (U : State) : Prop :=
  va_K D vwCl (fr_ty k) U ∧ va_AO "ImmutableLongArray" U ∧ va_Nw (.arrayOver (.array .long)) U ∧ va_Nw (.castable "[J" "java/lang/Cloneable") U ∧
  va_Nw (.fieldLinkNest RX3 27 RX1 "array" "[J" RX1) U ∧ va_Nw (.fieldLinkNest RX3 28 RX1 "start" "I" RX1) U ∧
  va_Nw (.methodLinkNest RX3 61 yX1_init RX1) U ∧ va_Nw (.methodLinkNest RX3 64 yX1_init_2 RX1) U ∧
  vk_R RX1 7 "Invalid initialCapacity: %s" k.2.1 U ∧ vk_R RX2 9 "index" k.2.2 U
theorem fr_K.warm {D : va_G} {k : fr_k} {s U : State} (hW : s.WarmedH U.vm) (h : fr_K D k s) : fr_K D k U := by
  obtain ⟨h1, h2, h3, h4, h5, h6, h7, h8, h9, h10⟩ := h
  exact ⟨va_K.moved hW.alike h1, h2.moved hW.alike, over_moved hW.alike h3, h4.warmC hW, h5.warmF hW, h6.warmF hW, h7.warmM hW, h8.warmM hW, h9.warm hW, h10.warm hW⟩
theorem fr_K.same {D : va_G} {k : fr_k} {u U : State} (hv : U.vm = u.vm) (h : fr_K D k u) : fr_K D k U := by
  have hal : u.vm.Alike U.vm := by rw [hv]; exact Vm.Alike.refl _
  obtain ⟨h1, h2, h3, h4, h5, h6, h7, h8, h9, h10⟩ := h
  exact ⟨va_K.moved hal h1, h2.moved hal, over_moved hal h3, h4.same rfl hv.symm, h5.same rfl hv.symm, h6.same rfl hv.symm, h7.same rfl hv.symm, h8.same rfl hv.symm, h9.same hv, h10.same hv⟩
/-- the world -/
def wI (D : va_G) (A : Nat → Prop) (L : List Nat) (f : Nat → va_E) (H : Heap) : Prop := va_P D vwCl (va_pl L f) H ∧ va_D A (va_pl L f)
theorem fr_one {D : va_G} {q : Nat × va_E} {H : Heap} (h : va_at D vwCl q H) : va_P D vwCl [q] H := by
  intro k x hk
  cases k with
  | zero => cases hk; exact h
  | succ k => simp at hk
theorem fr_nil {D : va_G} {H : Heap} : va_P D vwCl [] H := fun j x h => by simp at h
theorem fr_cons {D : va_G} {q : Nat × va_E} {ws : va_W} {H : Heap} (h : va_P D vwCl [q] H) (h2 : va_P D vwCl ws H) : va_P D vwCl (q :: ws) H := by
  intro k x hk
  cases k with
  | zero => exact h 0 x hk
  | succ k => exact h2 k x hk
theorem wI.in {D : va_G} {A : Nat → Prop} {L : List Nat} {f : Nat → va_E} {H : Heap} (h : wI D A L f H) {a : Nat} {e : va_E} (ha : a ∈ L) (hf : f a = e) : va_P D vwCl [(a, e)] H := by
  obtain ⟨j, hj⟩ := va_pl_get (X := []) (f := f) ha
  rw [hf] at hj
  exact fr_one (h.1 j _ hj)
theorem wI.lt {D : va_G} {A : Nat → Prop} {L : List Nat} {f : Nat → va_E} {H : Heap} (h : wI D A L f H) {a : Nat} (ha : a ∈ L) : a < H.size := va_pl_lt (X := []) h.1 ha
theorem wI.own {D : va_G} {A : Nat → Prop} {L : List Nat} {f : Nat → va_E} {H : Heap} (h : wI D A L f H) {a : Nat} (ha : a ∈ L) : A a := by
  obtain ⟨j, hj⟩ := va_pl_get (X := []) (f := f) ha
  exact h.2.2 j _ hj
theorem wI.nil {D : va_G} {A : Nat → Prop} {f : Nat → va_E} {H : Heap} : wI D A [] f H := ⟨fun j x h => by simp [va_pl] at h, ⟨fun i j x y h => by simp [va_pl] at h, fun j x h => by simp [va_pl] at h⟩⟩
theorem wI.weaken {D : va_G} {A B : Nat → Prop} {L : List Nat} {f : Nat → va_E} {H : Heap} (h : wI D A L f H) (hAB : ∀ q ∈ L, A q → B q) : wI D B L f H := by
  refine ⟨h.1, h.2.weaken fun j q hq hA => hAB q.1 ?_ hA⟩
  obtain ⟨b, hb, e⟩ := List.mem_map.mp (List.mem_of_getElem? hq)
  rw [← e]
  exact hb
theorem wI.kept {D : va_G} {A : Nat → Prop} {L : List Nat} {f : Nat → va_E} {H H1 : Heap} (h : wI D A L f H) (hq : ∀ a ∈ L, H1[a]? = H[a]?) : wI D A L f H1 := by
  refine ⟨h.1.kept fun j q hj => hq q.1 ?_, h.2⟩
  obtain ⟨b, hb, e⟩ := List.mem_map.mp (List.mem_of_getElem? hj)
  rw [← e]
  exact hb
theorem fr_set {D : va_G} {A : Nat → Prop} {L : List Nat} {f : Nat → va_E} {H H1 : Heap} {a j : Nat} {e : va_E} (hI : wI D A L f H) (ha : a ∈ L) (hj : (va_pl L f)[j]? = some (a, f a))
    (hP : va_P D vwCl ((va_pl L f).set j (a, e)) H1) (hD : va_D A ((va_pl L f).set j (a, e))) : ∃ f1 : Nat → va_E, f1 a = e ∧ (∀ b, b ≠ a → f1 b = f b) ∧ wI D A L f1 H1 := by
  have e1 : (va_pl L f).set j (a, e) = va_pl L (va_up f a e) := va_pl_set (X := []) hI.2 ha hj
  rw [e1] at hP hD
  exact ⟨va_up f a e, va_up_self _ _ _, fun b hb => va_up_ne _ _ hb, hP, hD⟩
theorem fr_push {D : va_G} {A : Nat → Prop} {L : List Nat} {f : Nat → va_E} {H1 : Heap} {q : Nat} {e : va_E}
    (hP : va_P D vwCl (va_pl L f ++ [(q, e)]) H1) (hD : va_D A (va_pl L f ++ [(q, e)])) : q ∉ L ∧ ∃ (L1 : List Nat) (f1 : Nat → va_E), q ∈ L1 ∧ f1 q = e ∧ (∀ b ∈ L, b ∈ L1 ∧ f1 b = f b) ∧ wI D A L1 f1 H1 := by
  have hq : q ∉ L := by
    intro h
    obtain ⟨i, hi⟩ := List.getElem?_of_mem h
    have hl : i < L.length := (List.getElem?_eq_some_iff.mp hi).1
    have e1 : (va_pl L f ++ [(q, e)])[i]? = some (q, f q) := by
      rw [List.getElem?_append_left (by simpa [va_pl] using hl)]
      simp [va_pl, hi]
    have e2 : (va_pl L f ++ [(q, e)])[L.length]? = some (q, e) := by
      rw [List.getElem?_append_right (by simp [va_pl])]
      simp [va_pl]
    have := hD.1 _ _ _ _ e1 e2 rfl
    omega
  rw [va_pl_push hq] at hP hD
  refine ⟨hq, L ++ [q], va_up f q e, by simp, va_up_self _ _ _, fun b hb => ⟨by simp [hb], va_up_ne _ _ fun z => hq (z ▸ hb)⟩, hP, hD⟩
/-- two cells that hold different things are apart -/
theorem fr_ne {f : Nat → va_E} {a b : Nat} {x y : va_E} (ha : f a = x) (hb : f b = y) (h : x ≠ y) : a ≠ b := fun e => h (by rw [← ha, ← hb, e])
theorem fr_neq {L : List Nat} {a q : Nat} (ha : a ∈ L) (hq : q ∉ L) : a ≠ q := fun e => hq (e ▸ ha)
/-- a method that only reads: its start -/
def fr_R (D : va_G) (k : fr_k) (As : List Value) (ws : va_W) : Array Value → State → Prop := va_Pc As (fun U => va_P D vwCl ws U.heap ∧ fr_K D k U)
theorem fr_R.blind {D : va_G} {k : fr_k} {As : List Value} {ws : va_W} : FrameBlind (fr_R D k As ws) := fun _ _ _ _ q => ⟨q.1, q.2.1, q.2.2.same rfl⟩
/-- a method that writes or makes: its start -/
def fr_W (D : va_G) (k : fr_k) (A : Nat → Prop) (As : List Value) (sz : Nat) (L : List Nat) (f : Nat → va_E) : Array Value → State → Prop := va_Pc As (fun U => (U.heap.size = sz ∧ wI D A L f U.heap) ∧ fr_K D k U)
theorem fr_W.blind {D : va_G} {k : fr_k} {A : Nat → Prop} {As : List Value} {sz : Nat} {L : List Nat} {f : Nat → va_E} : FrameBlind (fr_W D k A As sz L f) := fun _ _ _ _ q => ⟨q.1, q.2.1, q.2.2.same rfl⟩
/-- its ends -/
abbrev fr_U : Type := List Nat × (Nat → va_E)
def fr_Qv (D : va_G) (A : Nat → Prop) (P : List Nat → (Nat → va_E) → Prop) : Array Value → State → Outcome → State → Prop := va_Qv (S := fr_U) (fun u => P u.1 u.2) (fun u t => wI D A u.1 u.2 t.heap) A
def fr_Qi (D : va_G) (A : Nat → Prop) (P : List Nat → (Nat → va_E) → Int32 → Prop) : Array Value → State → Outcome → State → Prop := va_Qi (S := fr_U) (fun r u => P u.1 u.2 r) (fun u t => wI D A u.1 u.2 t.heap) A
def fr_Ql (D : va_G) (A : Nat → Prop) (P : List Nat → (Nat → va_E) → Int64 → Prop) : Array Value → State → Outcome → State → Prop := va_Ql (S := fr_U) (fun r u => P u.1 u.2 r) (fun u t => wI D A u.1 u.2 t.heap) A
def fr_Qr (D : va_G) (A : Nat → Prop) (P : List Nat → (Nat → va_E) → Nat → Prop) : Array Value → State → Outcome → State → Prop := va_Qr (S := fr_U) (fun _ => True) (fun u a t => wI D A u.1 u.2 t.heap ∧ P u.1 u.2 a) A
/-- what a method that makes cells does to the old ones -/
def wX (L : List Nat) (f : Nat → va_E) (L1 : List Nat) (f1 : Nat → va_E) : Prop := ∀ b ∈ L, b ∈ L1 ∧ f1 b = f b
theorem wX.rf {L : List Nat} {f : Nat → va_E} : wX L f L f := fun _ hb => ⟨hb, rfl⟩
theorem wX.tr {L L1 L2 : List Nat} {f f1 f2 : Nat → va_E} (h : wX L f L1 f1) (h2 : wX L1 f1 L2 f2) : wX L f L2 f2 := fun b hb => ⟨(h2 b (h b hb).1).1, (h2 b (h b hb).1).2.trans (h b hb).2⟩
theorem wX.v {L L1 : List Nat} {f f1 : Nat → va_E} (h : wX L f L1 f1) {a : Nat} {e : va_E} (ha : a ∈ L) (hf : f a = e) : f1 a = e := (h a ha).2.trans hf
theorem wX.m {L L1 : List Nat} {f f1 : Nat → va_E} (h : wX L f L1 f1) {a : Nat} (ha : a ∈ L) : a ∈ L1 := (h a ha).1
section FRC
variable {p : Program} {l : Launch} {e : Env} {R : Room} {s : State} {m : MethodId} {args : Array Value} {below : List Frame} {meth : Method} {c : Code} {H : Heap} {locs : List Loc} {cells slots : Nat} {Q : State → Prop}
variable {D : va_G} {k : fr_k} {A : Nat → Prop} {L : List Nat} {f : Nat → va_E} {H0 : Heap} {cc bytes : ByteArray} {pc nL maxL n index mc ms : Nat} {ls : Array Slot} {rest st As : List Value} {own C host : String} {Ts ws : List Cond} {rm : Room} {y : MethodName} {ret : Option FieldType} {w0 : va_W} {b ci : Nat} {fs : List Value} {q : vw_C} {r : Value}
/-- calls of methods that only read -/
theorem fr_rV (S : CallFix p m c cc nL s args Ts own) (hM : Met l y ws rm (fr_R D k (.ref b :: As) w0) (k2_QcV r) 0 0 (fun _ => False)) (cw : CallW R s args own C index y bytes maxL ret ws rm 0 0 n) (hK : fr_K D k s) (hP : va_P D vwCl w0 H) (hc : vwCl[ci]? = some q) (he : w0[0]? = some (b, .inr (ci, fs))) (hC : q.1 = C)
    (hn : As.length = n) (hsz : ls.size = nL) (hst : st = As.reverse ++ .ref b :: rest) (hW : (rest.map fun v => v.category).sum ≤ 8) (hdg : decode cc pc = .ok (.invokevirtual index, 3)) (hf : cells ≤ R.cells ∧ slots ≤ R.slots)
    (kk : W p l e R s m args below meth c H locs cells slots Q (F0 m (pc + 3) ls (r :: rest))) : W p l e R s m args below meth c H locs cells slots Q (F0 m pc ls st) := by
  subst hC
  exact W.callV (W.runV S hM cw ⟨fr_R.blind, va_recv hK.1 hP hc he, fun U hU hW => ⟨rfl, by rw [hU]; exact hP, hK.warm hW⟩⟩ rfl hn hsz hst (lv_room hW) hdg hf) kk
theorem fr_rS (S : CallFix p m c cc nL s args Ts own) (hM : Met l y ws rm (fr_R D k As w0) (k2_QcV r) 0 0 (fun _ => False)) (cw : CallB R s args own index y bytes maxL ret ws rm 0 0 n ∧ (Cond.static y).before args s = true) (hK : fr_K D k s) (hP : va_P D vwCl w0 H)
    (hn : As.length = n) (hsz : ls.size = nL) (hst : st = As.reverse ++ rest) (hW : (rest.map fun v => v.category).sum ≤ 8) (hdg : decode cc pc = .ok (.invokestatic index, 3)) (hf : cells ≤ R.cells ∧ slots ≤ R.slots)
    (kk : W p l e R s m args below meth c H locs cells slots Q (F0 m (pc + 3) ls (r :: rest))) : W p l e R s m args below meth c H locs cells slots Q (F0 m pc ls st) :=
  W.callV (W.runS S hM cw ⟨fr_R.blind, fun U hU hW => ⟨rfl, by rw [hU]; exact hP, hK.warm hW⟩⟩ rfl hn hsz hst (lv_room hW) hdg hf) kk
theorem fr_rSv (S : CallFix p m c cc nL s args Ts own) (hM : Met l y ws rm (fr_R D k As w0) (va_Sv (fun _ => True)) 0 0 (fun _ => False)) (cw : CallB R s args own index y bytes maxL ret ws rm 0 0 n ∧ (Cond.static y).before args s = true) (hK : fr_K D k s) (hP : va_P D vwCl w0 H)
    (hn : As.length = n) (hsz : ls.size = nL) (hst : st = As.reverse ++ rest) (hW : (rest.map fun v => v.category).sum ≤ 8) (hdg : decode cc pc = .ok (.invokestatic index, 3)) (hf : cells ≤ R.cells ∧ slots ≤ R.slots)
    (kk : W p l e R s m args below meth c H locs cells slots Q (F0 m (pc + 3) ls rest)) : W p l e R s m args below meth c H locs cells slots Q (F0 m pc ls st) :=
  va_csv (W.runS S hM cw ⟨fr_R.blind, fun U hU hW => ⟨rfl, by rw [hU]; exact hP, hK.warm hW⟩⟩ rfl hn hsz hst (lv_room hW) hdg hf) (fun _ => kk)
variable {Qc : Array Value → State → Outcome → State → Prop}
/-- runs of methods that write or make -/
theorem fr_runV (S : CallFix p m c cc nL s args Ts own) (hM : Met l y ws rm (fr_W D k A (.ref b :: As) H.size L f) Qc mc ms A) (cw : CallW R s args own C index y bytes maxL ret ws rm mc ms n) (hK : fr_K D k s) (hI : wI D A L f H) (hb : b ∈ L) (he : f b = .inr (ci, fs)) (hc : vwCl[ci]? = some q) (hC : q.1 = C)
    (hn : As.length = n) (hsz : ls.size = nL) (hst : st = As.reverse ++ .ref b :: rest) (hW : (rest.map fun v => v.category).sum ≤ 8) (hdg : decode cc pc = .ok (.invokevirtual index, 3)) (hf : cells + mc ≤ R.cells ∧ slots + ms ≤ R.slots) :
    va_Run p l e R s m args below meth c H locs cells slots mc ms (F0 m pc ls st) rest (Qc (Value.ref b :: As).toArray) A := by
  subst hC
  exact va_runV S hM cw ⟨fr_W.blind, va_recv hK.1 (hI.in hb he) hc (q0 := 0) rfl, fun U hU hW => ⟨rfl, ⟨by rw [hU], by rw [hU]; exact hI⟩, hK.warm hW⟩⟩ rfl hn hsz hst (lv_room hW) hdg hf
theorem fr_runS (S : CallFix p m c cc nL s args Ts own) (hM : Met l y ws rm (fr_W D k A As H.size L f) Qc mc ms A) (cw : CallB R s args own index y bytes maxL ret ws rm mc ms n ∧ (Cond.static y).before args s = true) (hK : fr_K D k s) (hI : wI D A L f H)
    (hn : As.length = n) (hsz : ls.size = nL) (hst : st = As.reverse ++ rest) (hW : (rest.map fun v => v.category).sum ≤ 8) (hdg : decode cc pc = .ok (.invokestatic index, 3)) (hf : cells + mc ≤ R.cells ∧ slots + ms ≤ R.slots) :
    va_Run p l e R s m args below meth c H locs cells slots mc ms (F0 m pc ls st) rest (Qc As.toArray) A :=
  va_runS S hM cw ⟨fr_W.blind, fun U hU hW => ⟨rfl, ⟨by rw [hU], by rw [hU]; exact hI⟩, hK.warm hW⟩⟩ rfl hn hsz hst (lv_room hW) hdg hf
theorem fr_runI (S : CallFix p m c cc nL s args Ts own) (hM : Met l y ws rm (fr_W D k A (.ref b :: As) H.size L f) Qc mc ms A) (cw : CallB R s args own index y bytes maxL none ws rm mc ms n ∧ y.name = "<init>" ∧ (Cond.instanceMethod y).before args s = true) (hK : fr_K D k s) (hI : wI D A L f H)
    (hn : As.length = n) (hsz : ls.size = nL) (hst : st = As.reverse ++ .ref b :: rest) (hW : (rest.map fun v => v.category).sum ≤ 8) (hdg : decode cc pc = .ok (.invokespecial index, 3)) (hf : cells + mc ≤ R.cells ∧ slots + ms ≤ R.slots) :
    va_Run p l e R s m args below meth c H locs cells slots mc ms (F0 m pc ls st) rest (Qc (Value.ref b :: As).toArray) A :=
  va_runI S hM cw ⟨fr_W.blind, fun U hU hW => ⟨rfl, ⟨by rw [hU], by rw [hU]; exact hI⟩, hK.warm hW⟩⟩ rfl hn hsz hst (lv_room hW) hdg hf
theorem fr_runIN (S : CallFix p m c cc nL s args Ts own) (hM : Met l y ws rm (fr_W D k A (.ref b :: As) H.size L f) Qc mc ms A) (cw : va_CN R s args own index y host bytes maxL none ws rm mc ms n ∧ y.name = "<init>" ∧ (Cond.instanceMethod y).before args s = true) (hK : fr_K D k s) (hI : wI D A L f H)
    (hn : As.length = n) (hsz : ls.size = nL) (hst : st = As.reverse ++ .ref b :: rest) (hW : (rest.map fun v => v.category).sum ≤ 8) (hdg : decode cc pc = .ok (.invokespecial index, 3)) (hf : cells + mc ≤ R.cells ∧ slots + ms ≤ R.slots) :
    va_Run p l e R s m args below meth c H locs cells slots mc ms (F0 m pc ls st) rest (Qc (Value.ref b :: As).toArray) A :=
  va_runIN S hM cw ⟨fr_W.blind, fun U hU hW => ⟨rfl, ⟨by rw [hU], by rw [hU]; exact hI⟩, hK.warm hW⟩⟩ rfl hn hsz hst (lv_room hW) hdg hf
variable {a : Array Value}
/-- behind such a call -/
theorem fr_cv {P : List Nat → (Nat → va_E) → Prop} (hr : va_Run p l e R s m args below meth c H locs cells slots mc ms (F0 m pc ls st) rest (fr_Qv D A P a) A) (hS : va_S A H0 H locs)
    (kk : ∀ (L1 : List Nat) (f1 : Nat → va_E) (H1 : Heap) (locs1 : List Loc), wI D A L1 f1 H1 → P L1 f1 → va_S A H0 H1 locs1 → W p l e R s m args below meth c H1 locs1 (cells + mc) (slots + ms) Q (F0 m (pc + 3) ls rest)) : W p l e R s m args below meth c H locs cells slots Q (F0 m pc ls st) :=
  va_callv hr hS (fun _ _ h => h) (fun _ h => h) (fun u t H1 locs1 ht _ hp hB _ _ hS => kk u.1 u.2 H1 locs1 (by rw [← ht]; exact hB) hp hS)
theorem fr_ci {P : List Nat → (Nat → va_E) → Int32 → Prop} (hr : va_Run p l e R s m args below meth c H locs cells slots mc ms (F0 m pc ls st) rest (fr_Qi D A P a) A) (hS : va_S A H0 H locs)
    (kk : ∀ (r : Int32) (L1 : List Nat) (f1 : Nat → va_E) (H1 : Heap) (locs1 : List Loc), wI D A L1 f1 H1 → P L1 f1 r → va_S A H0 H1 locs1 → W p l e R s m args below meth c H1 locs1 (cells + mc) (slots + ms) Q (F0 m (pc + 3) ls (.int r :: rest))) : W p l e R s m args below meth c H locs cells slots Q (F0 m pc ls st) :=
  va_calli hr hS (fun _ _ h => h) (fun _ h => h) (fun r u t H1 locs1 ht _ hp hB _ _ hS => kk r u.1 u.2 H1 locs1 (by rw [← ht]; exact hB) hp hS)
theorem fr_cl {P : List Nat → (Nat → va_E) → Int64 → Prop} (hr : va_Run p l e R s m args below meth c H locs cells slots mc ms (F0 m pc ls st) rest (fr_Ql D A P a) A) (hS : va_S A H0 H locs)
    (kk : ∀ (r : Int64) (L1 : List Nat) (f1 : Nat → va_E) (H1 : Heap) (locs1 : List Loc), wI D A L1 f1 H1 → P L1 f1 r → va_S A H0 H1 locs1 → W p l e R s m args below meth c H1 locs1 (cells + mc) (slots + ms) Q (F0 m (pc + 3) ls (.long r :: rest))) : W p l e R s m args below meth c H locs cells slots Q (F0 m pc ls st) :=
  va_calll hr hS (fun _ _ h => h) (fun _ h => h) (fun r u t H1 locs1 ht _ hp hB _ _ hS => kk r u.1 u.2 H1 locs1 (by rw [← ht]; exact hB) hp hS)
theorem fr_cr {P : List Nat → (Nat → va_E) → Nat → Prop} (hr : va_Run p l e R s m args below meth c H locs cells slots mc ms (F0 m pc ls st) rest (fr_Qr D A P a) A) (hS : va_S A H0 H locs)
    (kk : ∀ (r : Nat) (L1 : List Nat) (f1 : Nat → va_E) (H1 : Heap) (locs1 : List Loc), wI D A L1 f1 H1 → P L1 f1 r → va_S A H0 H1 locs1 → W p l e R s m args below meth c H1 locs1 (cells + mc) (slots + ms) Q (F0 m (pc + 3) ls (.ref r :: rest))) : W p l e R s m args below meth c H locs cells slots Q (F0 m pc ls st) :=
  va_callr hr hS (fun _ _ h => h) (fun _ h => h) (fun u r t H1 locs1 ht _ _ hB _ _ hS => kk r u.1 u.2 H1 locs1 (by rw [← ht]; exact hB.1) hB.2 hS)
/-- ends of a method that writes or makes -/
theorem fr_vret {P : List Nat → (Nat → va_E) → Prop} (hx : p.tables.exec = Jvm.exec) (hb : c.code = cc) (hr : meth.sig.returnType = none) (hlocks : meth.locks = false) (hI : wI D A L f H) (hP : P L f) (hS : va_S A s.heap H locs) (h1 : cells ≤ mc) (h2 : slots ≤ ms) (hdg : decode cc pc = .ok (.return_, 1)) : W p l e R s m args below meth c H locs cells slots (MQ below (fr_Qv D A P) args s mc ms A) (F0 m pc ls []) :=
  W.widen h1 h2 (W.vret hx hb hr (fun t ht hW => ⟨⟨(L, f), rfl, hP, by show wI D A L f t.heap; rw [ht]; exact hI⟩, hS.F ht⟩) hS.2.2 hdg hlocks)
theorem fr_iret {P : List Nat → (Nat → va_E) → Int32 → Prop} {v : Int32} (hx : p.tables.exec = Jvm.exec) (hb : c.code = cc) (hr : meth.sig.returnType = some .int) (hlocks : meth.locks = false) (hI : wI D A L f H) (hP : P L f v) (hS : va_S A s.heap H locs) (h1 : cells ≤ mc) (h2 : slots ≤ ms) (hdg : decode cc pc = .ok (.ireturn, 1)) : W p l e R s m args below meth c H locs cells slots (MQ below (fr_Qi D A P) args s mc ms A) (F0 m pc ls [.int v]) :=
  W.widen h1 h2 (W.iret (v := v) hx hb hr (fun t ht hW => ⟨⟨v, (L, f), rfl, hP, by show wI D A L f t.heap; rw [ht]; exact hI⟩, hS.F ht⟩) hS.2.2 hdg hlocks)
theorem fr_zret {P : List Nat → (Nat → va_E) → Int32 → Prop} {v : Int32} (hx : p.tables.exec = Jvm.exec) (hb : c.code = cc) (hr : meth.sig.returnType = some .boolean) (hlocks : meth.locks = false) (hv : v = 0 ∨ v = 1) (hI : wI D A L f H) (hP : P L f v) (hS : va_S A s.heap H locs) (h1 : cells ≤ mc) (h2 : slots ≤ ms) (hdg : decode cc pc = .ok (.ireturn, 1)) : W p l e R s m args below meth c H locs cells slots (MQ below (fr_Qi D A P) args s mc ms A) (F0 m pc ls [.int v]) :=
  W.widen h1 h2 (W.zret (v := v) hx hb hr (by rcases hv with rfl | rfl <;> rfl) (fun t ht hW => ⟨⟨v, (L, f), rfl, hP, by show wI D A L f t.heap; rw [ht]; exact hI⟩, hS.F ht⟩) hS.2.2 hdg hlocks)
theorem fr_lret {P : List Nat → (Nat → va_E) → Int64 → Prop} {v : Int64} (hx : p.tables.exec = Jvm.exec) (hb : c.code = cc) (hr : meth.sig.returnType = some .long) (hlocks : meth.locks = false) (hI : wI D A L f H) (hP : P L f v) (hS : va_S A s.heap H locs) (h1 : cells ≤ mc) (h2 : slots ≤ ms) (hdg : decode cc pc = .ok (.lreturn, 1)) : W p l e R s m args below meth c H locs cells slots (MQ below (fr_Ql D A P) args s mc ms A) (F0 m pc ls [.long v]) :=
  W.widen h1 h2 (W.lret (v := v) hx hb hr (fun t ht hW => ⟨⟨v, (L, f), rfl, hP, by show wI D A L f t.heap; rw [ht]; exact hI⟩, hS.F ht⟩) hS.2.2 hdg hlocks)
theorem fr_aret {P : List Nat → (Nat → va_E) → Nat → Prop} {v : Nat} {rt : FieldType} (hx : p.tables.exec = Jvm.exec) (hb : c.code = cc) (hr : meth.sig.returnType = some rt) (hrt : (∃ n, rt = .object n) ∨ ∃ t, rt = .array t) (hlocks : meth.locks = false) (hI : wI D A L f H) (hP : P L f v) (hS : va_S A s.heap H locs) (h1 : cells ≤ mc) (h2 : slots ≤ ms) (hdg : decode cc pc = .ok (.areturn, 1)) : W p l e R s m args below meth c H locs cells slots (MQ below (fr_Qr D A P) args s mc ms A) (F0 m pc ls [.ref v]) :=
  W.widen h1 h2 (W.aret hx hb hr hrt (Or.inr ⟨v, rfl⟩) (fun t ht hW => ⟨⟨(L, f), v, rfl, trivial, by show wI D A L f t.heap; rw [ht]; exact hI, hP⟩, hS.F ht⟩) hS.2.2 hdg hlocks)
/-- ends of a method that only reads -/
theorem fr_riret {v v' : Int32} (hx : p.tables.exec = Jvm.exec) (hb : c.code = cc) (hr : meth.sig.returnType = some .int) (hlocks : meth.locks = false) (hdg : decode cc pc = .ok (.ireturn, 1)) (hv : v = v') : W p l e R s m args below meth c s.heap [] 0 0 (MQ below (k2_QcV (.int v')) args s 0 0 (fun _ => False)) (F0 m pc ls [.int v]) := by
  subst hv
  exact W.iret (v := v) hx hb hr (fun t ht hW => ⟨rfl, ht⟩) (fun q h => by cases h) hdg hlocks
theorem fr_rzret {v v' : Int32} (hx : p.tables.exec = Jvm.exec) (hb : c.code = cc) (hr : meth.sig.returnType = some .boolean) (hlocks : meth.locks = false) (hdg : decode cc pc = .ok (.ireturn, 1)) (hz : v = 0 ∨ v = 1) (hv : v = v') : W p l e R s m args below meth c s.heap [] 0 0 (MQ below (k2_QcV (.int v')) args s 0 0 (fun _ => False)) (F0 m pc ls [.int v]) := by
  subst hv
  exact W.zret (v := v) hx hb hr (by rcases hz with rfl | rfl <;> rfl) (fun t ht hW => ⟨rfl, ht⟩) (fun q h => by cases h) hdg hlocks
theorem fr_rlret {v v' : Int64} (hx : p.tables.exec = Jvm.exec) (hb : c.code = cc) (hr : meth.sig.returnType = some .long) (hlocks : meth.locks = false) (hdg : decode cc pc = .ok (.lreturn, 1)) (hv : v = v') : W p l e R s m args below meth c s.heap [] 0 0 (MQ below (k2_QcV (.long v')) args s 0 0 (fun _ => False)) (F0 m pc ls [.long v]) := by
  subst hv
  exact W.lret (v := v) hx hb hr (fun t ht hW => ⟨rfl, ht⟩) (fun q h => by cases h) hdg hlocks
theorem fr_rvret (hx : p.tables.exec = Jvm.exec) (hb : c.code = cc) (hr : meth.sig.returnType = none) (hlocks : meth.locks = false) (hdg : decode cc pc = .ok (.return_, 1)) : W p l e R s m args below meth c s.heap [] 0 0 (MQ below (va_Sv (fun _ => True)) args s 0 0 (fun _ => False)) (F0 m pc ls []) :=
  W.vret hx hb hr (fun t ht hW => ⟨rfl, trivial, ht⟩) (fun q h => by cases h) hdg hlocks
end FRC
end
section
/-! rows of the machine over the world (L, f) -/
set_option maxRecDepth 100000
section FRR
variable {p : Program} {l : Launch} {e : Env} {R : Room} {s : State} {m : MethodId} {args : Array Value} {below : List Frame} {meth : Method} {c : Code} {H : Heap} {locs : List Loc} {cells slots : Nat} {Q : State → Prop}
variable {D : va_G} {k : fr_k} {A : Nat → Prop} {L : List Nat} {f : Nat → va_E} {H0 : Heap} {cc : ByteArray} {pc : Nat} {ls : Array Slot} {rest : List Value} {a : Nat}
/-- getfield, of an object told by a fact of the heap -/
theorem fr_get (hx : p.tables.exec = Jvm.exec) (hb : c.code = cc) {own C : String} {T : u_T} {N ci index : Nat} (hts : ∀ w ∈ lw_all, w.before args s = true) (hin : ∀ w ∈ u_ws C T N, w ∈ lw_all) (hown : s.vm.findClass own = some m.cls) (hK : fr_K D k s) {fs : List Value} (hP : va_P D vwCl [(a, .inr (ci, fs))] H) (hc : vwCl[ci]? = some (C, T, N)) (j : Nat) (hj : j < N) {v : Value} (hlink : Cond.fieldLink own index (T j).1 (T j).2.1 (T j).2.2.1 ∈ lw_all) (hv : fs[j]? = some v) (hdg : decode cc pc = .ok (.getfield index, 3))
    (kk : W p l e R s m args below meth c H locs cells slots Q (F0 m (pc + 3) ls (v :: rest))) : W p l e R s m args below meth c H locs cells slots Q (F0 m pc ls (.ref a :: rest)) :=
  va_get (D := D) (ci := ci) (v := v) (C := C) (T := T) (N := N) hx hb hts hin hown hK.1 hP 0 rfl hc j hj (hts _ hlink) (fun _ h9 => h9) hv hdg kk
/-- putfield -/
theorem fr_put (hx : p.tables.exec = Jvm.exec) (hb : c.code = cc) {own C : String} {T : u_T} {N ci index : Nat} (hts : ∀ w ∈ lw_all, w.before args s = true) (hin : ∀ w ∈ u_ws C T N, w ∈ lw_all) (ty0 : Nat → FieldType) (hty : ∀ k, k < N → parseFieldDescriptor (T k).2.2.1 = some (ty0 k)) (hnm : ∀ a, a < N → ∀ b, b < N → a ≠ b → (T a).2.1 ≠ (T b).2.1) (hown : s.vm.findClass own = some m.cls) (hK : fr_K D k s) (hI : wI D A L f H) (hS : va_S A H0 H locs) {fs : List Value} (ha : a ∈ L) (hf : f a = .inr (ci, fs)) (hc : vwCl[ci]? = some (C, T, N)) (j : Nat) (hj : j < N) (hlink : Cond.fieldLink own index (T j).1 (T j).2.1 (T j).2.2.1 ∈ lw_all) (hfin : (T j).2.2.2 = false) {v : Value} (hn : narrow (ty0 j) v = v) (hfit : fits (ty0 j) v = true) (hl : j < fs.length) (hdg : decode cc pc = .ok (.putfield index, 3))
    (kk : ∀ (H1 : Heap) (locs1 : List Loc) (f1 : Nat → va_E), f1 a = .inr (ci, fs.set j v) → (∀ b, b ≠ a → f1 b = f b) → wI D A L f1 H1 → va_S A H0 H1 locs1 → W p l e R s m args below meth c H1 locs1 cells slots Q (F0 m (pc + 3) ls rest)) : W p l e R s m args below meth c H locs cells slots Q (F0 m pc ls (v :: .ref a :: rest)) := by
  obtain ⟨i, hi⟩ := va_pl_get (X := []) (f := f) ha
  have hi2 : (va_pl L f)[i]? = some (a, .inr (ci, fs)) := by rw [← hf]; exact hi
  refine va_put (D := D) (ci := ci) (v := v) (ty := ty0 j) (C := C) (T := T) (N := N) hx hb hts hin ty0 hty hnm hown hK.1 hI.1 hI.2 hS i hi2 hc j hj (hts _ hlink) (fun _ h9 => h9) hfin (hty j hj) hn hfit hl hdg (fun H1 locs1 hP hD hS1 => ?_)
  obtain ⟨f1, e1, e2, e3⟩ := fr_set hI ha hi hP hD
  exact kk H1 locs1 f1 e1 e2 e3 hS1
/-- putfield of a final field, in a constructor -/
theorem fr_putF (hx : p.tables.exec = Jvm.exec) (hb : c.code = cc) {own C : String} {T : u_T} {N ci index : Nat} (hts : ∀ w ∈ lw_all, w.before args s = true) (hin : ∀ w ∈ u_ws C T N, w ∈ lw_all) (ty0 : Nat → FieldType) (hty : ∀ k, k < N → parseFieldDescriptor (T k).2.2.1 = some (ty0 k)) (hnm : ∀ a, a < N → ∀ b, b < N → a ≠ b → (T a).2.1 ≠ (T b).2.1) (hown : s.vm.findClass own = some m.cls) (hK : fr_K D k s) (hI : wI D A L f H) (hS : va_S A H0 H locs) {fs : List Value} (ha : a ∈ L) (hf : f a = .inr (ci, fs)) (hc : vwCl[ci]? = some (C, T, N)) (j : Nat) (hj : j < N) (hlink : Cond.fieldLink own index (T j).1 (T j).2.1 (T j).2.2.1 ∈ lw_all) (hfin : (T j).2.2.2 = true) (hin2 : meth.name = "<init>") (hdecl : (T j).1 = own) {v : Value} (hn : narrow (ty0 j) v = v) (hfit : fits (ty0 j) v = true) (hl : j < fs.length) (hdg : decode cc pc = .ok (.putfield index, 3))
    (kk : ∀ (H1 : Heap) (locs1 : List Loc) (f1 : Nat → va_E), f1 a = .inr (ci, fs.set j v) → (∀ b, b ≠ a → f1 b = f b) → wI D A L f1 H1 → va_S A H0 H1 locs1 → W p l e R s m args below meth c H1 locs1 cells slots Q (F0 m (pc + 3) ls rest)) : W p l e R s m args below meth c H locs cells slots Q (F0 m pc ls (v :: .ref a :: rest)) := by
  obtain ⟨i, hi⟩ := va_pl_get (X := []) (f := f) ha
  have hi2 : (va_pl L f)[i]? = some (a, .inr (ci, fs)) := by rw [← hf]; exact hi
  refine va_putF (D := D) (ci := ci) (v := v) (ty := ty0 j) (C := C) (T := T) (N := N) hx hb hts hin ty0 hty hnm hown hK.1 hI.1 hI.2 hS i hi2 hc j hj (hts _ hlink) (fun _ h9 => h9) hfin hin2 hdecl (hty j hj) hn hfit hl hdg (fun H1 locs1 hP hD hS1 => ?_)
  obtain ⟨f1, e1, e2, e3⟩ := fr_set hI ha hi hP hD
  exact kk H1 locs1 f1 e1 e2 e3 hS1
/-- new -/
theorem fr_new (hx : p.tables.exec = Jvm.exec) (hb : c.code = cc) {own C : String} {T : u_T} {N ci index : Nat} (hts : ∀ w ∈ lw_all, w.before args s = true) (hin : ∀ w ∈ u_ws C T N, w ∈ lw_all) (ty0 : Nat → FieldType) (hty : ∀ k, k < N → parseFieldDescriptor (T k).2.2.1 = some (ty0 k)) (hown : s.vm.findClass own = some m.cls) (hcl : Cond.classLink own index C ∈ lw_all) (hinst : Cond.instantiable C N ∈ lw_all) (hini : Cond.initialized C ∈ lw_all) (hK : fr_K D k s) (hI : wI D A L f H) (hS : va_S A H0 H locs) (hA : ∀ q, H0.size ≤ q → A q) (hc : vwCl[ci]? = some (C, T, N)) {fs : List Value} (hfs : ∀ j, j < N → defaultValue (ty0 j) = vp_V fs j) (hcells : cells + 1 ≤ R.cells) (hslots : slots + N ≤ R.slots) (hdg : decode cc pc = .ok (.new index, 3))
    (kk : ∀ (q : Nat) (H1 : Heap) (L1 : List Nat) (f1 : Nat → va_E), q ∉ L → q ∈ L1 → f1 q = .inr (ci, fs) → wX L f L1 f1 → wI D A L1 f1 H1 → va_S A H0 H1 locs → W p l e R s m args below meth c H1 locs (cells + 1) (slots + N) Q (F0 m (pc + 3) ls (.ref q :: rest))) : W p l e R s m args below meth c H locs cells slots Q (F0 m pc ls rest) := by
  refine va_new (D := D) (ci := ci) (fs := fs) (C := C) (T := T) (N := N) hx hb hts hin ty0 hty hown (hts _ hcl) (hts _ hinst) (hts _ hini) hK.1 hI.1 hI.2 hS hA hc hfs hcells hslots hdg (fun q H1 hP hD hS1 => ?_)
  obtain ⟨h1, L1, f1, h2, h3, h4, h5⟩ := fr_push hP hD
  exact kk q H1 L1 f1 h1 h2 h3 h4 h5 hS1
/-- a new array of longs -/
theorem fr_newl (hx : p.tables.exec = Jvm.exec) (hb : c.code = cc) (hts : ∀ w ∈ lw_all, w.before args s = true) (hK : fr_K D k s) (hI : wI D A L f H) (hS : va_S A H0 H locs) (hA : ∀ q, H0.size ≤ q → A q) {n : Int32} {N : Nat} (hn : n = nI N) (hN : N < 65536) (hcells : cells + 1 ≤ R.cells) (hslots : slots + N ≤ R.slots) (hdg : decode cc pc = .ok (.newarray .long, 2))
    (kk : ∀ (q : Nat) (H1 : Heap) (L1 : List Nat) (f1 : Nat → va_E), q ∉ L → q ∈ L1 → f1 q = fL k N (fun _ => 0) → wX L f L1 f1 → wI D A L1 f1 H1 → va_S A H0 H1 locs → W p l e R s m args below meth c H1 locs (cells + 1) (slots + N) Q (F0 m (pc + 2) ls (.ref q :: rest))) : W p l e R s m args below meth c H locs cells slots Q (F0 m pc ls (.int n :: rest)) := by
  subst hn
  refine va_newa (atype := .long) (ty := .long) (D := D) (N' := N) (a0 := (N, .inr (.inl fun _ => 0))) hx hb (hts _ q117) rfl hK.1 hI.1 hI.2 hS hA (fun _ => rfl) (nI_pos (by omega)) (nI_clamp (by omega)) (by show N * 8 ≤ 536870912; omega) hcells hslots hdg (fun q cA H1 hK1 hP hD hS1 => ?_)
  have r1 : s.vm.findClass "[J" = some cA := va_nm_long (hK1.2 3 (cA, .long) rfl).2
  have r0 : s.vm.findClass "[J" = some k.1.1 := va_nm_long (hK.1.2 0 (k.1.1, .long) rfl).2
  have e1 : cA = k.1.1 := Option.some.inj (r1.symm.trans r0)
  subst e1
  obtain ⟨h1, L1, f1, h2, h3, h4, h5⟩ := fr_push hP hD
  exact kk q H1 L1 f1 h1 h2 h3 h4 h5 hS1
/-- an array of longs: read -/
theorem fr_lald (hx : p.tables.exec = Jvm.exec) (hb : c.code = cc) (hK : fr_K D k s) {n : Nat} {v : Nat → Int64} (hP : va_P D vwCl [(a, fL k n v)] H) {i : Int32} {j : Nat} (hi : i = nI j) (hj : j < n) (hn : n < 65536) (hdg : decode cc pc = .ok (.laload, 1))
    (kk : W p l e R s m args below meth c H locs cells slots Q (F0 m (pc + 1) ls (.long (v j) :: rest))) : W p l e R s m args below meth c H locs cells slots Q (F0 m pc ls (.int i :: .ref a :: rest)) := by
  subst hi
  refine va_lald hx hb hK.1 hP 0 0 rfl rfl (vp_in_nI hj (by omega)) hdg ?_
  rw [nI_clamp (show j < 2 ^ 31 by omega)]
  exact kk
theorem fr_alen (hx : p.tables.exec = Jvm.exec) (hb : c.code = cc) (hK : fr_K D k s) {n : Nat} {v : Nat → Int64} (hP : va_P D vwCl [(a, fL k n v)] H) (hdg : decode cc pc = .ok (.arraylength, 1))
    (kk : W p l e R s m args below meth c H locs cells slots Q (F0 m (pc + 1) ls (.int (nI n) :: rest))) : W p l e R s m args below meth c H locs cells slots Q (F0 m pc ls (.ref a :: rest)) :=
  va_alen (v := nI n) hx hb hK.1 hP 0 0 rfl rfl rfl hdg kk
/-- an array of longs: write -/
theorem fr_last (hx : p.tables.exec = Jvm.exec) (hb : c.code = cc) (hK : fr_K D k s) (hI : wI D A L f H) (hS : va_S A H0 H locs) {n : Nat} {v : Nat → Int64} (ha : a ∈ L) (hf : f a = fL k n v) {i : Int32} {j : Nat} {x : Int64} (hi : i = nI j) (hj : j < n) (hn : n < 65536) (hdg : decode cc pc = .ok (.lastore, 1))
    (kk : ∀ (H1 : Heap) (locs1 : List Loc) (f1 : Nat → va_E), f1 a = fL k n (vp_updL v j x) → (∀ b, b ≠ a → f1 b = f b) → wI D A L f1 H1 → va_S A H0 H1 locs1 → W p l e R s m args below meth c H1 locs1 cells slots Q (F0 m (pc + 1) ls rest)) : W p l e R s m args below meth c H locs cells slots Q (F0 m pc ls (.long x :: .int i :: .ref a :: rest)) := by
  subst hi
  obtain ⟨i, hi⟩ := va_pl_get (X := []) (f := f) ha
  have hi2 : (va_pl L f)[i]? = some (a, fL k n v) := by rw [← hf]; exact hi
  refine va_last hx hb hK.1 hI.1 hI.2 hS i 0 hi2 rfl (vp_in_nI hj (by omega)) hdg (fun H1 locs1 hP hD hS1 => ?_)
  rw [nI_clamp (show j < 2 ^ 31 by omega)] at hP hD
  obtain ⟨f1, e1, e2, e3⟩ := fr_set hI ha hi hP hD
  exact kk H1 locs1 f1 e1 e2 e3 hS1
/-- the rows' array: read -/
theorem fr_aldq (hx : p.tables.exec = Jvm.exec) (hb : c.code = cc) (hK : fr_K D k s) {n : Nat} {g : Nat → Option Nat} (hP : va_P D vwCl [(a, fQ k n g)] H) {i : Int32} {j z : Nat} (hi : i = nI j) (hj : j < n) (hn : n < 65536) (hz : g j = some z) (hdg : decode cc pc = .ok (.aaload, 1))
    (kk : W p l e R s m args below meth c H locs cells slots Q (F0 m (pc + 1) ls (.ref z :: rest))) : W p l e R s m args below meth c H locs cells slots Q (F0 m pc ls (.int i :: .ref a :: rest)) := by
  subst hi
  refine va_aldq (C := "ImmutableLongArray") hx hb hK.1 hP 0 1 rfl rfl (vp_in_nI hj (by omega)) hdg ?_
  rw [nI_clamp (show j < 2 ^ 31 by omega), hz]
  exact kk
theorem fr_aldg (hx : p.tables.exec = Jvm.exec) (hb : c.code = cc) (hK : fr_K D k s) {n : Nat} {g : Nat → Option Nat} (hP : va_P D vwCl [(a, fG k n g)] H) {i : Int32} {j z : Nat} (hi : i = nI j) (hj : j < n) (hn : n < 65536) (hz : g j = some z) (hdg : decode cc pc = .ok (.aaload, 1))
    (kk : W p l e R s m args below meth c H locs cells slots Q (F0 m (pc + 1) ls (.ref z :: rest))) : W p l e R s m args below meth c H locs cells slots Q (F0 m pc ls (.int i :: .ref a :: rest)) := by
  subst hi
  have hc : (nI j).toNatClampNeg = j := nI_clamp (show j < 2 ^ 31 by omega)
  exact W.aald (v := .ref z) (ty := .array .long) hx hb (hP 0 _ rfl) ((hK.1.2 2 _ rfl).1 n (fun j => va_rf (g j))) rfl (fun q => by cases q) (by show ¬ (nI j < 0 ∨ (arrV k.1.2.2 n (fun j => va_rf (g j))).slots.size ≤ (nI j).toNatClampNeg); rw [arrV_size]; exact vp_in_nI hj (by omega)) (by show (arrV _ _ _).slots[_]? = _; rw [hc, arrV_read _ _ hj, hz]; rfl) rfl rfl hdg kk
/-- the rows' array: write -/
theorem fr_astq (hx : p.tables.exec = Jvm.exec) (hb : c.code = cc) (hK : fr_K D k s) (hI : wI D A L f H) (hS : va_S A H0 H locs) {n : Nat} {g : Nat → Option Nat} (ha : a ∈ L) (hf : f a = fQ k n g) {z : Nat} {fs : List Value} (hzL : z ∈ L) (hz : f z = fO 1 fs) {i : Int32} {j : Nat} (hi : i = nI j) (hj : j < n) (hn : n < 65536) (hdg : decode cc pc = .ok (.aastore, 1))
    (kk : ∀ (H1 : Heap) (locs1 : List Loc) (f1 : Nat → va_E), f1 a = fQ k n (va_up g j (some z)) → (∀ b, b ≠ a → f1 b = f b) → wI D A L f1 H1 → va_S A H0 H1 locs1 → W p l e R s m args below meth c H1 locs1 cells slots Q (F0 m (pc + 1) ls rest)) : W p l e R s m args below meth c H locs cells slots Q (F0 m pc ls (.ref z :: .int i :: .ref a :: rest)) := by
  subst hi
  obtain ⟨i, hi⟩ := va_pl_get (X := []) (f := f) ha
  obtain ⟨i2, hi2⟩ := va_pl_get (X := []) (f := f) hzL
  have hi' : (va_pl L f)[i]? = some (a, fQ k n g) := by rw [← hf]; exact hi
  have hi2' : (va_pl L f)[i2]? = some (z, fO 1 fs) := by rw [← hz]; exact hi2
  refine va_astq (ci := 1) (r := (RX1, TX1, 3)) hx hb hK.1 hI.1 hI.2 hS i 1 i2 hi' rfl hi2' rfl (vp_in_nI hj (by omega)) hdg (fun H1 locs1 hP hD hS1 => ?_)
  rw [nI_clamp (show j < 2 ^ 31 by omega)] at hP hD
  obtain ⟨f1, e1, e2, e3⟩ := fr_set hI ha hi hP hD
  exact kk H1 locs1 f1 e1 e2 e3 hS1
theorem fr_astg (hx : p.tables.exec = Jvm.exec) (hb : c.code = cc) (hK : fr_K D k s) (hI : wI D A L f H) (hS : va_S A H0 H locs) {n : Nat} {g : Nat → Option Nat} (ha : a ∈ L) (hf : f a = fG k n g) {z n2 : Nat} {v2 : Nat → Int64} (hzL : z ∈ L) (hz : f z = fL k n2 v2) {i : Int32} {j : Nat} (hi : i = nI j) (hj : j < n) (hn : n < 65536) (hdg : decode cc pc = .ok (.aastore, 1))
    (kk : ∀ (H1 : Heap) (locs1 : List Loc) (f1 : Nat → va_E), f1 a = fG k n (va_up g j (some z)) → (∀ b, b ≠ a → f1 b = f b) → wI D A L f1 H1 → va_S A H0 H1 locs1 → W p l e R s m args below meth c H1 locs1 cells slots Q (F0 m (pc + 1) ls rest)) : W p l e R s m args below meth c H locs cells slots Q (F0 m pc ls (.ref z :: .int i :: .ref a :: rest)) := by
  subst hi
  have hc : (nI j).toNatClampNeg = j := nI_clamp (show j < 2 ^ 31 by omega)
  obtain ⟨i, hi⟩ := va_pl_get (X := []) (f := f) ha
  have hi' : (va_pl L f)[i]? = some (a, fG k n g) := by rw [← hf]; exact hi
  have hcell := hI.1 i _ hi'
  have hzc := hI.in hzL hz 0 _ rfl
  obtain ⟨comp, cG, kA, k1, -, k2, k3, k4⟩ := arrayOverA_spec (over_moved (a' := args) (Vm.Alike.refl _) hK.2.2.1)
  have hcG : cG = k.1.2.2 := Option.some.inj (k4.symm.trans (hK.1.2 2 _ rfl).2)
  subst hcG
  have hcomp : comp = k.1.1 := Option.some.inj (k1.symm.trans (hK.1.2 0 _ rfl).2)
  subst hcomp
  obtain ⟨-, kL, k5, -⟩ := (hK.1.2 0 (k.1.1, .long) rfl).1 0 (fun _ => .null)
  refine W.aast hx hb hcell (fun q h => by cases h) (fun h => by cases h) k2 k3 rfl k5 ⟨nI_pos (by omega), by show _ < (arrV _ _ _).slots.size; rw [arrV_size, hc]; exact hj⟩ hzc (fun q h => by cases h) k5 (va_asg _ _) rfl rfl hdg fun H1 e1 z1 oq => ?_
  have hP : va_P D vwCl ((va_pl L f).set i (a, fG k n (va_up g j (some z)))) H1 := hI.1.set hI.2 hi' (by
    show H1[a]? = some (vp_cell _ _)
    rw [e1, hc]
    rw [vp_cell_q, vp_cell_q, arrV_store]
    congr 2
    funext q
    by_cases hq : q = j
    · subst hq
      simp [updV, va_up, va_rf]
    · simp [updV, va_up, hq]) oq
  obtain ⟨f1, g1, g2, g3⟩ := fr_set hI ha hi hP (hI.2.set hi')
  exact kk H1 _ f1 g1 g2 g3 (hS.put z1 oq (hI.own ha))
/-- anewarray of the two kinds -/
theorem fr_newq (hx : p.tables.exec = Jvm.exec) (hb : c.code = cc) {own : String} {index : Nat} (hts : ∀ w ∈ lw_all, w.before args s = true) (hown : s.vm.findClass own = some m.cls) (hcl : Cond.classLink own index "ImmutableLongArray" ∈ lw_all) (hK : fr_K D k s) (hI : wI D A L f H) (hS : va_S A H0 H locs) (hA : ∀ q, H0.size ≤ q → A q) {n : Int32} {N : Nat} (hn : n = nI N) (hN : N < 65536) (hcells : cells + 1 ≤ R.cells) (hslots : slots + N ≤ R.slots) (hdg : decode cc pc = .ok (.anewarray index, 3))
    (kk : ∀ (q : Nat) (H1 : Heap) (L1 : List Nat) (f1 : Nat → va_E), q ∉ L → q ∈ L1 → f1 q = fQ k N (fun _ => none) → wX L f L1 f1 → wI D A L1 f1 H1 → va_S A H0 H1 locs → W p l e R s m args below meth c H1 locs (cells + 1) (slots + N) Q (F0 m (pc + 3) ls (.ref q :: rest))) : W p l e R s m args below meth c H locs cells slots Q (F0 m pc ls (.int n :: rest)) := by
  subst hn
  refine va_newq (C := "ImmutableLongArray") (D := D) (N' := N) hx hb hown (hts _ hcl) hK.2.1 hK.1 hI.1 hI.2 hS hA (nI_pos (by omega)) (nI_clamp (by omega)) (by omega) hcells hslots hdg (fun q cA H1 hK1 hP hD hS1 => ?_)
  obtain ⟨-, -, -, -, -, r1⟩ := (hK1.2 3 (cA, .object "ImmutableLongArray") rfl).2
  obtain ⟨-, -, -, -, -, r0⟩ := (hK.1.2 1 (k.1.2.1, .object "ImmutableLongArray") rfl).2
  have e1 : cA = k.1.2.1 := Option.some.inj (r1.symm.trans r0)
  subst e1
  obtain ⟨h1, L1, f1, h2, h3, h4, h5⟩ := fr_push hP hD
  exact kk q H1 L1 f1 h1 h2 h3 h4 h5 hS1
theorem fr_newg (hx : p.tables.exec = Jvm.exec) (hb : c.code = cc) {own : String} {index : Nat} (hts : ∀ w ∈ lw_all, w.before args s = true) (hown : s.vm.findClass own = some m.cls) (hcl : Cond.classLink own index "[J" ∈ lw_all) (hK : fr_K D k s) (hI : wI D A L f H) (hS : va_S A H0 H locs) (hA : ∀ q, H0.size ≤ q → A q) {n : Int32} {N : Nat} (hn : n = nI N) (hN : N < 65536) (hcells : cells + 1 ≤ R.cells) (hslots : slots + N ≤ R.slots) (hdg : decode cc pc = .ok (.anewarray index, 3))
    (kk : ∀ (q : Nat) (H1 : Heap) (L1 : List Nat) (f1 : Nat → va_E), q ∉ L → q ∈ L1 → f1 q = fG k N (fun _ => none) → wX L f L1 f1 → wI D A L1 f1 H1 → va_S A H0 H1 locs → W p l e R s m args below meth c H1 locs (cells + 1) (slots + N) Q (F0 m (pc + 3) ls (.ref q :: rest))) : W p l e R s m args below meth c H locs cells slots Q (F0 m pc ls (.int n :: rest)) := by
  subst hn
  have hc : (nI N).toNatClampNeg = N := nI_clamp (show N < 2 ^ 31 by omega)
  have hnm : (FieldType.array .long).toString = "[J" := by decide +kernel
  refine W.anewA (t := .long) hx hb hown (by rw [hnm]; exact hts _ hcl) (over_moved (a' := args) (Vm.Alike.refl _) hK.2.2.1) rfl hdg rfl (nI_pos (by omega)) (by rw [hc]; omega) hcells (by rw [hc]; exact hslots) fun cA kA comp f1 f2 f3 f4 => ?_
  rw [hc]
  have e1 : cA = k.1.2.2 := Option.some.inj (f1.symm.trans (hK.1.2 2 _ rfl).2)
  subst e1
  generalize hH1 : H.push ({ cls := k.1.2.2, slots := Array.replicate N .null, vm := .none } : Cell) = H1
  have z1 : H1.size = H.size + 1 := by rw [← hH1, Array.size_push]
  have c1 : H1[H.size]? = some (arrV k.1.2.2 N (fun _ => .null)) := by rw [← hH1, Array.getElem?_push_size, ← arrV_new]
  have o1 : ∀ q : Nat, q < H.size → H1[q]? = H[q]? := fun q hq => by rw [← hH1, Array.getElem?_push, if_neg (Nat.ne_of_lt hq)]
  have hk : ∀ (j : Nat) (x : Nat × va_E), (va_pl L f)[j]? = some x → H1[x.1]? = H[x.1]? := fun j x hx => o1 x.1 ((hI.1 j x hx).lt)
  have hP1 : va_P D vwCl [(H.size, fG k N (fun _ => none))] H1 := fr_one (show H1[H.size]? = some (vp_cell _ _) by rw [vp_cell_q]; exact c1)
  obtain ⟨h1, L1, g1, h2, h3, h4, h5⟩ := fr_push ((hI.1.kept hk).app hP1) (hI.2.push hI.1 rfl (hA _ hS.1))
  exact kk H.size H1 L1 g1 h1 h2 h3 h4 h5 ⟨Nat.le_trans hS.1 (by omega), fun x h1 h2 => (o1 x (Nat.lt_of_lt_of_le h1 hS.1)).trans (hS.2.1 x h1 h2), hS.2.2⟩
/-- System.arraycopy of longs -/
theorem fr_copyl (hx : p.tables.exec = Jvm.exec) (hb : c.code = cc) (hml : c.maxLocals = ls.size) {own : String} {index : Nat} (hts : ∀ w ∈ lw_all, w.before args s = true) (hown : s.vm.findClass own = some m.cls) (hlink : Cond.methodLink own index arraycopyName ∈ lw_all) (hK : fr_K D k s) (hI : wI D A L f H) (hS : va_S A H0 H locs) {a0 n0 n1 : Nat} {v0 v1 : Nat → Int64} (h0 : a0 ∈ L) (hf0 : f a0 = fL k n0 v0) (ha : a ∈ L) (hf : f a = fL k n1 v1) {isp idp iN : Int32} {sp dp n : Nat} (e1 : isp = nI sp) (e2 : idp = nI dp) (e3 : iN = nI n) (h4 : sp + n ≤ n0) (h5 : dp + n ≤ n1) (hn0 : n0 < 65536) (hn1 : n1 < 65536) (hframes : 1 ≤ R.frames) (hlocals : (rest.map fun v => v.category).sum + 18 ≤ R.locals) (hdg : decode cc pc = .ok (.invokestatic index, 3))
    (kk : ∀ (H1 : Heap) (locs1 : List Loc) (f1 : Nat → va_E), f1 a = fL k n1 (va_cpy v0 v1 sp dp n) → (∀ b, b ≠ a → f1 b = f b) → wI D A L f1 H1 → va_S A H0 H1 locs1 → W p l e R s m args below meth c H1 locs1 cells slots Q (F0 m (pc + 3) ls rest)) : W p l e R s m args below meth c H locs cells slots Q (F0 m pc ls (.int iN :: .int idp :: .ref a :: .int isp :: .ref a0 :: rest)) := by
  subst e1 e2 e3
  obtain ⟨i, hi⟩ := va_pl_get (X := []) (f := f) ha
  obtain ⟨i0, hi0⟩ := va_pl_get (X := []) (f := f) h0
  have hi' : (va_pl L f)[i]? = some (a, fL k n1 v1) := by rw [← hf]; exact hi
  have hi0' : (va_pl L f)[i0]? = some (a0, fL k n0 v0) := by rw [← hf0]; exact hi0
  have c1 : (nI sp).toNatClampNeg = sp := nI_clamp (show sp < 2 ^ 31 by omega)
  have c2 : (nI dp).toNatClampNeg = dp := nI_clamp (show dp < 2 ^ 31 by omega)
  have c3 : (nI n).toNatClampNeg = n := nI_clamp (show n < 2 ^ 31 by omega)
  refine va_copyl (ty := .long) hx hb hml hown (hts _ hlink) (hts _ q213) (hts _ q212) (hts _ q18) hK.1 hI.1 hI.2 hS i0 i 0 0 hi0' hi' rfl rfl rfl (nI_pos (by omega)) (nI_pos (by omega)) (nI_pos (by omega)) (by rw [c1, c3]; exact h4) (by rw [c2, c3]; exact h5) (fun _ _ => rfl) hframes hlocals hdg (fun H1 locs1 hP hD hS1 => ?_)
  rw [c1, c2, c3] at hP hD
  obtain ⟨f1, g1, g2, g3⟩ := fr_set hI ha hi hP hD
  exact kk H1 locs1 f1 g1 g2 g3 hS1
/-- clone() of an array of longs -/
theorem fr_clone (hx : p.tables.exec = Jvm.exec) (hb : c.code = cc) (hml : c.maxLocals = ls.size) {own : String} {index : Nat} (hts : ∀ w ∈ lw_all, w.before args s = true) (hown : s.vm.findClass own = some m.cls) (hlink : Cond.methodLink own index ⟨"[J", "clone", "()Ljava/lang/Object;"⟩ ∈ lw_all) (hK : fr_K D k s) (hI : wI D A L f H) (hS : va_S A H0 H locs) (hA : ∀ q, H0.size ≤ q → A q) {N : Nat} {v : Nat → Int64} (ha : a ∈ L) (hf : f a = fL k N v) (hframes : 1 ≤ R.frames) (hlocals : (rest.map fun v => v.category).sum + 14 ≤ R.locals) (hcells : cells + 1 ≤ R.cells) (hslots : slots + N ≤ R.slots) (hdg : decode cc pc = .ok (.invokevirtual index, 3))
    (kk : ∀ (q : Nat) (H1 : Heap) (L1 : List Nat) (f1 : Nat → va_E), q ∉ L → q ∈ L1 → f1 q = fL k N v → wX L f L1 f1 → wI D A L1 f1 H1 → va_S A H0 H1 locs → W p l e R s m args below meth c H1 locs (cells + 1) (slots + N) Q (F0 m (pc + 3) ls (.ref q :: rest))) : W p l e R s m args below meth c H locs cells slots Q (F0 m pc ls (.ref a :: rest)) := by
  obtain ⟨i, hi⟩ := va_pl_get (X := []) (f := f) ha
  have hi' : (va_pl L f)[i]? = some (a, fL k N v) := by rw [← hf]; exact hi
  refine va_clone (ad := "[J") (ty := .long) hx hb hml hown (hts _ hlink) (hts _ q202) (hts _ q203) (hts _ q204) (hts _ q205) hK.2.2.2.1 hK.1 hI.1 hI.2 hS hA i 0 hi' rfl (va_nm_long (hK.1.2 0 _ rfl).2) (va_fit (fun _ _ => rfl)) hframes hlocals hcells hslots hdg (fun q H1 _ hP hD hS1 => ?_)
  obtain ⟨h1, L1, f1, h2, h3, h4, h5⟩ := fr_push hP hD
  exact kk q H1 L1 f1 h1 h2 h3 h4 h5 hS1
/-- checkcast to long[] -/
theorem fr_castl (hx : p.tables.exec = Jvm.exec) (hb : c.code = cc) {own : String} {index : Nat} (hts : ∀ w ∈ lw_all, w.before args s = true) (hown : s.vm.findClass own = some m.cls) (hlink : Cond.classLink own index "[J" ∈ lw_all) (hK : fr_K D k s) {N : Nat} {v : Nat → Int64} (hP : va_P D vwCl [(a, fL k N v)] H) (hdg : decode cc pc = .ok (.checkcast index, 3))
    (kk : W p l e R s m args below meth c H locs cells slots Q (F0 m (pc + 3) ls (.ref a :: rest))) : W p l e R s m args below meth c H locs cells slots Q (F0 m pc ls (.ref a :: rest)) :=
  va_castA (nm := "[J") hx hb hown (hts _ hlink) hP 0 rfl (va_nm_long (hK.1.2 0 _ rfl).2) hdg kk
/-- a computed number, by another name -/
theorem fr_topi {x y : Int32} (h : x = y) (kk : W p l e R s m args below meth c H locs cells slots Q (F0 m pc ls (.int y :: rest))) : W p l e R s m args below meth c H locs cells slots Q (F0 m pc ls (.int x :: rest)) := h ▸ kk
theorem fr_topl {x y : Int64} (h : x = y) (kk : W p l e R s m args below meth c H locs cells slots Q (F0 m pc ls (.long y :: rest))) : W p l e R s m args below meth c H locs cells slots Q (F0 m pc ls (.long x :: rest)) := h ▸ kk
end FRR
end
section
/-! what the methods compute, in plain words -/
set_option maxRecDepth 100000
abbrev fr_rm (n cl sl : Nat) : Room := { frames := n + 1, cells := cl, slots := sl, locals := 60 + 40 * n }
/-- two ints as a long -/
def fr_J (hi lo : Int32) : Int64 := (hi.toInt64 <<< ((32 : Int32).toInt64 &&& 63)) ||| (lo.toInt64 &&& 4294967295)
/-- a long's hash -/
def fr_h (v : Int64) : Int32 := (v ^^^ (v.toUInt64 >>> ((32 : Int32).toInt64.toUInt64 &&& Int64.toUInt64 63)).toInt64).toInt32
/-- the first place from i on, of j places, that holds v -/
def fr_ff (z : Nat → Int64) (v : Int64) : Nat → Nat → Int32
  | 0, _ => -1
  | j + 1, i => if z i = v then nI i else fr_ff z v j (i + 1)
/-- the last place below j that holds v -/
def fr_fl (z : Nat → Int64) (v : Int64) : Nat → Int32
  | 0 => -1
  | j + 1 => if z j = v then nI j else fr_fl z v j
def fr_hs (z : Nat → Int64) : Nat → Int32
  | 0 => 1
  | j + 1 => fr_hs z j * 31 + fr_h (z j)
def fr_wh (z : Nat → Int64) : Nat → Int64
  | 0 => 0
  | j + 1 => fr_wh z j * 31 + z j
def fr_eqb (z y : Nat → Int64) : Nat → Nat → Int32
  | 0, _ => 1
  | j + 1, i => if z i = y i then fr_eqb z y j (i + 1) else 0
def fr_ct (r : Int32) : Int32 := if r < 0 then 0 else 1
theorem fr_ff_congr {z y : Nat → Int64} {v : Int64} : ∀ (j i : Nat), (∀ t, t < i + j → z t = y t) → fr_ff z v j i = fr_ff y v j i
  | 0, _, _ => rfl
  | j + 1, i, h => by
    show (if z i = v then nI i else fr_ff z v j (i + 1)) = (if y i = v then nI i else fr_ff y v j (i + 1))
    rw [h i (by omega), fr_ff_congr j (i + 1) (fun t ht => h t (by omega))]
theorem fr_fl_congr {z y : Nat → Int64} {v : Int64} : ∀ (j : Nat), (∀ t, t < j → z t = y t) → fr_fl z v j = fr_fl y v j
  | 0, _ => rfl
  | j + 1, h => by
    show (if z j = v then nI j else fr_fl z v j) = (if y j = v then nI j else fr_fl y v j)
    rw [h j (by omega), fr_fl_congr j (fun t ht => h t (by omega))]
theorem fr_hs_congr {z y : Nat → Int64} : ∀ (j : Nat), (∀ t, t < j → z t = y t) → fr_hs z j = fr_hs y j
  | 0, _ => rfl
  | j + 1, h => by
    show fr_hs z j * 31 + fr_h (z j) = fr_hs y j * 31 + fr_h (y j)
    rw [h j (by omega), fr_hs_congr j (fun t ht => h t (by omega))]
theorem fr_wh_congr {z y : Nat → Int64} : ∀ (j : Nat), (∀ t, t < j → z t = y t) → fr_wh z j = fr_wh y j
  | 0, _ => rfl
  | j + 1, h => by
    show fr_wh z j * 31 + z j = fr_wh y j * 31 + y j
    rw [h j (by omega), fr_wh_congr j (fun t ht => h t (by omega))]
theorem fr_eqb_congr {z y z' y' : Nat → Int64} : ∀ (j i : Nat), (∀ t, t < i + j → z t = z' t) → (∀ t, t < i + j → y t = y' t) → fr_eqb z y j i = fr_eqb z' y' j i
  | 0, _, _, _ => rfl
  | j + 1, i, h, g => by
    show (if z i = y i then fr_eqb z y j (i + 1) else 0) = (if z' i = y' i then fr_eqb z' y' j (i + 1) else 0)
    rw [h i (by omega), g i (by omega), fr_eqb_congr j (i + 1) (fun t ht => h t (by omega)) (fun t ht => g t (by omega))]
theorem fr_eqb_self {z : Nat → Int64} : ∀ (j i : Nat), fr_eqb z z j i = 1
  | 0, _ => rfl
  | j + 1, i => by
    show (if z i = z i then fr_eqb z z j (i + 1) else 0) = 1
    rw [if_pos rfl, fr_eqb_self j (i + 1)]
theorem fr_ff_t {z : Nat → Int64} {v : Int64} {j i : Nat} (h : z i = v) : fr_ff z v (j + 1) i = nI i := if_pos h
theorem fr_ff_f {z : Nat → Int64} {v : Int64} {j i : Nat} (h : ¬ z i = v) : fr_ff z v (j + 1) i = fr_ff z v j (i + 1) := if_neg h
theorem fr_fl_t {z : Nat → Int64} {v : Int64} {j : Nat} (h : z j = v) : fr_fl z v (j + 1) = nI j := if_pos h
theorem fr_fl_f {z : Nat → Int64} {v : Int64} {j : Nat} (h : ¬ z j = v) : fr_fl z v (j + 1) = fr_fl z v j := if_neg h
theorem fr_eqb_t {z y : Nat → Int64} {j i : Nat} (h : z i = y i) : fr_eqb z y (j + 1) i = fr_eqb z y j (i + 1) := if_pos h
theorem fr_eqb_f {z y : Nat → Int64} {j i : Nat} (h : ¬ z i = y i) : fr_eqb z y (j + 1) i = 0 := if_neg h
theorem fr_eqb_01 {z y : Nat → Int64} : ∀ (j i : Nat), fr_eqb z y j i = 0 ∨ fr_eqb z y j i = 1
  | 0, _ => Or.inr rfl
  | j + 1, i => by
    by_cases h : z i = y i
    · rw [fr_eqb_t h]; exact fr_eqb_01 j (i + 1)
    · rw [fr_eqb_f h]; exact Or.inl rfl
theorem fr_ct_01 (r : Int32) : fr_ct r = 0 ∨ fr_ct r = 1 := by
  unfold fr_ct
  by_cases h : r < 0
  · rw [if_pos h]; exact Or.inl rfl
  · rw [if_neg h]; exact Or.inr rfl
theorem fr_len (st n : Nat) : nI (st + n) - nI st = nI n := by
  rw [pk_sub (Nat.le_add_right st n), Nat.add_sub_cancel_left]
theorem fr_dec (v : Int32) : v + Int32.ofInt (-1) = v - 1 := by
  rw [litm1, Int32.sub_eq_add_neg]
theorem fr_m1lt {t : Nat} (h : t < 65536) : nI t - 1 < nI t := by
  have h1 : (nI t - nI 1).toInt = (t : Int) - (1 : Nat) := pk_sub_toInt (by omega) (by omega)
  have h2 : (nI t).toInt = (t : Int) := nI_toInt (by omega)
  rw [Int32.lt_iff_toInt_lt, h2]
  show (nI t - nI 1).toInt < _
  rw [h1]
  omega
/-- the words of a joined pair, as the reference has them -/
theorem fr_Jm (hi lo : Int32) : hi.toInt64 * 4294967296 + (if lo < 0 then lo.toInt64 + 4294967296 else lo.toInt64) = fr_J hi lo := by
  have e0 : ((32 : Int32).toInt64 &&& 63) = 32 := by decide
  have e1 : (hi.toInt64 <<< (32 : Int64)).toBitVec = hi.toInt64.toBitVec <<< 32 := by
    show hi.toInt64.toBitVec <<< ((32 : Int64).toBitVec.smod 64) = _
    rw [show (32 : Int64).toBitVec.smod 64 = 32#64 by decide]
    rfl
  have e2 : hi.toInt64 * 4294967296 = hi.toInt64 <<< (32 : Int64) := by
    apply Int64.toBitVec_inj.mp
    rw [e1, Int64.toBitVec_mul, BitVec.shiftLeft_eq_mul_twoPow]
    rfl
  have e3 : (if lo < 0 then lo.toInt64 + 4294967296 else lo.toInt64) = (lo.toInt64 &&& 4294967295) := by
    apply Int64.toBitVec_inj.mp
    apply BitVec.eq_of_toNat_eq
    have hn : lo.toInt64.toBitVec = lo.toBitVec.signExtend 64 := rfl
    rw [Int64.toBitVec_and, BitVec.toNat_and]
    rw [show (4294967295 : Int64).toBitVec.toNat = 2 ^ 32 - 1 from rfl, Nat.and_two_pow_sub_one_eq_mod]
    by_cases h : lo < 0
    · rw [if_pos h, Int64.toBitVec_add, BitVec.toNat_add]
      rw [show (4294967296 : Int64).toBitVec.toNat = 2 ^ 32 from rfl, hn]
      have hm : lo.toBitVec.msb = true := by
        have := Int32.lt_iff_toInt_lt.mp h
        rw [BitVec.msb_eq_toInt]
        simpa using this
      rw [BitVec.toNat_signExtend, hm]
      have := lo.toBitVec.isLt
      simp only [BitVec.toNat_setWidth, if_true]
      omega
    · rw [if_neg h, hn]
      have hm : lo.toBitVec.msb = false := by
        have := Int32.not_lt.mp h
        have := Int32.le_iff_toInt_le.mp this
        rw [BitVec.msb_eq_toInt]
        simpa using this
      rw [BitVec.toNat_signExtend, hm]
      have := lo.toBitVec.isLt
      simp only [BitVec.toNat_setWidth, Bool.false_eq_true, if_false]
      omega
  rw [e3, e2]
  unfold fr_J
  rw [e0]
  apply Int64.toBitVec_inj.mp
  rw [Int64.toBitVec_add, Int64.toBitVec_or]
  apply BitVec.add_eq_or_of_and_eq_zero
  rw [e1, Int64.toBitVec_and]
  apply BitVec.eq_of_getLsbD_eq
  intro i hi'
  simp only [BitVec.getLsbD_and, BitVec.getLsbD_shiftLeft, BitVec.getLsbD_zero]
  by_cases h : i < 32
  · simp [h]
  · have : (4294967295 : Int64).toBitVec.getLsbD i = false := by
      show (4294967295#64).getLsbD i = false
      rw [show (4294967295#64) = BitVec.ofNat 64 (2 ^ 32 - 1) from rfl, BitVec.getLsbD_ofNat]
      rw [Nat.testBit_two_pow_sub_one]
      simp [h]
    rw [this]
    simp
/-- leading zeros of a number of eight bits, road by road -/
def fr_nz (n : Nat) : Int32 := nI (31 - n.log2)
theorem fr_nz1 : ∀ n, n < 256 → 0 < n → nI n < 16 → nI n < 4 → (31 : Int32) - nI (n / 2) = fr_nz n := by decide +kernel
theorem fr_nz2 : ∀ n, n < 256 → 0 < n → nI n < 16 → ¬ nI n < 4 → (29 : Int32) - nI (n / 4 / 2) = fr_nz n := by decide +kernel
theorem fr_nz3 : ∀ n, n < 256 → 0 < n → ¬ nI n < 16 → nI (n / 16) < 4 → (27 : Int32) - nI (n / 16 / 2) = fr_nz n := by decide +kernel
theorem fr_nz4 : ∀ n, n < 256 → 0 < n → ¬ nI n < 16 → ¬ nI (n / 16) < 4 → (25 : Int32) - nI (n / 16 / 4 / 2) = fr_nz n := by decide +kernel
theorem fr_hob : ∀ n, n < 256 → 0 < n → (nI n &&& (((-2147483648 : Int32).toUInt32 >>> ((fr_nz n).toUInt32 &&& Int32.toUInt32 31)).toInt32)) = nI (2 ^ n.log2) := by decide +kernel
theorem fr_hob2 : ∀ n, n < 256 → 0 < n → (nI (2 ^ n.log2) <<< ((1 : Int32) &&& 31)) = nI (2 * 2 ^ n.log2) := by decide +kernel
theorem fr_hob3 : ∀ n, n < 256 → 0 < n → n < 2 * 2 ^ n.log2 ∧ 2 * 2 ^ n.log2 ≤ 2 * n := by decide +kernel
/-- what the maker's array grows to -/
def fr_cap (cap m : Nat) : Nat := if cap + cap / 2 + 1 < m then 2 * 2 ^ (m - 1).log2 else cap + cap / 2 + 1
theorem fr_cap_ok {cap m : Nat} (h : cap < m) (hm : m ≤ 96) : m ≤ fr_cap cap m ∧ fr_cap cap m ≤ 200 := by
  unfold fr_cap
  by_cases c : cap + cap / 2 + 1 < m
  · rw [if_pos c]
    have := fr_hob3 (m - 1) (by omega) (by omega)
    omega
  · rw [if_neg c]
    omega
end
section
set_option maxRecDepth 100000
set_option maxHeartbeats 4000000 in
set_option maxRecDepth 100000 in
/-- length(): the end less the start -/
theorem metX1_length (l : Launch) (D : va_G) (k : fr_k) (r a st n : Nat) : Met l yX1_length (ws_ yX1_length cX1_length 1 (some .int)) (fr_rm 0 0 0) (fr_R D k [.ref r] [(r, fO 1 [.ref a, .int (nI st), .int (nI (st + n))])]) (k2_QcV (.int (nI n))) 0 0 (fun _ => False) := by
  refine Met.ofW (cc := cX1_length) (maxL := 1) (ret := (some .int)) (by decide) rfl ?_
  intro p e s m args below meth c s₁ B hml hv
  obtain ⟨rfl, hP, hK⟩ := hv
  have hx := B.exec
  have hb := B.bytes
  have hr := B.returns
  have hts := atoms_spec (ws := ws_ yX1_length cX1_length 1 (some .int)) B.pre
  have hts : ∀ w ∈ lw_all, w.before _ s = true := fun w h => hts w (List.mem_cons_of_mem _ h)
  have hown : s.vm.findClass RX1 = some m.cls := findClass_of_methodNamed B.named
  have hlocks := B.notSynchronized
  have hP0 := hP.sub (ws' := [(r, fO 1 [.ref a, .int (nI st), .int (nI (st + n))])]) [0] rfl
  have hl := lv_entry ([.ref r]) (n := 1) (Nat.le_of_ble_eq_true rfl)
  rw [lg_entry_eq]
  generalize (lg_sl ([.ref r]) ++ List.replicate (1 - (lg_sl ([.ref r])).length) Slot.unset).toArray = ls at hl ⊢
  have hl : lv_has ls 1 [(0, .ref r)] := hl
  refine lv_aload_n hx hb dX1_length_0 rfl (lv_at hl 0 rfl) ?_
  refine fr_get (C := RX1) (T := TX1) (N := 3) (ci := 1) (v := .int (nI (st + n))) hx hb hts in_X1 hown hK hP0 rfl 2 (by decide) q136 rfl dX1_length_1 ?_
  refine lv_aload_n hx hb dX1_length_4 rfl (lv_at hl 0 rfl) ?_
  refine fr_get (C := RX1) (T := TX1) (N := 3) (ci := 1) (v := .int (nI st)) hx hb hts in_X1 hown hK hP0 rfl 1 (by decide) q135 rfl dX1_length_5 ?_
  refine lv_isub hx hb dX1_length_8 ?_
  exact fr_riret hx hb hr hlocks dX1_length_9 (fr_len st n)
set_option maxHeartbeats 4000000 in
set_option maxRecDepth 100000 in
/-- isEmpty() -/
theorem metX1_isEmpty (l : Launch) (D : va_G) (k : fr_k) (r a st n : Nat) (h1 : st + n < 65536) : Met l yX1_isEmpty (ws_ yX1_isEmpty cX1_isEmpty 1 (some .boolean)) (fr_rm 0 0 0) (fr_R D k [.ref r] [(r, fO 1 [.ref a, .int (nI st), .int (nI (st + n))])]) (k2_QcV (.int (if n = 0 then 1 else 0))) 0 0 (fun _ => False) := by
  refine Met.ofW (cc := cX1_isEmpty) (maxL := 1) (ret := (some .boolean)) (by decide) rfl ?_
  intro p e s m args below meth c s₁ B hml hv
  obtain ⟨rfl, hP, hK⟩ := hv
  have hx := B.exec
  have hb := B.bytes
  have hr := B.returns
  have hts := atoms_spec (ws := ws_ yX1_isEmpty cX1_isEmpty 1 (some .boolean)) B.pre
  have hts : ∀ w ∈ lw_all, w.before _ s = true := fun w h => hts w (List.mem_cons_of_mem _ h)
  have hown : s.vm.findClass RX1 = some m.cls := findClass_of_methodNamed B.named
  have hlocks := B.notSynchronized
  have hP0 := hP.sub (ws' := [(r, fO 1 [.ref a, .int (nI st), .int (nI (st + n))])]) [0] rfl
  have hl := lv_entry ([.ref r]) (n := 1) (Nat.le_of_ble_eq_true rfl)
  rw [lg_entry_eq]
  generalize (lg_sl ([.ref r]) ++ List.replicate (1 - (lg_sl ([.ref r])).length) Slot.unset).toArray = ls at hl ⊢
  have hl : lv_has ls 1 [(0, .ref r)] := hl
  refine lv_aload_n hx hb dX1_isEmpty_0 rfl (lv_at hl 0 rfl) ?_
  refine fr_get (C := RX1) (T := TX1) (N := 3) (ci := 1) (v := .int (nI (st + n))) hx hb hts in_X1 hown hK hP0 rfl 2 (by decide) q136 rfl dX1_isEmpty_1 ?_
  refine lv_aload_n hx hb dX1_isEmpty_4 rfl (lv_at hl 0 rfl) ?_
  refine fr_get (C := RX1) (T := TX1) (N := 3) (ci := 1) (v := .int (nI st)) hx hb hts in_X1 hown hK hP0 rfl 1 (by decide) q135 rfl dX1_isEmpty_5 ?_
  refine lv_icmp_ne (tgt := 15) hx hb dX1_isEmpty_8 (by decide) (fun c_1 => ?_) (fun c_1 => ?_)
  · refine lv_iconst (v := 0) hx hb dX1_isEmpty_15 (by decide) ?_
    have hn : ¬ n = 0 := fun h => c_1 ((nI_eq (by omega) (by omega)).mpr (by omega))
    exact fr_rzret hx hb hr hlocks dX1_isEmpty_16 (Or.inl rfl) ((if_neg hn).symm)
  · refine lv_iconst (v := 1) hx hb dX1_isEmpty_11 (by decide) ?_
    refine lv_goto (tgt := 16) hx hb dX1_isEmpty_12 (by decide) ?_
    have hn : n = 0 := by have := (nI_eq (by omega) (by omega)).mp c_1; omega
    exact fr_rzret hx hb hr hlocks dX1_isEmpty_16 (Or.inr rfl) ((if_pos hn).symm)
set_option maxHeartbeats 4000000 in
set_option maxRecDepth 100000 in
/-- isPartialView() -/
theorem metX1_isPartialView (l : Launch) (D : va_G) (k : fr_k) (r a st n cap : Nat) (v : Nat → Int64) (h1 : st + n ≤ cap) (h2 : cap ≤ 200) : Met l yX1_isPartialView (ws_ yX1_isPartialView cX1_isPartialView 1 (some .boolean)) (fr_rm 0 0 0) (fr_R D k [.ref r] [(r, fO 1 [.ref a, .int (nI st), .int (nI (st + n))]), (a, fL k cap v)]) (k2_QcV (.int (if 0 < st ∨ st + n < cap then 1 else 0))) 0 0 (fun _ => False) := by
  refine Met.ofW (cc := cX1_isPartialView) (maxL := 1) (ret := (some .boolean)) (by decide) rfl ?_
  intro p e s m args below meth c s₁ B hml hv
  obtain ⟨rfl, hP, hK⟩ := hv
  have hx := B.exec
  have hb := B.bytes
  have hr := B.returns
  have hts := atoms_spec (ws := ws_ yX1_isPartialView cX1_isPartialView 1 (some .boolean)) B.pre
  have hts : ∀ w ∈ lw_all, w.before _ s = true := fun w h => hts w (List.mem_cons_of_mem _ h)
  have hown : s.vm.findClass RX1 = some m.cls := findClass_of_methodNamed B.named
  have hlocks := B.notSynchronized
  have hP0 := hP.sub (ws' := [(r, fO 1 [.ref a, .int (nI st), .int (nI (st + n))])]) [0] rfl
  have hP1 := hP.sub (ws' := [(a, fL k cap v)]) [1] rfl
  have hl := lv_entry ([.ref r]) (n := 1) (Nat.le_of_ble_eq_true rfl)
  rw [lg_entry_eq]
  generalize (lg_sl ([.ref r]) ++ List.replicate (1 - (lg_sl ([.ref r])).length) Slot.unset).toArray = ls at hl ⊢
  have hl : lv_has ls 1 [(0, .ref r)] := hl
  refine lv_aload_n hx hb dX1_isPartialView_0 rfl (lv_at hl 0 rfl) ?_
  refine fr_get (C := RX1) (T := TX1) (N := 3) (ci := 1) (v := .int (nI st)) hx hb hts in_X1 hown hK hP0 rfl 1 (by decide) q135 rfl dX1_isPartialView_1 ?_
  refine lv_if_gt (tgt := 19) hx hb dX1_isPartialView_4 (by decide) (fun c_1 => ?_) (fun c_1 => ?_)
  · refine lv_iconst (v := 1) hx hb dX1_isPartialView_19 (by decide) ?_
    refine lv_goto (tgt := 24) hx hb dX1_isPartialView_20 (by decide) ?_
    have hn : 0 < st := by have := (nI_ltI (a := 0) (b := st) (by omega) (by omega)).mp c_1; omega
    exact fr_rzret hx hb hr hlocks dX1_isPartialView_24 (Or.inr rfl) ((if_pos (Or.inl hn)).symm)
  · refine lv_aload_n hx hb dX1_isPartialView_7 rfl (lv_at hl 0 rfl) ?_
    refine fr_get (C := RX1) (T := TX1) (N := 3) (ci := 1) (v := .int (nI (st + n))) hx hb hts in_X1 hown hK hP0 rfl 2 (by decide) q136 rfl dX1_isPartialView_8 ?_
    refine lv_aload_n hx hb dX1_isPartialView_11 rfl (lv_at hl 0 rfl) ?_
    refine fr_get (C := RX1) (T := TX1) (N := 3) (ci := 1) (v := .ref a) hx hb hts in_X1 hown hK hP0 rfl 0 (by decide) q133 rfl dX1_isPartialView_12 ?_
    refine fr_alen (n := cap) hx hb hK hP1 dX1_isPartialView_15 ?_
    have hn : ¬ 0 < st := fun h => c_1 ((nI_ltI (a := 0) (b := st) (by omega) (by omega)).mpr h)
    refine lv_icmp_ge (tgt := 23) hx hb dX1_isPartialView_16 (by decide) (fun c_2 => ?_) (fun c_2 => ?_)
    · refine lv_iconst (v := 0) hx hb dX1_isPartialView_23 (by decide) ?_
      have hm : ¬ (0 < st ∨ st + n < cap) := by have := (nI_leI (by omega) (by omega)).mp c_2; omega
      exact fr_rzret hx hb hr hlocks dX1_isPartialView_24 (Or.inl rfl) ((if_neg hm).symm)
    · refine lv_iconst (v := 1) hx hb dX1_isPartialView_19 (by decide) ?_
      refine lv_goto (tgt := 24) hx hb dX1_isPartialView_20 (by decide) ?_
      have hm : 0 < st ∨ st + n < cap := by
        rcases Nat.lt_or_ge (st + n) cap with h | h
        · exact Or.inr h
        · exact absurd ((nI_leI (by omega) (by omega)).mpr h) c_2
      exact fr_rzret hx hb hr hlocks dX1_isPartialView_24 (Or.inr rfl) ((if_pos hm).symm)
set_option maxHeartbeats 4000000 in
set_option maxRecDepth 100000 in
/-- checkElementIndex(i, n, text), the index in range -/
theorem metX2_checkElementIndex_2 (l : Launch) (D : va_G) (k : fr_k) (i n t : Nat) (h1 : i < n) (h2 : n < 65536) : Met l yX2_checkElementIndex_2 (ws_ yX2_checkElementIndex_2 cX2_checkElementIndex_2 3 (some .int)) (fr_rm 0 0 0) (fr_R D k [.int (nI i), .int (nI n), .ref t] []) (k2_QcV (.int (nI i))) 0 0 (fun _ => False) := by
  refine Met.ofW (cc := cX2_checkElementIndex_2) (maxL := 3) (ret := (some .int)) (by decide) rfl ?_
  intro p e s m args below meth c s₁ B hml hv
  obtain ⟨rfl, hP, hK⟩ := hv
  have hx := B.exec
  have hb := B.bytes
  have hr := B.returns
  have hts := atoms_spec (ws := ws_ yX2_checkElementIndex_2 cX2_checkElementIndex_2 3 (some .int)) B.pre
  have hts : ∀ w ∈ lw_all, w.before _ s = true := fun w h => hts w (List.mem_cons_of_mem _ h)
  have hown : s.vm.findClass RX2 = some m.cls := findClass_of_methodNamed B.named
  have hlocks := B.notSynchronized
  have hl := lv_entry ([.int (nI i), .int (nI n), .ref t]) (n := 3) (Nat.le_of_ble_eq_true rfl)
  rw [lg_entry_eq]
  generalize (lg_sl ([.int (nI i), .int (nI n), .ref t]) ++ List.replicate (3 - (lg_sl ([.int (nI i), .int (nI n), .ref t])).length) Slot.unset).toArray = ls at hl ⊢
  have hl : lv_has ls 3 [(0, .int (nI i)), (1, .int (nI n)), (2, .ref t)] := hl
  refine lv_iload_n hx hb dX2_checkElementIndex_2_0 rfl (lv_at hl 0 rfl) ?_
  refine lv_if_lt (tgt := 9) hx hb dX2_checkElementIndex_2_1 (by decide) (fun c_9 => absurd c_9 (show ¬ (nI i) < 0 from nI_pos (by omega))) (fun _ => ?_)
  refine lv_iload_n hx hb dX2_checkElementIndex_2_4 rfl (lv_at hl 0 rfl) ?_
  refine lv_iload_n hx hb dX2_checkElementIndex_2_5 rfl (lv_at hl 1 rfl) ?_
  refine lv_icmp_lt (tgt := 19) hx hb dX2_checkElementIndex_2_6 (by decide) (fun _ => ?_) (fun c_9 => absurd (show (nI i) < (nI n) from nI_lt h1 (by omega)) c_9)
  refine lv_iload_n hx hb dX2_checkElementIndex_2_19 rfl (lv_at hl 0 rfl) ?_
  exact fr_riret hx hb hr hlocks dX2_checkElementIndex_2_20 (rfl)
set_option maxHeartbeats 4000000 in
set_option maxRecDepth 100000 in
/-- checkElementIndex(i, n), the index in range -/
theorem metX2_checkElementIndex (l : Launch) (D : va_G) (k : fr_k) (i n : Nat) (h1 : i < n) (h2 : n < 65536) : Met l yX2_checkElementIndex (ws_ yX2_checkElementIndex cX2_checkElementIndex 2 (some .int)) (fr_rm 1 0 0) (fr_R D k [.int (nI i), .int (nI n)] []) (k2_QcV (.int (nI i))) 0 0 (fun _ => False) := by
  refine Met.ofW (cc := cX2_checkElementIndex) (maxL := 2) (ret := (some .int)) (by decide) rfl ?_
  intro p e s m args below meth c s₁ B hml hv
  obtain ⟨rfl, hP, hK⟩ := hv
  have hx := B.exec
  have hb := B.bytes
  have hr := B.returns
  have hts := atoms_spec (ws := ws_ yX2_checkElementIndex cX2_checkElementIndex 2 (some .int)) B.pre
  have hts : ∀ w ∈ lw_all, w.before _ s = true := fun w h => hts w (List.mem_cons_of_mem _ h)
  have hown : s.vm.findClass RX2 = some m.cls := findClass_of_methodNamed B.named
  have hlocks := B.notSynchronized
  have hl := lv_entry ([.int (nI i), .int (nI n)]) (n := 2) (Nat.le_of_ble_eq_true rfl)
  rw [lg_entry_eq]
  generalize (lg_sl ([.int (nI i), .int (nI n)]) ++ List.replicate (2 - (lg_sl ([.int (nI i), .int (nI n)])).length) Slot.unset).toArray = ls at hl ⊢
  have hl : lv_has ls 2 [(0, .int (nI i)), (1, .int (nI n))] := hl
  refine lv_iload_n hx hb dX2_checkElementIndex_0 rfl (lv_at hl 0 rfl) ?_
  refine lv_iload_n hx hb dX2_checkElementIndex_1 rfl (lv_at hl 1 rfl) ?_
  refine va_ldcS hx hb hown hK.2.2.2.2.2.2.2.2.2 dX2_checkElementIndex_2 ?_
  refine fr_rS (As := [.int (nI i), .int (nI n), .ref k.2.2]) (rest := []) ⟨hx, hb, hml, hown, hts⟩ (metX2_checkElementIndex_2 l D k i n k.2.2 h1 h2) (va_cwS 3 hts (lw_S q312 q313 q6 q314) rfl rfl rfl (by decide +kernel) ⟨Nat.le_of_ble_eq_true rfl, Nat.le_of_ble_eq_true rfl⟩) hK (hP) rfl hl.1 rfl (Nat.le_of_ble_eq_true rfl) dX2_checkElementIndex_4 ⟨Nat.zero_le _, Nat.zero_le _⟩ ?_
  exact fr_riret hx hb hr hlocks dX2_checkElementIndex_7 (rfl)
set_option maxHeartbeats 4000000 in
set_option maxRecDepth 100000 in
/-- checkPositionIndexes(i, j, n), in range -/
theorem metX2_checkPositionIndexes (l : Launch) (D : va_G) (k : fr_k) (i j n : Nat) (h1 : i ≤ j) (h2 : j ≤ n) (h3 : n < 65536) : Met l yX2_checkPositionIndexes (ws_ yX2_checkPositionIndexes cX2_checkPositionIndexes 3 none) (fr_rm 0 0 0) (fr_R D k [.int (nI i), .int (nI j), .int (nI n)] []) (va_Sv (fun _ => True)) 0 0 (fun _ => False) := by
  refine Met.ofW (cc := cX2_checkPositionIndexes) (maxL := 3) (ret := none) (by decide) rfl ?_
  intro p e s m args below meth c s₁ B hml hv
  obtain ⟨rfl, hP, hK⟩ := hv
  have hx := B.exec
  have hb := B.bytes
  have hr := B.returns
  have hts := atoms_spec (ws := ws_ yX2_checkPositionIndexes cX2_checkPositionIndexes 3 none) B.pre
  have hts : ∀ w ∈ lw_all, w.before _ s = true := fun w h => hts w (List.mem_cons_of_mem _ h)
  have hown : s.vm.findClass RX2 = some m.cls := findClass_of_methodNamed B.named
  have hlocks := B.notSynchronized
  have hl := lv_entry ([.int (nI i), .int (nI j), .int (nI n)]) (n := 3) (Nat.le_of_ble_eq_true rfl)
  rw [lg_entry_eq]
  generalize (lg_sl ([.int (nI i), .int (nI j), .int (nI n)]) ++ List.replicate (3 - (lg_sl ([.int (nI i), .int (nI j), .int (nI n)])).length) Slot.unset).toArray = ls at hl ⊢
  have hl : lv_has ls 3 [(0, .int (nI i)), (1, .int (nI j)), (2, .int (nI n))] := hl
  refine lv_iload_n hx hb dX2_checkPositionIndexes_0 rfl (lv_at hl 0 rfl) ?_
  refine lv_if_lt (tgt := 14) hx hb dX2_checkPositionIndexes_1 (by decide) (fun c_9 => absurd c_9 (show ¬ (nI i) < 0 from nI_pos (by omega))) (fun _ => ?_)
  refine lv_iload_n hx hb dX2_checkPositionIndexes_4 rfl (lv_at hl 1 rfl) ?_
  refine lv_iload_n hx hb dX2_checkPositionIndexes_5 rfl (lv_at hl 0 rfl) ?_
  refine lv_icmp_lt (tgt := 14) hx hb dX2_checkPositionIndexes_6 (by decide) (fun c_9 => absurd c_9 (show ¬ (nI j) < (nI i) from nI_nlt h1 (by omega))) (fun _ => ?_)
  refine lv_iload_n hx hb dX2_checkPositionIndexes_9 rfl (lv_at hl 1 rfl) ?_
  refine lv_iload_n hx hb dX2_checkPositionIndexes_10 rfl (lv_at hl 2 rfl) ?_
  refine lv_icmp_le (tgt := 24) hx hb dX2_checkPositionIndexes_11 (by decide) (fun _ => ?_) (fun c_9 => absurd (show (nI j) ≤ (nI n) from nI_le h2 (by omega)) c_9)
  exact fr_rvret hx hb hr hlocks dX2_checkPositionIndexes_24
set_option maxHeartbeats 4000000 in
set_option maxRecDepth 100000 in
/-- checkArgument(true, ..) -/
theorem metX2_checkArgument (l : Launch) (D : va_G) (k : fr_k) (t : Nat) (y0 : Int32) : Met l yX2_checkArgument (ws_ yX2_checkArgument cX2_checkArgument 3 none) (fr_rm 0 0 0) (fr_R D k [.int 1, .ref t, .int y0] []) (va_Sv (fun _ => True)) 0 0 (fun _ => False) := by
  refine Met.ofW (cc := cX2_checkArgument) (maxL := 3) (ret := none) (by decide) rfl ?_
  intro p e s m args below meth c s₁ B hml hv
  obtain ⟨rfl, hP, hK⟩ := hv
  have hx := B.exec
  have hb := B.bytes
  have hr := B.returns
  have hts := atoms_spec (ws := ws_ yX2_checkArgument cX2_checkArgument 3 none) B.pre
  have hts : ∀ w ∈ lw_all, w.before _ s = true := fun w h => hts w (List.mem_cons_of_mem _ h)
  have hown : s.vm.findClass RX2 = some m.cls := findClass_of_methodNamed B.named
  have hlocks := B.notSynchronized
  have hl := lv_entry ([.int 1, .ref t, .int y0]) (n := 3) (Nat.le_of_ble_eq_true rfl)
  rw [lg_entry_eq]
  generalize (lg_sl ([.int 1, .ref t, .int y0]) ++ List.replicate (3 - (lg_sl ([.int 1, .ref t, .int y0])).length) Slot.unset).toArray = ls at hl ⊢
  have hl : lv_has ls 3 [(0, .int 1), (1, .ref t), (2, .int y0)] := hl
  refine lv_iload_n hx hb dX2_checkArgument_0 rfl (lv_at hl 0 rfl) ?_
  refine lv_if_ne (tgt := 14) hx hb dX2_checkArgument_1 (by decide) (fun _ => ?_) (fun c_9 => absurd c_9 (show ¬ 1 = 0 from by decide))
  exact fr_rvret hx hb hr hlocks dX2_checkArgument_14
set_option maxHeartbeats 4000000 in
set_option maxRecDepth 100000 in
/-- checkLength(i, j), i no more than j -/
theorem metJ6_checkLength (l : Launch) (D : va_G) (k : fr_k) (i j : Nat) (h1 : i ≤ j) (h2 : j < 65536) : Met l yJ6_checkLength (ws_ yJ6_checkLength cJ6_checkLength 2 none) (fr_rm 0 0 0) (fr_R D k [.int (nI i), .int (nI j)] []) (va_Sv (fun _ => True)) 0 0 (fun _ => False) := by
  refine Met.ofW (cc := cJ6_checkLength) (maxL := 2) (ret := none) (by decide) rfl ?_
  intro p e s m args below meth c s₁ B hml hv
  obtain ⟨rfl, hP, hK⟩ := hv
  have hx := B.exec
  have hb := B.bytes
  have hr := B.returns
  have hts := atoms_spec (ws := ws_ yJ6_checkLength cJ6_checkLength 2 none) B.pre
  have hts : ∀ w ∈ lw_all, w.before _ s = true := fun w h => hts w (List.mem_cons_of_mem _ h)
  have hown : s.vm.findClass RJ6 = some m.cls := findClass_of_methodNamed B.named
  have hlocks := B.notSynchronized
  have hl := lv_entry ([.int (nI i), .int (nI j)]) (n := 2) (Nat.le_of_ble_eq_true rfl)
  rw [lg_entry_eq]
  generalize (lg_sl ([.int (nI i), .int (nI j)]) ++ List.replicate (2 - (lg_sl ([.int (nI i), .int (nI j)])).length) Slot.unset).toArray = ls at hl ⊢
  have hl : lv_has ls 2 [(0, .int (nI i)), (1, .int (nI j))] := hl
  refine lv_iload_n hx hb dJ6_checkLength_0 rfl (lv_at hl 1 rfl) ?_
  refine lv_iload_n hx hb dJ6_checkLength_1 rfl (lv_at hl 0 rfl) ?_
  refine lv_icmp_ge (tgt := 37) hx hb dJ6_checkLength_2 (by decide) (fun _ => ?_) (fun c_9 => absurd (show (nI i) ≤ (nI j) from nI_le h1 (by omega)) c_9)
  exact fr_rvret hx hb hr hlocks dJ6_checkLength_37
set_option maxHeartbeats 4000000 in
set_option maxRecDepth 100000 in
/-- Long.hashCode(v) -/
theorem metJ9_hashCode (l : Launch) (D : va_G) (k : fr_k) (v : Int64) : Met l yJ9_hashCode (ws_ yJ9_hashCode cJ9_hashCode 2 (some .int)) (fr_rm 0 0 0) (fr_R D k [.long v] []) (k2_QcV (.int (fr_h v))) 0 0 (fun _ => False) := by
  refine Met.ofW (cc := cJ9_hashCode) (maxL := 2) (ret := (some .int)) (by decide) rfl ?_
  intro p e s m args below meth c s₁ B hml hv
  obtain ⟨rfl, hP, hK⟩ := hv
  have hx := B.exec
  have hb := B.bytes
  have hr := B.returns
  have hts := atoms_spec (ws := ws_ yJ9_hashCode cJ9_hashCode 2 (some .int)) B.pre
  have hts : ∀ w ∈ lw_all, w.before _ s = true := fun w h => hts w (List.mem_cons_of_mem _ h)
  have hown : s.vm.findClass RJ9 = some m.cls := findClass_of_methodNamed B.named
  have hlocks := B.notSynchronized
  have hl := lv_entry ([.long v]) (n := 2) (Nat.le_of_ble_eq_true rfl)
  rw [lg_entry_eq]
  generalize (lg_sl ([.long v]) ++ List.replicate (2 - (lg_sl ([.long v])).length) Slot.unset).toArray = ls at hl ⊢
  have hl : lv_has ls 2 [(0, .long v)] := hl
  refine lv_lload_n hx hb dJ9_hashCode_0 rfl (lv_at hl 0 rfl) ?_
  refine lv_lload_n hx hb dJ9_hashCode_1 rfl (lv_at hl 0 rfl) ?_
  refine lv_bipush (v := 32) hx hb dJ9_hashCode_2 (by decide) ?_
  refine lv_lushr (v := (v.toUInt64 >>> ((32 : Int32).toInt64.toUInt64 &&& Int64.toUInt64 63)).toInt64) hx hb dJ9_hashCode_4 (rfl) ?_
  refine lv_lxor hx hb dJ9_hashCode_5 ?_
  refine lv_l2i (v := (v ^^^ ((v.toUInt64 >>> ((32 : Int32).toInt64.toUInt64 &&& Int64.toUInt64 63)).toInt64)).toInt32) hx hb dJ9_hashCode_6 rfl ?_
  exact fr_riret hx hb hr hlocks dJ9_hashCode_7 (rfl)
set_option maxHeartbeats 4000000 in
set_option maxRecDepth 100000 in
/-- of(hi, lo) -/
theorem metX0_of (l : Launch) (D : va_G) (k : fr_k) (hi lo : Int32) : Met l yX0_of (ws_ yX0_of cX0_of 2 (some .long)) (fr_rm 0 0 0) (fr_R D k [.int hi, .int lo] []) (k2_QcV (.long (fr_J hi lo))) 0 0 (fun _ => False) := by
  refine Met.ofW (cc := cX0_of) (maxL := 2) (ret := (some .long)) (by decide) rfl ?_
  intro p e s m args below meth c s₁ B hml hv
  obtain ⟨rfl, hP, hK⟩ := hv
  have hx := B.exec
  have hb := B.bytes
  have hr := B.returns
  have hts := atoms_spec (ws := ws_ yX0_of cX0_of 2 (some .long)) B.pre
  have hts : ∀ w ∈ lw_all, w.before _ s = true := fun w h => hts w (List.mem_cons_of_mem _ h)
  have hown : s.vm.findClass RX0 = some m.cls := findClass_of_methodNamed B.named
  have hlocks := B.notSynchronized
  have hl := lv_entry ([.int hi, .int lo]) (n := 2) (Nat.le_of_ble_eq_true rfl)
  rw [lg_entry_eq]
  generalize (lg_sl ([.int hi, .int lo]) ++ List.replicate (2 - (lg_sl ([.int hi, .int lo])).length) Slot.unset).toArray = ls at hl ⊢
  have hl : lv_has ls 2 [(0, .int hi), (1, .int lo)] := hl
  refine lv_iload_n hx hb dX0_of_0 rfl (lv_at hl 0 rfl) ?_
  refine lv_i2l (v := hi.toInt64) hx hb dX0_of_1 rfl ?_
  refine lv_bipush (v := 32) hx hb dX0_of_2 (by decide) ?_
  refine lv_lshl (v := hi.toInt64 <<< ((32 : Int32).toInt64 &&& 63)) hx hb dX0_of_4 (rfl) ?_
  refine lv_iload_n hx hb dX0_of_5 rfl (lv_at hl 1 rfl) ?_
  refine lv_i2l (v := lo.toInt64) hx hb dX0_of_6 rfl ?_
  refine lv_ldc2 (v := 4294967295) hx hb hown (hts _ q161) dX0_of_7 ?_
  refine lv_land hx hb dX0_of_10 ?_
  refine lv_lor hx hb dX0_of_11 ?_
  exact fr_rlret hx hb hr hlocks dX0_of_12 (rfl)
set_option maxHeartbeats 4000000 in
set_option maxRecDepth 100000 in
/-- joined(hi, lo) -/
theorem metX4_joined (l : Launch) (D : va_G) (k : fr_k) (hi lo : Int32) : Met l yX4_joined (ws_ yX4_joined cX4_joined 2 (some .long)) (fr_rm 0 0 0) (fr_R D k [.int hi, .int lo] []) (k2_QcV (.long (fr_J hi lo))) 0 0 (fun _ => False) := by
  refine Met.ofW (cc := cX4_joined) (maxL := 2) (ret := (some .long)) (by decide) rfl ?_
  intro p e s m args below meth c s₁ B hml hv
  obtain ⟨rfl, hP, hK⟩ := hv
  have hx := B.exec
  have hb := B.bytes
  have hr := B.returns
  have hts := atoms_spec (ws := ws_ yX4_joined cX4_joined 2 (some .long)) B.pre
  have hts : ∀ w ∈ lw_all, w.before _ s = true := fun w h => hts w (List.mem_cons_of_mem _ h)
  have hown : s.vm.findClass RX4 = some m.cls := findClass_of_methodNamed B.named
  have hlocks := B.notSynchronized
  have hl := lv_entry ([.int hi, .int lo]) (n := 2) (Nat.le_of_ble_eq_true rfl)
  rw [lg_entry_eq]
  generalize (lg_sl ([.int hi, .int lo]) ++ List.replicate (2 - (lg_sl ([.int hi, .int lo])).length) Slot.unset).toArray = ls at hl ⊢
  have hl : lv_has ls 2 [(0, .int hi), (1, .int lo)] := hl
  refine lv_iload_n hx hb dX4_joined_0 rfl (lv_at hl 0 rfl) ?_
  refine lv_i2l (v := hi.toInt64) hx hb dX4_joined_1 rfl ?_
  refine lv_ldc2 (v := 4294967296) hx hb hown (hts _ q395) dX4_joined_2 ?_
  refine lv_lmul hx hb dX4_joined_5 ?_
  refine lv_iload_n hx hb dX4_joined_6 rfl (lv_at hl 1 rfl) ?_
  refine lv_if_ge (tgt := 19) hx hb dX4_joined_7 (by decide) (fun c_1 => ?_) (fun c_1 => ?_)
  · refine lv_iload_n hx hb dX4_joined_19 rfl (lv_at hl 1 rfl) ?_
    refine lv_i2l (v := lo.toInt64) hx hb dX4_joined_20 rfl ?_
    refine lv_ladd hx hb dX4_joined_21 ?_
    exact fr_rlret hx hb hr hlocks dX4_joined_22 (by rw [← fr_Jm, if_neg (Int32.not_lt.mpr c_1)])
  · refine lv_iload_n hx hb dX4_joined_10 rfl (lv_at hl 1 rfl) ?_
    refine lv_i2l (v := lo.toInt64) hx hb dX4_joined_11 rfl ?_
    refine lv_ldc2 (v := 4294967296) hx hb hown (hts _ q395) dX4_joined_12 ?_
    refine lv_ladd hx hb dX4_joined_15 ?_
    refine lv_goto (tgt := 21) hx hb dX4_joined_16 (by decide) ?_
    refine lv_ladd hx hb dX4_joined_21 ?_
    exact fr_rlret hx hb hr hlocks dX4_joined_22 (by rw [← fr_Jm, if_pos (Int32.not_le.mp c_1)])
set_option maxHeartbeats 4000000 in
set_option maxRecDepth 100000 in
/-- numberOfLeadingZeros of a number of eight bits -/
theorem metJ5_numberOfLeadingZeros (l : Launch) (D : va_G) (k : fr_k) (n : Nat) (h0 : 0 < n) (h1 : n < 256) : Met l yJ5_numberOfLeadingZeros (ws_ yJ5_numberOfLeadingZeros cJ5_numberOfLeadingZeros 2 (some .int)) (fr_rm 0 0 0) (fr_R D k [.int (nI n)] []) (k2_QcV (.int (fr_nz n))) 0 0 (fun _ => False) := by
  refine Met.ofW (cc := cJ5_numberOfLeadingZeros) (maxL := 2) (ret := (some .int)) (by decide) rfl ?_
  intro p e s m args below meth c s₁ B hml hv
  obtain ⟨rfl, hP, hK⟩ := hv
  have hx := B.exec
  have hb := B.bytes
  have hr := B.returns
  have hts := atoms_spec (ws := ws_ yJ5_numberOfLeadingZeros cJ5_numberOfLeadingZeros 2 (some .int)) B.pre
  have hts : ∀ w ∈ lw_all, w.before _ s = true := fun w h => hts w (List.mem_cons_of_mem _ h)
  have hown : s.vm.findClass RJ5 = some m.cls := findClass_of_methodNamed B.named
  have hlocks := B.notSynchronized
  have hl := lv_entry ([.int (nI n)]) (n := 2) (Nat.le_of_ble_eq_true rfl)
  rw [lg_entry_eq]
  generalize (lg_sl ([.int (nI n)]) ++ List.replicate (2 - (lg_sl ([.int (nI n)])).length) Slot.unset).toArray = ls at hl ⊢
  have hl : lv_has ls 2 [(0, .int (nI n))] := hl
  refine lv_iload_n hx hb dJ5_numberOfLeadingZeros_0 rfl (lv_at hl 0 rfl) ?_
  refine lv_if_gt (tgt := 15) hx hb dJ5_numberOfLeadingZeros_1 (by decide) (fun _ => ?_) (fun c_9 => absurd (show 0 < (nI n) from nI_lt (a := 0) h0 (by omega)) c_9)
  refine lv_bipush (v := 31) hx hb dJ5_numberOfLeadingZeros_15 (by decide) ?_
  refine lv_istore_n (lv' := [(1, .int 31), (0, .int (nI n))]) hx hb dJ5_numberOfLeadingZeros_17 rfl hl (by decide) rfl (fun ls hl => ?_)
  refine lv_iload_n hx hb dJ5_numberOfLeadingZeros_18 rfl (lv_at hl 1 rfl) ?_
  refine lv_ldcw (v := 65536) hx hb hown (hts _ q196) dJ5_numberOfLeadingZeros_19 ?_
  refine lv_icmp_lt (tgt := 33) hx hb dJ5_numberOfLeadingZeros_22 (by decide) (fun _ => ?_) (fun c_9 => absurd (show (nI n) < 65536 from nI_lt (b := 65536) (by omega) (by omega)) c_9)
  refine lv_iload_n hx hb dJ5_numberOfLeadingZeros_33 rfl (lv_at hl 1 rfl) ?_
  refine lv_sipush (v := 256) hx hb dJ5_numberOfLeadingZeros_34 (by decide) ?_
  refine lv_icmp_lt (tgt := 48) hx hb dJ5_numberOfLeadingZeros_37 (by decide) (fun _ => ?_) (fun c_9 => absurd (show (nI n) < 256 from nI_lt (b := 256) h1 (by omega)) c_9)
  refine lv_iload_n hx hb dJ5_numberOfLeadingZeros_48 rfl (lv_at hl 1 rfl) ?_
  refine lv_bipush (v := 16) hx hb dJ5_numberOfLeadingZeros_49 (by decide) ?_
  refine lv_icmp_lt (tgt := 61) hx hb dJ5_numberOfLeadingZeros_51 (by decide) (fun c_1 => ?_) (fun c_1 => ?_)
  · refine lv_iload_n hx hb dJ5_numberOfLeadingZeros_61 rfl (lv_at hl 1 rfl) ?_
    refine lv_iconst (v := 4) hx hb dJ5_numberOfLeadingZeros_62 (by decide) ?_
    refine lv_icmp_lt (tgt := 73) hx hb dJ5_numberOfLeadingZeros_63 (by decide) (fun c_2 => ?_) (fun c_2 => ?_)
    · refine lv_iload_n hx hb dJ5_numberOfLeadingZeros_73 rfl (lv_at hl 0 rfl) ?_
      refine lv_iload_n hx hb dJ5_numberOfLeadingZeros_74 rfl (lv_at hl 1 rfl) ?_
      refine lv_iconst (v := 1) hx hb dJ5_numberOfLeadingZeros_75 (by decide) ?_
      refine lv_iushr (v := nI (n / 2)) hx hb dJ5_numberOfLeadingZeros_76 (pk_ushrN (by omega) 1 1 (by decide)) ?_
      refine lv_isub hx hb dJ5_numberOfLeadingZeros_77 ?_
      exact fr_riret hx hb hr hlocks dJ5_numberOfLeadingZeros_78 (fr_nz1 n h1 h0 c_1 c_2)
    · refine lv_iinc (v := 29) (lv' := [(1, .int 29), (0, .int (nI n))]) hx hb dJ5_numberOfLeadingZeros_66 hl (k := 0) rfl (show 31 + Int32.ofInt (-2) = 29 from by decide) (by decide) rfl (fun ls hl => ?_)
      refine lv_iload_n hx hb dJ5_numberOfLeadingZeros_69 rfl (lv_at hl 1 rfl) ?_
      refine lv_iconst (v := 2) hx hb dJ5_numberOfLeadingZeros_70 (by decide) ?_
      refine lv_iushr (v := nI (n / 4)) hx hb dJ5_numberOfLeadingZeros_71 (pk_ushrN (by omega) 2 2 (by decide)) ?_
      refine lv_istore_n (lv' := [(0, .int (nI (n / 4))), (1, .int 29)]) hx hb dJ5_numberOfLeadingZeros_72 rfl hl (by decide) rfl (fun ls hl => ?_)
      refine lv_iload_n hx hb dJ5_numberOfLeadingZeros_73 rfl (lv_at hl 1 rfl) ?_
      refine lv_iload_n hx hb dJ5_numberOfLeadingZeros_74 rfl (lv_at hl 0 rfl) ?_
      refine lv_iconst (v := 1) hx hb dJ5_numberOfLeadingZeros_75 (by decide) ?_
      refine lv_iushr (v := nI (n / 4 / 2)) hx hb dJ5_numberOfLeadingZeros_76 (pk_ushrN (by omega) 1 1 (by decide)) ?_
      refine lv_isub hx hb dJ5_numberOfLeadingZeros_77 ?_
      exact fr_riret hx hb hr hlocks dJ5_numberOfLeadingZeros_78 (fr_nz2 n h1 h0 c_1 c_2)
  · refine lv_iinc (v := 27) (lv' := [(1, .int 27), (0, .int (nI n))]) hx hb dJ5_numberOfLeadingZeros_54 hl (k := 0) rfl (show 31 + Int32.ofInt (-4) = 27 from by decide) (by decide) rfl (fun ls hl => ?_)
    refine lv_iload_n hx hb dJ5_numberOfLeadingZeros_57 rfl (lv_at hl 1 rfl) ?_
    refine lv_iconst (v := 4) hx hb dJ5_numberOfLeadingZeros_58 (by decide) ?_
    refine lv_iushr (v := nI (n / 16)) hx hb dJ5_numberOfLeadingZeros_59 (pk_ushrN (by omega) 4 4 (by decide)) ?_
    refine lv_istore_n (lv' := [(0, .int (nI (n / 16))), (1, .int 27)]) hx hb dJ5_numberOfLeadingZeros_60 rfl hl (by decide) rfl (fun ls hl => ?_)
    refine lv_iload_n hx hb dJ5_numberOfLeadingZeros_61 rfl (lv_at hl 0 rfl) ?_
    refine lv_iconst (v := 4) hx hb dJ5_numberOfLeadingZeros_62 (by decide) ?_
    refine lv_icmp_lt (tgt := 73) hx hb dJ5_numberOfLeadingZeros_63 (by decide) (fun c_2 => ?_) (fun c_2 => ?_)
    · refine lv_iload_n hx hb dJ5_numberOfLeadingZeros_73 rfl (lv_at hl 1 rfl) ?_
      refine lv_iload_n hx hb dJ5_numberOfLeadingZeros_74 rfl (lv_at hl 0 rfl) ?_
      refine lv_iconst (v := 1) hx hb dJ5_numberOfLeadingZeros_75 (by decide) ?_
      refine lv_iushr (v := nI (n / 16 / 2)) hx hb dJ5_numberOfLeadingZeros_76 (pk_ushrN (by omega) 1 1 (by decide)) ?_
      refine lv_isub hx hb dJ5_numberOfLeadingZeros_77 ?_
      exact fr_riret hx hb hr hlocks dJ5_numberOfLeadingZeros_78 (fr_nz3 n h1 h0 c_1 c_2)
    · refine lv_iinc (v := 25) (lv' := [(1, .int 25), (0, .int (nI (n / 16)))]) hx hb dJ5_numberOfLeadingZeros_66 hl (k := 1) rfl (show 27 + Int32.ofInt (-2) = 25 from by decide) (by decide) rfl (fun ls hl => ?_)
      refine lv_iload_n hx hb dJ5_numberOfLeadingZeros_69 rfl (lv_at hl 1 rfl) ?_
      refine lv_iconst (v := 2) hx hb dJ5_numberOfLeadingZeros_70 (by decide) ?_
      refine lv_iushr (v := nI (n / 16 / 4)) hx hb dJ5_numberOfLeadingZeros_71 (pk_ushrN (by omega) 2 2 (by decide)) ?_
      refine lv_istore_n (lv' := [(0, .int (nI (n / 16 / 4))), (1, .int 25)]) hx hb dJ5_numberOfLeadingZeros_72 rfl hl (by decide) rfl (fun ls hl => ?_)
      refine lv_iload_n hx hb dJ5_numberOfLeadingZeros_73 rfl (lv_at hl 1 rfl) ?_
      refine lv_iload_n hx hb dJ5_numberOfLeadingZeros_74 rfl (lv_at hl 0 rfl) ?_
      refine lv_iconst (v := 1) hx hb dJ5_numberOfLeadingZeros_75 (by decide) ?_
      refine lv_iushr (v := nI (n / 16 / 4 / 2)) hx hb dJ5_numberOfLeadingZeros_76 (pk_ushrN (by omega) 1 1 (by decide)) ?_
      refine lv_isub hx hb dJ5_numberOfLeadingZeros_77 ?_
      exact fr_riret hx hb hr hlocks dJ5_numberOfLeadingZeros_78 (fr_nz4 n h1 h0 c_1 c_2)
set_option maxHeartbeats 4000000 in
set_option maxRecDepth 100000 in
/-- highestOneBit of a number of eight bits -/
theorem metJ5_highestOneBit (l : Launch) (D : va_G) (k : fr_k) (n : Nat) (h0 : 0 < n) (h1 : n < 256) : Met l yJ5_highestOneBit (ws_ yJ5_highestOneBit cJ5_highestOneBit 1 (some .int)) (fr_rm 1 0 0) (fr_R D k [.int (nI n)] []) (k2_QcV (.int (nI (2 ^ n.log2)))) 0 0 (fun _ => False) := by
  refine Met.ofW (cc := cJ5_highestOneBit) (maxL := 1) (ret := (some .int)) (by decide) rfl ?_
  intro p e s m args below meth c s₁ B hml hv
  obtain ⟨rfl, hP, hK⟩ := hv
  have hx := B.exec
  have hb := B.bytes
  have hr := B.returns
  have hts := atoms_spec (ws := ws_ yJ5_highestOneBit cJ5_highestOneBit 1 (some .int)) B.pre
  have hts : ∀ w ∈ lw_all, w.before _ s = true := fun w h => hts w (List.mem_cons_of_mem _ h)
  have hown : s.vm.findClass RJ5 = some m.cls := findClass_of_methodNamed B.named
  have hlocks := B.notSynchronized
  have hl := lv_entry ([.int (nI n)]) (n := 1) (Nat.le_of_ble_eq_true rfl)
  rw [lg_entry_eq]
  generalize (lg_sl ([.int (nI n)]) ++ List.replicate (1 - (lg_sl ([.int (nI n)])).length) Slot.unset).toArray = ls at hl ⊢
  have hl : lv_has ls 1 [(0, .int (nI n))] := hl
  refine lv_iload_n hx hb dJ5_highestOneBit_0 rfl (lv_at hl 0 rfl) ?_
  refine lv_ldc (v := (-2147483648)) hx hb hown (hts _ q192) dJ5_highestOneBit_1 ?_
  refine lv_iload_n hx hb dJ5_highestOneBit_3 rfl (lv_at hl 0 rfl) ?_
  refine fr_rS (As := [.int (nI n)]) (rest := [.int (-2147483648), .int (nI n)]) ⟨hx, hb, hml, hown, hts⟩ (metJ5_numberOfLeadingZeros l D k n h0 h1) (va_cwS 1 hts (lw_S q193 q194 q15 q195) rfl rfl rfl (by decide +kernel) ⟨Nat.le_of_ble_eq_true rfl, Nat.le_of_ble_eq_true rfl⟩) hK (hP) rfl hl.1 rfl (Nat.le_of_ble_eq_true rfl) dJ5_highestOneBit_4 ⟨Nat.zero_le _, Nat.zero_le _⟩ ?_
  refine lv_iushr (v := ((-2147483648 : Int32).toUInt32 >>> ((fr_nz n).toUInt32 &&& Int32.toUInt32 31)).toInt32) hx hb dJ5_highestOneBit_7 (rfl) ?_
  refine lv_iand hx hb dJ5_highestOneBit_8 ?_
  exact fr_riret hx hb hr hlocks dJ5_highestOneBit_9 (fr_hob n h1 h0)
set_option maxHeartbeats 4000000 in
set_option maxRecDepth 100000 in
/-- expandedCapacity(cap, m) -/
theorem metX3_expandedCapacity (l : Launch) (D : va_G) (k : fr_k) (cap mn : Nat) (h1 : cap < mn) (h2 : mn ≤ 96) : Met l yX3_expandedCapacity (ws_ yX3_expandedCapacity cX3_expandedCapacity 3 (some .int)) (fr_rm 2 0 0) (fr_R D k [.int (nI cap), .int (nI mn)] []) (k2_QcV (.int (nI (fr_cap cap mn)))) 0 0 (fun _ => False) := by
  refine Met.ofW (cc := cX3_expandedCapacity) (maxL := 3) (ret := (some .int)) (by decide) rfl ?_
  intro p e s m args below meth c s₁ B hml hv
  obtain ⟨rfl, hP, hK⟩ := hv
  have hx := B.exec
  have hb := B.bytes
  have hr := B.returns
  have hts := atoms_spec (ws := ws_ yX3_expandedCapacity cX3_expandedCapacity 3 (some .int)) B.pre
  have hts : ∀ w ∈ lw_all, w.before _ s = true := fun w h => hts w (List.mem_cons_of_mem _ h)
  have hown : s.vm.findClass RX3 = some m.cls := findClass_of_methodNamed B.named
  have hlocks := B.notSynchronized
  have hl := lv_entry ([.int (nI cap), .int (nI mn)]) (n := 3) (Nat.le_of_ble_eq_true rfl)
  rw [lg_entry_eq]
  generalize (lg_sl ([.int (nI cap), .int (nI mn)]) ++ List.replicate (3 - (lg_sl ([.int (nI cap), .int (nI mn)])).length) Slot.unset).toArray = ls at hl ⊢
  have hl : lv_has ls 3 [(0, .int (nI cap)), (1, .int (nI mn))] := hl
  refine lv_iload_n hx hb dX3_expandedCapacity_0 rfl (lv_at hl 1 rfl) ?_
  refine lv_if_ge (tgt := 14) hx hb dX3_expandedCapacity_1 (by decide) (fun _ => ?_) (fun c_9 => absurd (show 0 ≤ (nI mn) from nI_pos' (by omega)) c_9)
  refine lv_iload_n hx hb dX3_expandedCapacity_14 rfl (lv_at hl 0 rfl) ?_
  refine lv_iload_n hx hb dX3_expandedCapacity_15 rfl (lv_at hl 0 rfl) ?_
  refine lv_iconst (v := 1) hx hb dX3_expandedCapacity_16 (by decide) ?_
  refine lv_ishr hx hb dX3_expandedCapacity_17 ?_
  refine fr_topi (show ((nI cap) >>> (1 &&& 31)) = nI (cap / 2) from pk_shrN (by omega) ((1 : Int32) &&& 31) 1 (by decide)) ?_
  refine lv_iadd hx hb dX3_expandedCapacity_18 ?_
  refine fr_topi (show ((nI cap) + (nI (cap / 2))) = nI (cap + cap / 2) from nI_add cap (cap / 2)) ?_
  refine lv_iconst (v := 1) hx hb dX3_expandedCapacity_19 (by decide) ?_
  refine lv_iadd hx hb dX3_expandedCapacity_20 ?_
  refine fr_topi (show ((nI (cap + cap / 2)) + 1) = nI (cap + cap / 2 + 1) from nI_1 (cap + cap / 2)) ?_
  refine lv_istore_n (lv' := [(2, .int (nI (cap + cap / 2 + 1))), (0, .int (nI cap)), (1, .int (nI mn))]) hx hb dX3_expandedCapacity_21 rfl hl (by decide) rfl (fun ls hl => ?_)
  refine lv_iload_n hx hb dX3_expandedCapacity_22 rfl (lv_at hl 0 rfl) ?_
  refine lv_iload_n hx hb dX3_expandedCapacity_23 rfl (lv_at hl 2 rfl) ?_
  refine lv_icmp_ge (tgt := 36) hx hb dX3_expandedCapacity_24 (by decide) (fun c_1 => ?_) (fun c_1 => ?_)
  · have hc : ¬ cap + cap / 2 + 1 < mn := by have := (nI_leI (by omega) (by omega)).mp c_1; omega
    have hv : fr_cap cap mn = cap + cap / 2 + 1 := if_neg hc
    refine lv_iload_n hx hb dX3_expandedCapacity_36 rfl (lv_at hl 0 rfl) ?_
    refine lv_if_ge (tgt := 43) hx hb dX3_expandedCapacity_37 (by decide) (fun _ => ?_) (fun c_9 => absurd (show 0 ≤ (nI (cap + cap / 2 + 1)) from nI_pos' (by omega)) c_9)
    refine lv_iload_n hx hb dX3_expandedCapacity_43 rfl (lv_at hl 0 rfl) ?_
    exact fr_riret hx hb hr hlocks dX3_expandedCapacity_44 (by rw [hv])
  · have hc : cap + cap / 2 + 1 < mn := by
      rcases Nat.lt_or_ge (cap + cap / 2 + 1) mn with h | h
      · exact h
      · exact absurd ((nI_leI (by omega) (by omega)).mpr h) c_1
    have hv : fr_cap cap mn = 2 * 2 ^ (mn - 1).log2 := if_pos hc
    have hb3 := fr_hob3 (mn - 1) (by omega) (by omega)
    refine lv_iload_n hx hb dX3_expandedCapacity_27 rfl (lv_at hl 2 rfl) ?_
    refine lv_iconst (v := 1) hx hb dX3_expandedCapacity_28 (by decide) ?_
    refine lv_isub hx hb dX3_expandedCapacity_29 ?_
    refine fr_topi (show ((nI mn) - 1) = nI (mn - 1) from pk_sub (b := 1) (by omega)) ?_
    refine fr_rS (As := [.int (nI (mn - 1))]) (rest := []) ⟨hx, hb, hml, hown, hts⟩ (metJ5_highestOneBit l D k (mn - 1) (by omega) (by omega)) (va_cwS 1 hts (lw_S q189 q190 q15 q191) rfl rfl rfl (by decide +kernel) ⟨Nat.le_of_ble_eq_true rfl, Nat.le_of_ble_eq_true rfl⟩) hK (hP) rfl hl.1 rfl (Nat.le_of_ble_eq_true rfl) dX3_expandedCapacity_30 ⟨Nat.zero_le _, Nat.zero_le _⟩ ?_
    refine lv_iconst (v := 1) hx hb dX3_expandedCapacity_33 (by decide) ?_
    refine lv_ishl hx hb dX3_expandedCapacity_34 ?_
    refine fr_topi (show ((nI (2 ^ (mn - 1).log2)) <<< (1 &&& 31)) = nI (2 * 2 ^ (mn - 1).log2) from fr_hob2 (mn - 1) (by omega) (by omega)) ?_
    refine lv_istore_n (lv' := [(2, .int (nI (2 * 2 ^ (mn - 1).log2))), (0, .int (nI cap)), (1, .int (nI mn))]) hx hb dX3_expandedCapacity_35 rfl hl (by decide) rfl (fun ls hl => ?_)
    refine lv_iload_n hx hb dX3_expandedCapacity_36 rfl (lv_at hl 0 rfl) ?_
    refine lv_if_ge (tgt := 43) hx hb dX3_expandedCapacity_37 (by decide) (fun _ => ?_) (fun c_9 => absurd (show 0 ≤ (nI (2 * 2 ^ (mn - 1).log2)) from nI_pos' (by omega)) c_9)
    refine lv_iload_n hx hb dX3_expandedCapacity_43 rfl (lv_at hl 0 rfl) ?_
    exact fr_riret hx hb hr hlocks dX3_expandedCapacity_44 (by rw [hv])
end
section
set_option maxRecDepth 100000
set_option maxHeartbeats 4000000 in
set_option maxRecDepth 100000 in
/-- get(i), the index in range -/
theorem metX1_get (l : Launch) (D : va_G) (k : fr_k) (r a st n cap i : Nat) (v : Nat → Int64) (h1 : st + n ≤ cap) (h2 : cap ≤ 200) (h3 : i < n) : Met l yX1_get (ws_ yX1_get cX1_get 2 (some .long)) (fr_rm 2 0 0) (fr_R D k [.ref r, .int (nI i)] [(r, fO 1 [.ref a, .int (nI st), .int (nI (st + n))]), (a, fL k cap v)]) (k2_QcV (.long (v (st + i)))) 0 0 (fun _ => False) := by
  refine Met.ofW (cc := cX1_get) (maxL := 2) (ret := (some .long)) (by decide) rfl ?_
  intro p e s m args below meth c s₁ B hml hv
  obtain ⟨rfl, hP, hK⟩ := hv
  have hx := B.exec
  have hb := B.bytes
  have hr := B.returns
  have hts := atoms_spec (ws := ws_ yX1_get cX1_get 2 (some .long)) B.pre
  have hts : ∀ w ∈ lw_all, w.before _ s = true := fun w h => hts w (List.mem_cons_of_mem _ h)
  have hown : s.vm.findClass RX1 = some m.cls := findClass_of_methodNamed B.named
  have hlocks := B.notSynchronized
  have hP0 := hP.sub (ws' := [(r, fO 1 [.ref a, .int (nI st), .int (nI (st + n))])]) [0] rfl
  have hP1 := hP.sub (ws' := [(a, fL k cap v)]) [1] rfl
  have hl := lv_entry ([.ref r, .int (nI i)]) (n := 2) (Nat.le_of_ble_eq_true rfl)
  rw [lg_entry_eq]
  generalize (lg_sl ([.ref r, .int (nI i)]) ++ List.replicate (2 - (lg_sl ([.ref r, .int (nI i)])).length) Slot.unset).toArray = ls at hl ⊢
  have hl : lv_has ls 2 [(0, .ref r), (1, .int (nI i))] := hl
  refine lv_iload_n hx hb dX1_get_0 rfl (lv_at hl 1 rfl) ?_
  refine lv_aload_n hx hb dX1_get_1 rfl (lv_at hl 0 rfl) ?_
  refine fr_rV (As := []) (rest := [.int (nI i)]) (ci := 1) ⟨hx, hb, hml, hown, hts⟩ (metX1_length l D k r a st n) (cwV 0 hts (lw_V q252 q219 q220 q5 q221) rfl rfl rfl (by decide +kernel) ⟨Nat.le_of_ble_eq_true rfl, Nat.le_of_ble_eq_true rfl⟩) hK (hP0) rfl rfl rfl rfl hl.1 rfl (Nat.le_of_ble_eq_true rfl) dX1_get_2 ⟨Nat.zero_le _, Nat.zero_le _⟩ ?_
  refine fr_rS (As := [.int (nI i), .int (nI n)]) (rest := []) ⟨hx, hb, hml, hown, hts⟩ (metX2_checkElementIndex l D k i n h3 (by omega)) (va_cwS 2 hts (lw_S q308 q309 q6 q310) rfl rfl rfl (by decide +kernel) ⟨Nat.le_of_ble_eq_true rfl, Nat.le_of_ble_eq_true rfl⟩) hK (fr_nil) rfl hl.1 rfl (Nat.le_of_ble_eq_true rfl) dX1_get_5 ⟨Nat.zero_le _, Nat.zero_le _⟩ ?_
  refine lv_pop hx hb dX1_get_8 rfl ?_
  refine lv_aload_n hx hb dX1_get_9 rfl (lv_at hl 0 rfl) ?_
  refine fr_get (C := RX1) (T := TX1) (N := 3) (ci := 1) (v := .ref a) hx hb hts in_X1 hown hK hP0 rfl 0 (by decide) q133 rfl dX1_get_10 ?_
  refine lv_aload_n hx hb dX1_get_13 rfl (lv_at hl 0 rfl) ?_
  refine fr_get (C := RX1) (T := TX1) (N := 3) (ci := 1) (v := .int (nI st)) hx hb hts in_X1 hown hK hP0 rfl 1 (by decide) q135 rfl dX1_get_14 ?_
  refine lv_iload_n hx hb dX1_get_17 rfl (lv_at hl 1 rfl) ?_
  refine lv_iadd hx hb dX1_get_18 ?_
  refine fr_topi (show ((nI st) + (nI i)) = nI (st + i) from nI_add st i) ?_
  refine fr_lald (j := (st + i)) (n := cap) (v := v) hx hb hK hP1 (rfl) (by omega) (by omega) dX1_get_19 ?_
  exact fr_rlret hx hb hr hlocks dX1_get_20 (rfl)
set_option maxHeartbeats 4000000 in
set_option maxRecDepth 100000 in
/-- indexOf(w) -/
theorem metX1_indexOf (l : Launch) (D : va_G) (k : fr_k) (r a st n cap : Nat) (v : Nat → Int64) (w : Int64) (h1 : st + n ≤ cap) (h2 : cap ≤ 200) : Met l yX1_indexOf (ws_ yX1_indexOf cX1_indexOf 4 (some .int)) (fr_rm 0 0 0) (fr_R D k [.ref r, .long w] [(r, fO 1 [.ref a, .int (nI st), .int (nI (st + n))]), (a, fL k cap v)]) (k2_QcV (.int (fr_ff (fun t => v (st + t)) w n 0))) 0 0 (fun _ => False) := by
  refine Met.ofW (cc := cX1_indexOf) (maxL := 4) (ret := (some .int)) (by decide) rfl ?_
  intro p e s m args below meth c s₁ B hml hv
  obtain ⟨rfl, hP, hK⟩ := hv
  have hx := B.exec
  have hb := B.bytes
  have hr := B.returns
  have hts := atoms_spec (ws := ws_ yX1_indexOf cX1_indexOf 4 (some .int)) B.pre
  have hts : ∀ w ∈ lw_all, w.before _ s = true := fun w h => hts w (List.mem_cons_of_mem _ h)
  have hown : s.vm.findClass RX1 = some m.cls := findClass_of_methodNamed B.named
  have hlocks := B.notSynchronized
  have hP0 := hP.sub (ws' := [(r, fO 1 [.ref a, .int (nI st), .int (nI (st + n))])]) [0] rfl
  have hP1 := hP.sub (ws' := [(a, fL k cap v)]) [1] rfl
  have hl := lv_entry ([.ref r, .long w]) (n := 4) (Nat.le_of_ble_eq_true rfl)
  rw [lg_entry_eq]
  generalize (lg_sl ([.ref r, .long w]) ++ List.replicate (4 - (lg_sl ([.ref r, .long w])).length) Slot.unset).toArray = ls at hl ⊢
  have hl : lv_has ls 4 [(0, .ref r), (1, .long w)] := hl
  refine lv_aload_n hx hb dX1_indexOf_0 rfl (lv_at hl 0 rfl) ?_
  refine fr_get (C := RX1) (T := TX1) (N := 3) (ci := 1) (v := .int (nI st)) hx hb hts in_X1 hown hK hP0 rfl 1 (by decide) q135 rfl dX1_indexOf_1 ?_
  refine lv_istore_n (lv' := [(3, .int (nI st)), (0, .ref r), (1, .long w)]) hx hb dX1_indexOf_4 rfl hl (by decide) rfl (fun ls hl => ?_)
  suffices loop : ∀ (j i : Nat), i + j = n → fr_ff (fun t => v (st + t)) w j i = fr_ff (fun t => v (st + t)) w n 0 → ∀ ls : Array Slot, lv_has ls 4 [(0, .ref r), (1, .long w), (3, .int (nI (st + i)))] → W p l e (headSpec (ws_ yX1_indexOf cX1_indexOf 4 (some .int)) (fr_rm 0 0 0)).room s m ([.ref r, .long w] : List Value).toArray below meth c s.heap [] 0 0 (MQ below (k2_QcV (.int (fr_ff (fun t => v (st + t)) w n 0))) ([.ref r, .long w] : List Value).toArray s 0 0 (fun _ => False)) (F0 m 5 ls []) from loop n 0 (by omega) rfl ls (lv_sub hl [1, 2, 0] rfl)
  intro j
  induction j with
  | zero =>
    intro i hi hv ls hl
    refine lv_iload_n hx hb dX1_indexOf_5 rfl (lv_at hl 2 rfl) ?_
    refine lv_aload_n hx hb dX1_indexOf_6 rfl (lv_at hl 0 rfl) ?_
    refine fr_get (C := RX1) (T := TX1) (N := 3) (ci := 1) (v := .int (nI (st + n))) hx hb hts in_X1 hown hK hP0 rfl 2 (by decide) q136 rfl dX1_indexOf_7 ?_
    refine lv_icmp_ge (tgt := 37) hx hb dX1_indexOf_10 (by decide) (fun _ => ?_) (fun c_9 => absurd (show (nI (st + n)) ≤ (nI (st + i)) from nI_le (by omega) (by omega)) c_9)
    refine lv_iconst (v := (-1)) hx hb dX1_indexOf_37 (by decide) ?_
    exact fr_riret hx hb hr hlocks dX1_indexOf_38 (hv)
  | succ j ih =>
    intro i hi hv ls hl
    refine lv_iload_n hx hb dX1_indexOf_5 rfl (lv_at hl 2 rfl) ?_
    refine lv_aload_n hx hb dX1_indexOf_6 rfl (lv_at hl 0 rfl) ?_
    refine fr_get (C := RX1) (T := TX1) (N := 3) (ci := 1) (v := .int (nI (st + n))) hx hb hts in_X1 hown hK hP0 rfl 2 (by decide) q136 rfl dX1_indexOf_7 ?_
    refine lv_icmp_ge (tgt := 37) hx hb dX1_indexOf_10 (by decide) (fun c_9 => absurd c_9 (show ¬ (nI (st + n)) ≤ (nI (st + i)) from nI_ge (by omega) (by omega))) (fun _ => ?_)
    refine lv_aload_n hx hb dX1_indexOf_13 rfl (lv_at hl 0 rfl) ?_
    refine fr_get (C := RX1) (T := TX1) (N := 3) (ci := 1) (v := .ref a) hx hb hts in_X1 hown hK hP0 rfl 0 (by decide) q133 rfl dX1_indexOf_14 ?_
    refine lv_iload_n hx hb dX1_indexOf_17 rfl (lv_at hl 2 rfl) ?_
    refine fr_lald (j := (st + i)) (n := cap) (v := v) hx hb hK hP1 (rfl) (by omega) (by omega) dX1_indexOf_18 ?_
    refine lv_lload_n hx hb dX1_indexOf_19 rfl (lv_at hl 1 rfl) ?_
    refine W.lcmp hx hb dX1_indexOf_20 ?_
    refine lv_if_ne (tgt := 31) hx hb dX1_indexOf_21 (by decide) (fun c_1 => ?_) (fun c_1 => ?_)
    · have hq : ¬ v (st + i) = w := fun h => c_1 ((lg_cmp_eq _ _).mpr h)
      refine lv_iinc (v := nI (st + (i + 1))) (lv' := [(3, .int (nI (st + (i + 1)))), (0, .ref r), (1, .long w)]) hx hb dX1_indexOf_31 hl (k := 2) rfl (show (nI (st + i)) + Int32.ofInt 1 = nI (st + (i + 1)) from nI_1 (st + i)) (by decide) rfl (fun ls hl => ?_)
      refine lv_goto (tgt := 5) hx hb dX1_indexOf_34 (by decide) ?_
      exact ih (i + 1) (by omega) ((fr_ff_f (z := (fun t => v (st + t))) hq).symm.trans hv) ls (lv_sub hl [1, 2, 0] rfl)
    · have hq : v (st + i) = w := (lg_cmp_eq _ _).mp c_1
      refine lv_iload_n hx hb dX1_indexOf_24 rfl (lv_at hl 2 rfl) ?_
      refine lv_aload_n hx hb dX1_indexOf_25 rfl (lv_at hl 0 rfl) ?_
      refine fr_get (C := RX1) (T := TX1) (N := 3) (ci := 1) (v := .int (nI st)) hx hb hts in_X1 hown hK hP0 rfl 1 (by decide) q135 rfl dX1_indexOf_26 ?_
      refine lv_isub hx hb dX1_indexOf_29 ?_
      refine fr_topi (show ((nI (st + i)) - (nI st)) = nI i from fr_len st i) ?_
      exact fr_riret hx hb hr hlocks dX1_indexOf_30 ((fr_ff_t (z := (fun t => v (st + t))) hq).symm.trans hv)
set_option maxHeartbeats 4000000 in
set_option maxRecDepth 100000 in
/-- lastIndexOf(w) -/
theorem metX1_lastIndexOf (l : Launch) (D : va_G) (k : fr_k) (r a st n cap : Nat) (v : Nat → Int64) (w : Int64) (h1 : st + n ≤ cap) (h2 : cap ≤ 200) : Met l yX1_lastIndexOf (ws_ yX1_lastIndexOf cX1_lastIndexOf 4 (some .int)) (fr_rm 0 0 0) (fr_R D k [.ref r, .long w] [(r, fO 1 [.ref a, .int (nI st), .int (nI (st + n))]), (a, fL k cap v)]) (k2_QcV (.int (fr_fl (fun t => v (st + t)) w n))) 0 0 (fun _ => False) := by
  refine Met.ofW (cc := cX1_lastIndexOf) (maxL := 4) (ret := (some .int)) (by decide) rfl ?_
  intro p e s m args below meth c s₁ B hml hv
  obtain ⟨rfl, hP, hK⟩ := hv
  have hx := B.exec
  have hb := B.bytes
  have hr := B.returns
  have hts := atoms_spec (ws := ws_ yX1_lastIndexOf cX1_lastIndexOf 4 (some .int)) B.pre
  have hts : ∀ w ∈ lw_all, w.before _ s = true := fun w h => hts w (List.mem_cons_of_mem _ h)
  have hown : s.vm.findClass RX1 = some m.cls := findClass_of_methodNamed B.named
  have hlocks := B.notSynchronized
  have hP0 := hP.sub (ws' := [(r, fO 1 [.ref a, .int (nI st), .int (nI (st + n))])]) [0] rfl
  have hP1 := hP.sub (ws' := [(a, fL k cap v)]) [1] rfl
  have hl := lv_entry ([.ref r, .long w]) (n := 4) (Nat.le_of_ble_eq_true rfl)
  rw [lg_entry_eq]
  generalize (lg_sl ([.ref r, .long w]) ++ List.replicate (4 - (lg_sl ([.ref r, .long w])).length) Slot.unset).toArray = ls at hl ⊢
  have hl : lv_has ls 4 [(0, .ref r), (1, .long w)] := hl
  refine lv_aload_n hx hb dX1_lastIndexOf_0 rfl (lv_at hl 0 rfl) ?_
  refine fr_get (C := RX1) (T := TX1) (N := 3) (ci := 1) (v := .int (nI (st + n))) hx hb hts in_X1 hown hK hP0 rfl 2 (by decide) q136 rfl dX1_lastIndexOf_1 ?_
  refine lv_iconst (v := 1) hx hb dX1_lastIndexOf_4 (by decide) ?_
  refine lv_isub hx hb dX1_lastIndexOf_5 ?_
  refine lv_istore_n (lv' := [(3, .int ((nI (st + n)) - 1)), (0, .ref r), (1, .long w)]) hx hb dX1_lastIndexOf_6 rfl hl (by decide) rfl (fun ls hl => ?_)
  suffices loop : ∀ (j : Nat), j ≤ n → fr_fl (fun t => v (st + t)) w j = fr_fl (fun t => v (st + t)) w n → ∀ ls : Array Slot, lv_has ls 4 [(0, .ref r), (1, .long w), (3, .int (nI (st + j) - 1))] → W p l e (headSpec (ws_ yX1_lastIndexOf cX1_lastIndexOf 4 (some .int)) (fr_rm 0 0 0)).room s m ([.ref r, .long w] : List Value).toArray below meth c s.heap [] 0 0 (MQ below (k2_QcV (.int (fr_fl (fun t => v (st + t)) w n))) ([.ref r, .long w] : List Value).toArray s 0 0 (fun _ => False)) (F0 m 7 ls []) from loop n (Nat.le_refl n) rfl ls (lv_sub hl [1, 2, 0] rfl)
  intro j
  induction j with
  | zero =>
    intro hi hv ls hl
    refine lv_iload_n hx hb dX1_lastIndexOf_7 rfl (lv_at hl 2 rfl) ?_
    refine lv_aload_n hx hb dX1_lastIndexOf_8 rfl (lv_at hl 0 rfl) ?_
    refine fr_get (C := RX1) (T := TX1) (N := 3) (ci := 1) (v := .int (nI st)) hx hb hts in_X1 hown hK hP0 rfl 1 (by decide) q135 rfl dX1_lastIndexOf_9 ?_
    refine lv_icmp_lt (tgt := 39) hx hb dX1_lastIndexOf_12 (by decide) (fun _ => ?_) (fun c_9 => absurd (show (nI (st + 0) - 1) < (nI st) from fr_m1lt (t := st) (by omega)) c_9)
    refine lv_iconst (v := (-1)) hx hb dX1_lastIndexOf_39 (by decide) ?_
    exact fr_riret hx hb hr hlocks dX1_lastIndexOf_40 (hv)
  | succ j ih =>
    intro hi hv ls hl
    refine lv_iload_n hx hb dX1_lastIndexOf_7 rfl (lv_at hl 2 rfl) ?_
    refine fr_topi (show (nI (st + (j + 1)) - 1) = nI (st + j) from nI_pred (st + j)) ?_
    refine lv_aload_n hx hb dX1_lastIndexOf_8 rfl (lv_at hl 0 rfl) ?_
    refine fr_get (C := RX1) (T := TX1) (N := 3) (ci := 1) (v := .int (nI st)) hx hb hts in_X1 hown hK hP0 rfl 1 (by decide) q135 rfl dX1_lastIndexOf_9 ?_
    refine lv_icmp_lt (tgt := 39) hx hb dX1_lastIndexOf_12 (by decide) (fun c_9 => absurd c_9 (show ¬ (nI (st + j)) < (nI st) from nI_nlt (by omega) (by omega))) (fun _ => ?_)
    refine lv_aload_n hx hb dX1_lastIndexOf_15 rfl (lv_at hl 0 rfl) ?_
    refine fr_get (C := RX1) (T := TX1) (N := 3) (ci := 1) (v := .ref a) hx hb hts in_X1 hown hK hP0 rfl 0 (by decide) q133 rfl dX1_lastIndexOf_16 ?_
    refine lv_iload_n hx hb dX1_lastIndexOf_19 rfl (lv_at hl 2 rfl) ?_
    refine fr_lald (j := (st + j)) (n := cap) (v := v) hx hb hK hP1 (nI_pred (st + j)) (by omega) (by omega) dX1_lastIndexOf_20 ?_
    refine lv_lload_n hx hb dX1_lastIndexOf_21 rfl (lv_at hl 1 rfl) ?_
    refine W.lcmp hx hb dX1_lastIndexOf_22 ?_
    refine lv_if_ne (tgt := 33) hx hb dX1_lastIndexOf_23 (by decide) (fun c_1 => ?_) (fun c_1 => ?_)
    · have hq : ¬ v (st + j) = w := fun h => c_1 ((lg_cmp_eq _ _).mpr h)
      refine lv_iinc (v := nI (st + j) - 1) (lv' := [(3, .int (nI (st + j) - 1)), (0, .ref r), (1, .long w)]) hx hb dX1_lastIndexOf_33 hl (k := 2) rfl (show (nI (st + (j + 1)) - 1) + Int32.ofInt (-1) = nI (st + j) - 1 from by rw [fr_dec]; exact congrArg (fun q => q - 1) (nI_pred (st + j))) (by decide) rfl (fun ls hl => ?_)
      refine lv_goto (tgt := 7) hx hb dX1_lastIndexOf_36 (by decide) ?_
      exact ih (by omega) ((fr_fl_f (z := (fun t => v (st + t))) hq).symm.trans hv) ls (lv_sub hl [1, 2, 0] rfl)
    · have hq : v (st + j) = w := (lg_cmp_eq _ _).mp c_1
      refine lv_iload_n hx hb dX1_lastIndexOf_26 rfl (lv_at hl 2 rfl) ?_
      refine fr_topi (show (nI (st + (j + 1)) - 1) = nI (st + j) from nI_pred (st + j)) ?_
      refine lv_aload_n hx hb dX1_lastIndexOf_27 rfl (lv_at hl 0 rfl) ?_
      refine fr_get (C := RX1) (T := TX1) (N := 3) (ci := 1) (v := .int (nI st)) hx hb hts in_X1 hown hK hP0 rfl 1 (by decide) q135 rfl dX1_lastIndexOf_28 ?_
      refine lv_isub hx hb dX1_lastIndexOf_31 ?_
      refine fr_topi (show ((nI (st + j)) - (nI st)) = nI j from fr_len st j) ?_
      exact fr_riret hx hb hr hlocks dX1_lastIndexOf_32 ((fr_fl_t (z := (fun t => v (st + t))) hq).symm.trans hv)
set_option maxHeartbeats 4000000 in
set_option maxRecDepth 100000 in
/-- contains(w) -/
theorem metX1_contains (l : Launch) (D : va_G) (k : fr_k) (r a st n cap : Nat) (v : Nat → Int64) (w : Int64) (h1 : st + n ≤ cap) (h2 : cap ≤ 200) : Met l yX1_contains (ws_ yX1_contains cX1_contains 3 (some .boolean)) (fr_rm 1 0 0) (fr_R D k [.ref r, .long w] [(r, fO 1 [.ref a, .int (nI st), .int (nI (st + n))]), (a, fL k cap v)]) (k2_QcV (.int (fr_ct (fr_ff (fun t => v (st + t)) w n 0)))) 0 0 (fun _ => False) := by
  refine Met.ofW (cc := cX1_contains) (maxL := 3) (ret := (some .boolean)) (by decide) rfl ?_
  intro p e s m args below meth c s₁ B hml hv
  obtain ⟨rfl, hP, hK⟩ := hv
  have hx := B.exec
  have hb := B.bytes
  have hr := B.returns
  have hts := atoms_spec (ws := ws_ yX1_contains cX1_contains 3 (some .boolean)) B.pre
  have hts : ∀ w ∈ lw_all, w.before _ s = true := fun w h => hts w (List.mem_cons_of_mem _ h)
  have hown : s.vm.findClass RX1 = some m.cls := findClass_of_methodNamed B.named
  have hlocks := B.notSynchronized
  have hP0 := hP.sub (ws' := [(r, fO 1 [.ref a, .int (nI st), .int (nI (st + n))])]) [0] rfl
  have hP1 := hP.sub (ws' := [(a, fL k cap v)]) [1] rfl
  have hl := lv_entry ([.ref r, .long w]) (n := 3) (Nat.le_of_ble_eq_true rfl)
  rw [lg_entry_eq]
  generalize (lg_sl ([.ref r, .long w]) ++ List.replicate (3 - (lg_sl ([.ref r, .long w])).length) Slot.unset).toArray = ls at hl ⊢
  have hl : lv_has ls 3 [(0, .ref r), (1, .long w)] := hl
  refine lv_aload_n hx hb dX1_contains_0 rfl (lv_at hl 0 rfl) ?_
  refine lv_lload_n hx hb dX1_contains_1 rfl (lv_at hl 1 rfl) ?_
  refine fr_rV (As := [.long w]) (rest := []) (ci := 1) ⟨hx, hb, hml, hown, hts⟩ (metX1_indexOf l D k r a st n cap v w h1 h2) (cwV 1 hts (lw_V q339 q320 q321 q5 q322) rfl rfl rfl (by decide +kernel) ⟨Nat.le_of_ble_eq_true rfl, Nat.le_of_ble_eq_true rfl⟩) hK (fr_cons hP0 hP1) rfl rfl rfl rfl hl.1 rfl (Nat.le_of_ble_eq_true rfl) dX1_contains_2 ⟨Nat.zero_le _, Nat.zero_le _⟩ ?_
  refine lv_if_lt (tgt := 12) hx hb dX1_contains_5 (by decide) (fun c_1 => ?_) (fun c_1 => ?_)
  · refine lv_iconst (v := 0) hx hb dX1_contains_12 (by decide) ?_
    exact fr_rzret hx hb hr hlocks dX1_contains_13 (Or.inl rfl) ((if_pos c_1).symm)
  · refine lv_iconst (v := 1) hx hb dX1_contains_8 (by decide) ?_
    refine lv_goto (tgt := 13) hx hb dX1_contains_9 (by decide) ?_
    exact fr_rzret hx hb hr hlocks dX1_contains_13 (Or.inr rfl) ((if_neg c_1).symm)
set_option maxHeartbeats 4000000 in
set_option maxRecDepth 100000 in
/-- hashCode() -/
theorem metX1_hashCode (l : Launch) (D : va_G) (k : fr_k) (r a st n cap : Nat) (v : Nat → Int64) (h1 : st + n ≤ cap) (h2 : cap ≤ 200) : Met l yX1_hashCode (ws_ yX1_hashCode cX1_hashCode 3 (some .int)) (fr_rm 1 0 0) (fr_R D k [.ref r] [(r, fO 1 [.ref a, .int (nI st), .int (nI (st + n))]), (a, fL k cap v)]) (k2_QcV (.int (fr_hs (fun t => v (st + t)) n))) 0 0 (fun _ => False) := by
  refine Met.ofW (cc := cX1_hashCode) (maxL := 3) (ret := (some .int)) (by decide) rfl ?_
  intro p e s m args below meth c s₁ B hml hv
  obtain ⟨rfl, hP, hK⟩ := hv
  have hx := B.exec
  have hb := B.bytes
  have hr := B.returns
  have hts := atoms_spec (ws := ws_ yX1_hashCode cX1_hashCode 3 (some .int)) B.pre
  have hts : ∀ w ∈ lw_all, w.before _ s = true := fun w h => hts w (List.mem_cons_of_mem _ h)
  have hown : s.vm.findClass RX1 = some m.cls := findClass_of_methodNamed B.named
  have hlocks := B.notSynchronized
  have hP0 := hP.sub (ws' := [(r, fO 1 [.ref a, .int (nI st), .int (nI (st + n))])]) [0] rfl
  have hP1 := hP.sub (ws' := [(a, fL k cap v)]) [1] rfl
  have hl := lv_entry ([.ref r]) (n := 3) (Nat.le_of_ble_eq_true rfl)
  rw [lg_entry_eq]
  generalize (lg_sl ([.ref r]) ++ List.replicate (3 - (lg_sl ([.ref r])).length) Slot.unset).toArray = ls at hl ⊢
  have hl : lv_has ls 3 [(0, .ref r)] := hl
  refine lv_iconst (v := 1) hx hb dX1_hashCode_0 (by decide) ?_
  refine lv_istore_n (lv' := [(1, .int 1), (0, .ref r)]) hx hb dX1_hashCode_1 rfl hl (by decide) rfl (fun ls hl => ?_)
  refine lv_aload_n hx hb dX1_hashCode_2 rfl (lv_at hl 1 rfl) ?_
  refine fr_get (C := RX1) (T := TX1) (N := 3) (ci := 1) (v := .int (nI st)) hx hb hts in_X1 hown hK hP0 rfl 1 (by decide) q135 rfl dX1_hashCode_3 ?_
  refine lv_istore_n (lv' := [(2, .int (nI st)), (1, .int 1), (0, .ref r)]) hx hb dX1_hashCode_6 rfl hl (by decide) rfl (fun ls hl => ?_)
  suffices loop : ∀ (j i : Nat), i + j = n → ∀ ls : Array Slot, lv_has ls 3 [(0, .ref r), (1, .int (fr_hs (fun t => v (st + t)) i)), (2, .int (nI (st + i)))] → W p l e (headSpec (ws_ yX1_hashCode cX1_hashCode 3 (some .int)) (fr_rm 1 0 0)).room s m ([.ref r] : List Value).toArray below meth c s.heap [] 0 0 (MQ below (k2_QcV (.int (fr_hs (fun t => v (st + t)) n))) ([.ref r] : List Value).toArray s 0 0 (fun _ => False)) (F0 m 7 ls []) from loop n 0 (by omega) ls (lv_sub hl [2, 1, 0] rfl)
  intro j
  induction j with
  | zero =>
    intro i hi ls hl
    refine lv_iload_n hx hb dX1_hashCode_7 rfl (lv_at hl 2 rfl) ?_
    refine lv_aload_n hx hb dX1_hashCode_8 rfl (lv_at hl 0 rfl) ?_
    refine fr_get (C := RX1) (T := TX1) (N := 3) (ci := 1) (v := .int (nI (st + n))) hx hb hts in_X1 hown hK hP0 rfl 2 (by decide) q136 rfl dX1_hashCode_9 ?_
    refine lv_icmp_ge (tgt := 38) hx hb dX1_hashCode_12 (by decide) (fun _ => ?_) (fun c_9 => absurd (show (nI (st + n)) ≤ (nI (st + i)) from nI_le (by omega) (by omega)) c_9)
    refine lv_iload_n hx hb dX1_hashCode_38 rfl (lv_at hl 1 rfl) ?_
    exact fr_riret hx hb hr hlocks dX1_hashCode_39 (by rw [show i = n by omega])
  | succ j ih =>
    intro i hi ls hl
    refine lv_iload_n hx hb dX1_hashCode_7 rfl (lv_at hl 2 rfl) ?_
    refine lv_aload_n hx hb dX1_hashCode_8 rfl (lv_at hl 0 rfl) ?_
    refine fr_get (C := RX1) (T := TX1) (N := 3) (ci := 1) (v := .int (nI (st + n))) hx hb hts in_X1 hown hK hP0 rfl 2 (by decide) q136 rfl dX1_hashCode_9 ?_
    refine lv_icmp_ge (tgt := 38) hx hb dX1_hashCode_12 (by decide) (fun c_9 => absurd c_9 (show ¬ (nI (st + n)) ≤ (nI (st + i)) from nI_ge (by omega) (by omega))) (fun _ => ?_)
    refine lv_iload_n hx hb dX1_hashCode_15 rfl (lv_at hl 1 rfl) ?_
    refine lv_bipush (v := 31) hx hb dX1_hashCode_16 (by decide) ?_
    refine lv_imul hx hb dX1_hashCode_18 ?_
    refine lv_istore_n (lv' := [(1, .int ((fr_hs (fun t => v (st + t)) i) * 31)), (0, .ref r), (2, .int (nI (st + i)))]) hx hb dX1_hashCode_19 rfl hl (by decide) rfl (fun ls hl => ?_)
    refine lv_iload_n hx hb dX1_hashCode_20 rfl (lv_at hl 0 rfl) ?_
    refine lv_aload_n hx hb dX1_hashCode_21 rfl (lv_at hl 1 rfl) ?_
    refine fr_get (C := RX1) (T := TX1) (N := 3) (ci := 1) (v := .ref a) hx hb hts in_X1 hown hK hP0 rfl 0 (by decide) q133 rfl dX1_hashCode_22 ?_
    refine lv_iload_n hx hb dX1_hashCode_25 rfl (lv_at hl 2 rfl) ?_
    refine fr_lald (j := (st + i)) (n := cap) (v := v) hx hb hK hP1 (rfl) (by omega) (by omega) dX1_hashCode_26 ?_
    refine fr_rS (As := [.long (v (st + i))]) (rest := [.int ((fr_hs (fun t => v (st + t)) i) * 31)]) ⟨hx, hb, hml, hown, hts⟩ (metJ9_hashCode l D k (v (st + i))) (va_cwS 1 hts (lw_S q361 q362 q20 q363) rfl rfl rfl (by decide +kernel) ⟨Nat.le_of_ble_eq_true rfl, Nat.le_of_ble_eq_true rfl⟩) hK (fr_nil) rfl hl.1 rfl (Nat.le_of_ble_eq_true rfl) dX1_hashCode_27 ⟨Nat.zero_le _, Nat.zero_le _⟩ ?_
    refine lv_iadd hx hb dX1_hashCode_30 ?_
    refine fr_topi (show (((fr_hs (fun t => v (st + t)) i) * 31) + (fr_h (v (st + i)))) = fr_hs (fun t => v (st + t)) (i + 1) from rfl) ?_
    refine lv_istore_n (lv' := [(1, .int (fr_hs (fun t => v (st + t)) (i + 1))), (0, .ref r), (2, .int (nI (st + i)))]) hx hb dX1_hashCode_31 rfl hl (by decide) rfl (fun ls hl => ?_)
    refine lv_iinc (v := nI (st + (i + 1))) (lv' := [(2, .int (nI (st + (i + 1)))), (1, .int (fr_hs (fun t => v (st + t)) (i + 1))), (0, .ref r)]) hx hb dX1_hashCode_32 hl (k := 2) rfl (show (nI (st + i)) + Int32.ofInt 1 = nI (st + (i + 1)) from nI_1 (st + i)) (by decide) rfl (fun ls hl => ?_)
    refine lv_goto (tgt := 7) hx hb dX1_hashCode_35 (by decide) ?_
    exact ih (i + 1) (by omega) ls (lv_sub hl [2, 1, 0] rfl)
set_option maxHeartbeats 4000000 in
set_option maxRecDepth 100000 in
/-- equals(that), that a row -/
theorem metX1_equals (l : Launch) (D : va_G) (k : fr_k) (r a st n cap : Nat) (v : Nat → Int64) (r2 a2 st2 n2 cap2 : Nat) (v2 : Nat → Int64) (h1 : st + n ≤ cap) (h2 : cap ≤ 200) (h3 : st2 + n2 ≤ cap2) (h4 : cap2 ≤ 200) : Met l yX1_equals (ws_ yX1_equals cX1_equals 4 (some .boolean)) (fr_rm 3 0 0) (fr_R D k [.ref r, .ref r2] [(r, fO 1 [.ref a, .int (nI st), .int (nI (st + n))]), (a, fL k cap v), (r2, fO 1 [.ref a2, .int (nI st2), .int (nI (st2 + n2))]), (a2, fL k cap2 v2)]) (k2_QcV (.int (if r2 = r then 1 else if n = n2 then fr_eqb (fun t => v (st + t)) (fun t => v2 (st2 + t)) n 0 else 0))) 0 0 (fun _ => False) := by
  refine Met.ofW (cc := cX1_equals) (maxL := 4) (ret := (some .boolean)) (by decide) rfl ?_
  intro p e s m args below meth c s₁ B hml hv
  obtain ⟨rfl, hP, hK⟩ := hv
  have hx := B.exec
  have hb := B.bytes
  have hr := B.returns
  have hts := atoms_spec (ws := ws_ yX1_equals cX1_equals 4 (some .boolean)) B.pre
  have hts : ∀ w ∈ lw_all, w.before _ s = true := fun w h => hts w (List.mem_cons_of_mem _ h)
  have hown : s.vm.findClass RX1 = some m.cls := findClass_of_methodNamed B.named
  have hlocks := B.notSynchronized
  have hP0 := hP.sub (ws' := [(r, fO 1 [.ref a, .int (nI st), .int (nI (st + n))])]) [0] rfl
  have hP1 := hP.sub (ws' := [(a, fL k cap v)]) [1] rfl
  have hP2 := hP.sub (ws' := [(r2, fO 1 [.ref a2, .int (nI st2), .int (nI (st2 + n2))])]) [2] rfl
  have hP3 := hP.sub (ws' := [(a2, fL k cap2 v2)]) [3] rfl
  have hl := lv_entry ([.ref r, .ref r2]) (n := 4) (Nat.le_of_ble_eq_true rfl)
  rw [lg_entry_eq]
  generalize (lg_sl ([.ref r, .ref r2]) ++ List.replicate (4 - (lg_sl ([.ref r, .ref r2])).length) Slot.unset).toArray = ls at hl ⊢
  have hl : lv_has ls 4 [(0, .ref r), (1, .ref r2)] := hl
  refine lv_aload_n hx hb dX1_equals_0 rfl (lv_at hl 1 rfl) ?_
  refine lv_aload_n hx hb dX1_equals_1 rfl (lv_at hl 0 rfl) ?_
  refine lv_acmp_ne (rx := some r2) (ry := some r) (tgt := 7) hx hb dX1_equals_2 (by decide) (fun c_1 => ?_) (fun c_1 => ?_)
  · have hne : ¬ r2 = r := fun h => c_1 (by rw [h])
    refine lv_aload_n hx hb dX1_equals_7 rfl (lv_at hl 1 rfl) ?_
    refine va_instE (nm := "ImmutableLongArray") hx hb hown (hts _ q123) (va_recv hK.1 hP2 (ci := 1) (q0 := 0) rfl rfl) dX1_equals_8 ?_
    refine lv_if_ne (tgt := 16) hx hb dX1_equals_11 (by decide) (fun _ => ?_) (fun c_9 => absurd c_9 (show ¬ 1 = 0 from by decide))
    refine lv_aload_n hx hb dX1_equals_16 rfl (lv_at hl 1 rfl) ?_
    refine va_castE (nm := "ImmutableLongArray") hx hb hown (hts _ q123) (va_recv hK.1 hP2 (ci := 1) (q0 := 0) rfl rfl) dX1_equals_17 ?_
    refine lv_astore_n (lv' := [(2, .ref r2), (0, .ref r), (1, .ref r2)]) hx hb dX1_equals_20 rfl hl (by decide) rfl (fun ls hl => ?_)
    refine lv_aload_n hx hb dX1_equals_21 rfl (lv_at hl 1 rfl) ?_
    refine fr_rV (As := []) (rest := []) (ci := 1) ⟨hx, hb, hml, hown, hts⟩ (metX1_length l D k r a st n) (cwV 0 hts (lw_V q252 q219 q220 q5 q221) rfl rfl rfl (by decide +kernel) ⟨Nat.le_of_ble_eq_true rfl, Nat.le_of_ble_eq_true rfl⟩) hK (hP0) rfl rfl rfl rfl hl.1 rfl (Nat.le_of_ble_eq_true rfl) dX1_equals_22 ⟨Nat.zero_le _, Nat.zero_le _⟩ ?_
    refine lv_aload_n hx hb dX1_equals_25 rfl (lv_at hl 0 rfl) ?_
    refine fr_rV (As := []) (rest := [.int (nI n)]) (ci := 1) ⟨hx, hb, hml, hown, hts⟩ (metX1_length l D k r2 a2 st2 n2) (cwV 0 hts (lw_V q252 q219 q220 q5 q221) rfl rfl rfl (by decide +kernel) ⟨Nat.le_of_ble_eq_true rfl, Nat.le_of_ble_eq_true rfl⟩) hK (hP2) rfl rfl rfl rfl hl.1 rfl (Nat.le_of_ble_eq_true rfl) dX1_equals_26 ⟨Nat.zero_le _, Nat.zero_le _⟩ ?_
    refine lv_icmp_eq (tgt := 34) hx hb dX1_equals_29 (by decide) (fun c_2 => ?_) (fun c_2 => ?_)
    · have hn : n = n2 := (nI_eq (by omega) (by omega)).mp c_2
      refine lv_iconst (v := 0) hx hb dX1_equals_34 (by decide) ?_
      refine lv_istore_n (lv' := [(3, .int 0), (2, .ref r2), (0, .ref r), (1, .ref r2)]) hx hb dX1_equals_35 rfl hl (by decide) rfl (fun ls hl => ?_)
      suffices loop : ∀ (j i : Nat), i + j = n → fr_eqb (fun t => v (st + t)) (fun t => v2 (st2 + t)) j i = fr_eqb (fun t => v (st + t)) (fun t => v2 (st2 + t)) n 0 → ∀ ls : Array Slot, lv_has ls 4 [(0, .ref r), (2, .ref r2), (3, .int (nI i))] → W p l e (headSpec (ws_ yX1_equals cX1_equals 4 (some .boolean)) (fr_rm 3 0 0)).room s m ([.ref r, .ref r2] : List Value).toArray below meth c s.heap [] 0 0 (MQ below (k2_QcV (.int (if r2 = r then 1 else if n = n2 then fr_eqb (fun t => v (st + t)) (fun t => v2 (st2 + t)) n 0 else 0))) ([.ref r, .ref r2] : List Value).toArray s 0 0 (fun _ => False)) (F0 m 36 ls []) from loop n 0 (by omega) rfl ls (lv_sub hl [2, 1, 0] rfl)
      intro j
      induction j with
      | zero =>
        intro i hi hv ls hl
        refine lv_iload_n hx hb dX1_equals_36 rfl (lv_at hl 2 rfl) ?_
        refine lv_aload_n hx hb dX1_equals_37 rfl (lv_at hl 0 rfl) ?_
        refine fr_rV (As := []) (rest := [.int (nI i)]) (ci := 1) ⟨hx, hb, hml, hown, hts⟩ (metX1_length l D k r a st n) (cwV 0 hts (lw_V q252 q219 q220 q5 q221) rfl rfl rfl (by decide +kernel) ⟨Nat.le_of_ble_eq_true rfl, Nat.le_of_ble_eq_true rfl⟩) hK (hP0) rfl rfl rfl rfl hl.1 rfl (Nat.le_of_ble_eq_true rfl) dX1_equals_38 ⟨Nat.zero_le _, Nat.zero_le _⟩ ?_
        refine lv_icmp_ge (tgt := 66) hx hb dX1_equals_41 (by decide) (fun _ => ?_) (fun c_9 => absurd (show (nI n) ≤ (nI i) from nI_le (by omega) (by omega)) c_9)
        refine lv_iconst (v := 1) hx hb dX1_equals_66 (by decide) ?_
        exact fr_rzret hx hb hr hlocks dX1_equals_67 (Or.inr rfl) (by rw [if_neg hne, if_pos hn]; exact hv)
      | succ j ih =>
        intro i hi hv ls hl
        refine lv_iload_n hx hb dX1_equals_36 rfl (lv_at hl 2 rfl) ?_
        refine lv_aload_n hx hb dX1_equals_37 rfl (lv_at hl 0 rfl) ?_
        refine fr_rV (As := []) (rest := [.int (nI i)]) (ci := 1) ⟨hx, hb, hml, hown, hts⟩ (metX1_length l D k r a st n) (cwV 0 hts (lw_V q252 q219 q220 q5 q221) rfl rfl rfl (by decide +kernel) ⟨Nat.le_of_ble_eq_true rfl, Nat.le_of_ble_eq_true rfl⟩) hK (hP0) rfl rfl rfl rfl hl.1 rfl (Nat.le_of_ble_eq_true rfl) dX1_equals_38 ⟨Nat.zero_le _, Nat.zero_le _⟩ ?_
        refine lv_icmp_ge (tgt := 66) hx hb dX1_equals_41 (by decide) (fun c_9 => absurd c_9 (show ¬ (nI n) ≤ (nI i) from nI_ge (by omega) (by omega))) (fun _ => ?_)
        refine lv_aload_n hx hb dX1_equals_44 rfl (lv_at hl 0 rfl) ?_
        refine lv_iload_n hx hb dX1_equals_45 rfl (lv_at hl 2 rfl) ?_
        refine fr_rV (As := [.int (nI i)]) (rest := []) (ci := 1) ⟨hx, hb, hml, hown, hts⟩ (metX1_get l D k r a st n cap i v h1 h2 (by omega)) (cwV 1 hts (lw_V q352 q305 q306 q5 q307) rfl rfl rfl (by decide +kernel) ⟨Nat.le_of_ble_eq_true rfl, Nat.le_of_ble_eq_true rfl⟩) hK (fr_cons hP0 hP1) rfl rfl rfl rfl hl.1 rfl (Nat.le_of_ble_eq_true rfl) dX1_equals_46 ⟨Nat.zero_le _, Nat.zero_le _⟩ ?_
        refine lv_aload_n hx hb dX1_equals_49 rfl (lv_at hl 1 rfl) ?_
        refine lv_iload_n hx hb dX1_equals_50 rfl (lv_at hl 2 rfl) ?_
        refine fr_rV (As := [.int (nI i)]) (rest := [.long (v (st + i))]) (ci := 1) ⟨hx, hb, hml, hown, hts⟩ (metX1_get l D k r2 a2 st2 n2 cap2 i v2 h3 h4 (by omega)) (cwV 1 hts (lw_V q352 q305 q306 q5 q307) rfl rfl rfl (by decide +kernel) ⟨Nat.le_of_ble_eq_true rfl, Nat.le_of_ble_eq_true rfl⟩) hK (fr_cons hP2 hP3) rfl rfl rfl rfl hl.1 rfl (Nat.le_of_ble_eq_true rfl) dX1_equals_51 ⟨Nat.zero_le _, Nat.zero_le _⟩ ?_
        refine W.lcmp hx hb dX1_equals_54 ?_
        refine lv_if_eq (tgt := 60) hx hb dX1_equals_55 (by decide) (fun c_3 => ?_) (fun c_3 => ?_)
        · have hq : v (st + i) = v2 (st2 + i) := (lg_cmp_eq _ _).mp c_3
          refine lv_iinc (v := nI (i + 1)) (lv' := [(3, .int (nI (i + 1))), (0, .ref r), (2, .ref r2)]) hx hb dX1_equals_60 hl (k := 2) rfl (show (nI i) + Int32.ofInt 1 = nI (i + 1) from nI_1 i) (by decide) rfl (fun ls hl => ?_)
          refine lv_goto (tgt := 36) hx hb dX1_equals_63 (by decide) ?_
          exact ih (i + 1) (by omega) ((fr_eqb_t (z := (fun t => v (st + t))) (y := (fun t => v2 (st2 + t))) hq).symm.trans hv) ls (lv_sub hl [1, 2, 0] rfl)
        · have hq : ¬ v (st + i) = v2 (st2 + i) := fun h => c_3 ((lg_cmp_eq _ _).mpr h)
          refine lv_iconst (v := 0) hx hb dX1_equals_58 (by decide) ?_
          exact fr_rzret hx hb hr hlocks dX1_equals_59 (Or.inl rfl) (by rw [if_neg hne, if_pos hn]; exact (fr_eqb_f (z := (fun t => v (st + t))) (y := (fun t => v2 (st2 + t))) hq).symm.trans hv)
    · have hn : ¬ n = n2 := fun h => c_2 (by rw [h])
      refine lv_iconst (v := 0) hx hb dX1_equals_32 (by decide) ?_
      exact fr_rzret hx hb hr hlocks dX1_equals_33 (Or.inl rfl) (by rw [if_neg hne, if_neg hn])
  · have he : r2 = r := Option.some.inj c_1
    refine lv_iconst (v := 1) hx hb dX1_equals_5 (by decide) ?_
    exact fr_rzret hx hb hr hlocks dX1_equals_6 (Or.inr rfl) ((if_pos he).symm)
end
section
set_option maxRecDepth 100000
/-! what a method that makes a row, or an array of longs, says of it -/
def fr_View (k : fr_k) (L : List Nat) (f : Nat → va_E) (z a st n cap : Nat) (v : Nat → Int64) : Prop := z ∈ L ∧ f z = fO 1 [.ref a, .int (nI st), .int (nI (st + n))] ∧ a ∈ L ∧ f a = fL k cap v ∧ st + n ≤ cap ∧ cap ≤ 200
def fr_New (k : fr_k) (L : List Nat) (f : Nat → va_E) (L1 : List Nat) (f1 : Nat → va_E) (z n : Nat) (y : Nat → Int64) (P : Nat → Nat → Prop) : Prop := wX L f L1 f1 ∧ ∃ (a st cap : Nat) (v : Nat → Int64), fr_View k L1 f1 z a st n cap v ∧ (a ∉ L ∨ P a st) ∧ ∀ t, t < n → v (st + t) = y t
def fr_NewL (k : fr_k) (L : List Nat) (f : Nat → va_E) (L1 : List Nat) (f1 : Nat → va_E) (q N n : Nat) (y : Nat → Int64) : Prop := wX L f L1 f1 ∧ q ∉ L ∧ q ∈ L1 ∧ ∃ v : Nat → Int64, f1 q = fL k N v ∧ ∀ t, t < n → v t = y t
theorem fr_cpy0 {v g : Nat → Int64} {sp n t : Nat} (h : t < n) : va_cpy v g sp 0 n t = v (sp + t) := by
  rw [pk_cpy_in (Nat.zero_le t) (by omega), Nat.sub_zero]
theorem fr_minr {a b : Nat} (h : a ≤ b) (hb : b < 65536) : (if nI a < nI b then nI a else nI b) = nI a := by
  by_cases c : a = b
  · rw [c, if_neg (nI_nlt (Nat.le_refl b) (by omega))]
  · rw [if_pos (nI_lt (by omega) (by omega))]
theorem fr_minl {a b : Nat} (h : a ≤ b) (hb : b < 65536) : (if nI b < nI a then nI b else nI a) = nI a := if_neg (nI_nlt h (by omega))
set_option maxHeartbeats 4000000 in
set_option maxRecDepth 100000 in
/-- Arrays.copyOf, to a greater length -/
theorem metJ6_copyOf (l : Launch) (D : va_G) (k : fr_k) (A : Nat → Prop) (sz : Nat) (L : List Nat) (f : Nat → va_E) (a cap N : Nat) (v : Nat → Int64) (h1 : cap < N) (h2 : N ≤ 200) (m_a : a ∈ L) (v_a : f a = fL k cap v) (hA : ∀ q, sz ≤ q → A q) : Met l yJ6_copyOf (ws_ yJ6_copyOf cJ6_copyOf 3 (some (.array .long))) (fr_rm 0 1 200) (fr_W D k A [.ref a, .int (nI N)] sz L f) (fr_Qr D A (fun L1 f1 q => fr_NewL k L f L1 f1 q N cap v)) 1 200 A := by
  refine Met.ofW (cc := cJ6_copyOf) (maxL := 3) (ret := (some (.array .long))) (by decide) rfl ?_
  intro p e s m args below meth c s₁ B hml hv
  obtain ⟨rfl, ⟨hsz, hI⟩, hK⟩ := hv
  have hx := B.exec
  have hb := B.bytes
  have hr := B.returns
  have hts := atoms_spec (ws := ws_ yJ6_copyOf cJ6_copyOf 3 (some (.array .long))) B.pre
  have hts : ∀ w ∈ lw_all, w.before _ s = true := fun w h => hts w (List.mem_cons_of_mem _ h)
  have hown : s.vm.findClass RJ6 = some m.cls := findClass_of_methodNamed B.named
  have hlocks := B.notSynchronized
  subst hsz
  have hS : va_S A s.heap s.heap [] := va_S.rf
  have hl := lv_entry ([.ref a, .int (nI N)]) (n := 3) (Nat.le_of_ble_eq_true rfl)
  rw [lg_entry_eq]
  generalize (lg_sl ([.ref a, .int (nI N)]) ++ List.replicate (3 - (lg_sl ([.ref a, .int (nI N)])).length) Slot.unset).toArray = ls at hl ⊢
  have hl : lv_has ls 3 [(0, .ref a), (1, .int (nI N))] := hl
  refine lv_iload_n hx hb dJ6_copyOf_0 rfl (lv_at hl 1 rfl) ?_
  refine lv_aload_n hx hb dJ6_copyOf_1 rfl (lv_at hl 0 rfl) ?_
  refine fr_alen (n := cap) hx hb hK (hI.in m_a v_a) dJ6_copyOf_2 ?_
  refine lv_icmp_ne (tgt := 14) hx hb dJ6_copyOf_3 (by decide) (fun _ => ?_) (fun c_9 => absurd c_9 (show ¬ (nI N) = (nI cap) from fun h => absurd ((nI_eq (by omega) (by omega)).mp h) (by omega)))
  refine lv_iload_n hx hb dJ6_copyOf_14 rfl (lv_at hl 1 rfl) ?_
  refine fr_newl (N := N) hx hb hts hK hI hS hA (rfl) (by omega) (Nat.le_of_ble_eq_true rfl) (by show 0 + N ≤ 200; omega) dJ6_copyOf_15 (fun q H L_1 f_1 q_1 m_q v_q x_1 hI hS => ?_)
  have p_a_q := fr_neq m_a q_1
  have v_a := x_1.v m_a v_a
  have m_a := x_1.m m_a
  refine W.widen (k := 1) (n := 200) (by omega) (by omega) ?_
  refine lv_astore_n (lv' := [(2, .ref q), (0, .ref a), (1, .int (nI N))]) hx hb dJ6_copyOf_17 rfl hl (by decide) rfl (fun ls hl => ?_)
  refine lv_aload_n hx hb dJ6_copyOf_18 rfl (lv_at hl 1 rfl) ?_
  refine lv_iconst (v := 0) hx hb dJ6_copyOf_19 (by decide) ?_
  refine lv_aload_n hx hb dJ6_copyOf_20 rfl (lv_at hl 0 rfl) ?_
  refine lv_iconst (v := 0) hx hb dJ6_copyOf_21 (by decide) ?_
  refine lv_aload_n hx hb dJ6_copyOf_22 rfl (lv_at hl 1 rfl) ?_
  refine fr_alen (n := cap) hx hb hK (hI.in m_a v_a) dJ6_copyOf_23 ?_
  refine lv_iload_n hx hb dJ6_copyOf_24 rfl (lv_at hl 2 rfl) ?_
  refine va_mmin hx hb (hml.trans hl.1.symm) hown (hts _ q208) (hts _ q209) (hts _ q17) (hts _ q210) (Nat.le_of_ble_eq_true rfl) (Nat.le_of_ble_eq_true rfl) (Nat.le_of_ble_eq_true rfl) (Nat.le_of_ble_eq_true rfl) dJ6_copyOf_25 ?_
  refine fr_topi (show (if (nI N) < (nI cap) then (nI N) else (nI cap)) = nI cap from fr_minl (by omega) (by omega)) ?_
  refine fr_copyl (n0 := cap) (n1 := N) (v0 := v) (v1 := (fun _ => 0)) (sp := 0) (dp := 0) (n := cap) hx hb (hml.trans hl.1.symm) hts hown q211 hK hI hS m_a v_a m_q v_q (rfl) (rfl) (rfl) (by omega) (by omega) (by omega) (by omega) (Nat.le_of_ble_eq_true rfl) (Nat.le_of_ble_eq_true rfl) dJ6_copyOf_28 (fun H locs f_2 e_2 o_2 hI hS => ?_)
  have v_a : f_2 a = fL k cap v := (o_2 _ (p_a_q)).trans v_a
  have v_q : f_2 q = fL k N (va_cpy v (fun _ => 0) 0 0 cap) := e_2
  refine lv_aload_n hx hb dJ6_copyOf_31 rfl (lv_at hl 0 rfl) ?_
  exact fr_aret hx hb hr (Or.inr ⟨_, rfl⟩) hlocks hI (⟨fun b hb => ⟨x_1.m (hb), ((o_2 b (fr_neq hb q_1))).trans ((x_1 b (hb)).2)⟩, q_1, m_q, _, v_q, fun t ht => by rw [fr_cpy0 ht, Nat.zero_add]⟩) hS (by omega) (by omega) dJ6_copyOf_32
set_option maxHeartbeats 4000000 in
set_option maxRecDepth 100000 in
/-- copyOfRangeLong -/
theorem metJ6_copyOfRangeLong (l : Launch) (D : va_G) (k : fr_k) (A : Nat → Prop) (sz : Nat) (L : List Nat) (f : Nat → va_E) (a st n cap : Nat) (v : Nat → Int64) (h1 : st + n ≤ cap) (h2 : cap ≤ 200) (m_a : a ∈ L) (v_a : f a = fL k cap v) (hA : ∀ q, sz ≤ q → A q) : Met l yJ6_copyOfRangeLong (ws_ yJ6_copyOfRangeLong cJ6_copyOfRangeLong 5 (some (.array .long))) (fr_rm 1 1 200) (fr_W D k A [.ref a, .int (nI st), .int (nI (st + n))] sz L f) (fr_Qr D A (fun L1 f1 q => fr_NewL k L f L1 f1 q n n (fun t => v (st + t)))) 1 200 A := by
  refine Met.ofW (cc := cJ6_copyOfRangeLong) (maxL := 5) (ret := (some (.array .long))) (by decide) rfl ?_
  intro p e s m args below meth c s₁ B hml hv
  obtain ⟨rfl, ⟨hsz, hI⟩, hK⟩ := hv
  have hx := B.exec
  have hb := B.bytes
  have hr := B.returns
  have hts := atoms_spec (ws := ws_ yJ6_copyOfRangeLong cJ6_copyOfRangeLong 5 (some (.array .long))) B.pre
  have hts : ∀ w ∈ lw_all, w.before _ s = true := fun w h => hts w (List.mem_cons_of_mem _ h)
  have hown : s.vm.findClass RJ6 = some m.cls := findClass_of_methodNamed B.named
  have hlocks := B.notSynchronized
  subst hsz
  have hS : va_S A s.heap s.heap [] := va_S.rf
  have hl := lv_entry ([.ref a, .int (nI st), .int (nI (st + n))]) (n := 5) (Nat.le_of_ble_eq_true rfl)
  rw [lg_entry_eq]
  generalize (lg_sl ([.ref a, .int (nI st), .int (nI (st + n))]) ++ List.replicate (5 - (lg_sl ([.ref a, .int (nI st), .int (nI (st + n))])).length) Slot.unset).toArray = ls at hl ⊢
  have hl : lv_has ls 5 [(0, .ref a), (1, .int (nI st)), (2, .int (nI (st + n)))] := hl
  refine lv_iload_n hx hb dJ6_copyOfRangeLong_0 rfl (lv_at hl 1 rfl) ?_
  refine lv_iload_n hx hb dJ6_copyOfRangeLong_1 rfl (lv_at hl 2 rfl) ?_
  refine fr_rSv (As := [.int (nI st), .int (nI (st + n))]) (rest := []) ⟨hx, hb, hml, hown, hts⟩ (metJ6_checkLength l D k st (st + n) (by omega) (by omega)) (va_cwS 2 hts (lw_S q293 q294 q16 q295) rfl rfl rfl (by decide +kernel) ⟨Nat.le_of_ble_eq_true rfl, Nat.le_of_ble_eq_true rfl⟩) hK (fr_nil) rfl hl.1 rfl (Nat.le_of_ble_eq_true rfl) dJ6_copyOfRangeLong_2 ⟨Nat.zero_le _, Nat.zero_le _⟩ ?_
  refine lv_iload_n hx hb dJ6_copyOfRangeLong_5 rfl (lv_at hl 2 rfl) ?_
  refine lv_iload_n hx hb dJ6_copyOfRangeLong_6 rfl (lv_at hl 1 rfl) ?_
  refine lv_isub hx hb dJ6_copyOfRangeLong_7 ?_
  refine fr_topi (show ((nI (st + n)) - (nI st)) = nI n from fr_len st n) ?_
  refine lv_istore_n (lv' := [(3, .int (nI n)), (0, .ref a), (1, .int (nI st)), (2, .int (nI (st + n)))]) hx hb dJ6_copyOfRangeLong_8 rfl hl (by decide) rfl (fun ls hl => ?_)
  refine lv_iload_n hx hb dJ6_copyOfRangeLong_9 rfl (lv_at hl 0 rfl) ?_
  refine fr_newl (N := n) hx hb hts hK hI hS hA (rfl) (by omega) (Nat.le_of_ble_eq_true rfl) (by show 0 + n ≤ 200; omega) dJ6_copyOfRangeLong_10 (fun q H L_1 f_1 q_1 m_q v_q x_1 hI hS => ?_)
  have p_a_q := fr_neq m_a q_1
  have v_a := x_1.v m_a v_a
  have m_a := x_1.m m_a
  refine W.widen (k := 1) (n := 200) (by omega) (by omega) ?_
  refine lv_astore (lv' := [(4, .ref q), (3, .int (nI n)), (0, .ref a), (1, .int (nI st)), (2, .int (nI (st + n)))]) hx hb dJ6_copyOfRangeLong_12 hl (by decide) rfl (fun ls hl => ?_)
  refine lv_aload_n hx hb dJ6_copyOfRangeLong_14 rfl (lv_at hl 2 rfl) ?_
  refine lv_iload_n hx hb dJ6_copyOfRangeLong_15 rfl (lv_at hl 3 rfl) ?_
  refine lv_aload hx hb dJ6_copyOfRangeLong_16 (lv_at hl 0 rfl) ?_
  refine lv_iconst (v := 0) hx hb dJ6_copyOfRangeLong_18 (by decide) ?_
  refine lv_aload_n hx hb dJ6_copyOfRangeLong_19 rfl (lv_at hl 2 rfl) ?_
  refine fr_alen (n := cap) hx hb hK (hI.in m_a v_a) dJ6_copyOfRangeLong_20 ?_
  refine lv_iload_n hx hb dJ6_copyOfRangeLong_21 rfl (lv_at hl 3 rfl) ?_
  refine lv_isub hx hb dJ6_copyOfRangeLong_22 ?_
  refine fr_topi (show ((nI cap) - (nI st)) = nI (cap - st) from pk_sub (by omega)) ?_
  refine lv_iload_n hx hb dJ6_copyOfRangeLong_23 rfl (lv_at hl 1 rfl) ?_
  refine va_mmin hx hb (hml.trans hl.1.symm) hown (hts _ q208) (hts _ q209) (hts _ q17) (hts _ q210) (Nat.le_of_ble_eq_true rfl) (Nat.le_of_ble_eq_true rfl) (Nat.le_of_ble_eq_true rfl) (Nat.le_of_ble_eq_true rfl) dJ6_copyOfRangeLong_24 ?_
  refine fr_topi (show (if (nI n) < (nI (cap - st)) then (nI n) else (nI (cap - st))) = nI n from fr_minr (by omega) (by omega)) ?_
  refine fr_copyl (n0 := cap) (n1 := n) (v0 := v) (v1 := (fun _ => 0)) (sp := st) (dp := 0) (n := n) hx hb (hml.trans hl.1.symm) hts hown q211 hK hI hS m_a v_a m_q v_q (rfl) (rfl) (rfl) (h1) (by omega) (by omega) (by omega) (Nat.le_of_ble_eq_true rfl) (Nat.le_of_ble_eq_true rfl) dJ6_copyOfRangeLong_27 (fun H locs f_2 e_2 o_2 hI hS => ?_)
  have v_a : f_2 a = fL k cap v := (o_2 _ (p_a_q)).trans v_a
  have v_q : f_2 q = fL k n (va_cpy v (fun _ => 0) st 0 n) := e_2
  refine lv_aload hx hb dJ6_copyOfRangeLong_30 (lv_at hl 0 rfl) ?_
  exact fr_aret hx hb hr (Or.inr ⟨_, rfl⟩) hlocks hI (⟨fun b hb => ⟨x_1.m (hb), ((o_2 b (fr_neq hb q_1))).trans ((x_1 b (hb)).2)⟩, q_1, m_q, _, v_q, fun t ht => fr_cpy0 ht⟩) hS (by omega) (by omega) dJ6_copyOfRangeLong_32
set_option maxHeartbeats 4000000 in
set_option maxRecDepth 100000 in
/-- Arrays.copyOfRange -/
theorem metJ6_copyOfRange (l : Launch) (D : va_G) (k : fr_k) (A : Nat → Prop) (sz : Nat) (L : List Nat) (f : Nat → va_E) (a st n cap : Nat) (v : Nat → Int64) (h1 : st + n ≤ cap) (h2 : cap ≤ 200) (m_a : a ∈ L) (v_a : f a = fL k cap v) (hA : ∀ q, sz ≤ q → A q) : Met l yJ6_copyOfRange (ws_ yJ6_copyOfRange cJ6_copyOfRange 3 (some (.array .long))) (fr_rm 2 1 200) (fr_W D k A [.ref a, .int (nI st), .int (nI (st + n))] sz L f) (fr_Qr D A (fun L1 f1 q => fr_NewL k L f L1 f1 q n n (fun t => v (st + t)))) 1 200 A := by
  refine Met.ofW (cc := cJ6_copyOfRange) (maxL := 3) (ret := (some (.array .long))) (by decide) rfl ?_
  intro p e s m args below meth c s₁ B hml hv
  obtain ⟨rfl, ⟨hsz, hI⟩, hK⟩ := hv
  have hx := B.exec
  have hb := B.bytes
  have hr := B.returns
  have hts := atoms_spec (ws := ws_ yJ6_copyOfRange cJ6_copyOfRange 3 (some (.array .long))) B.pre
  have hts : ∀ w ∈ lw_all, w.before _ s = true := fun w h => hts w (List.mem_cons_of_mem _ h)
  have hown : s.vm.findClass RJ6 = some m.cls := findClass_of_methodNamed B.named
  have hlocks := B.notSynchronized
  subst hsz
  have hS : va_S A s.heap s.heap [] := va_S.rf
  have hl := lv_entry ([.ref a, .int (nI st), .int (nI (st + n))]) (n := 3) (Nat.le_of_ble_eq_true rfl)
  rw [lg_entry_eq]
  generalize (lg_sl ([.ref a, .int (nI st), .int (nI (st + n))]) ++ List.replicate (3 - (lg_sl ([.ref a, .int (nI st), .int (nI (st + n))])).length) Slot.unset).toArray = ls at hl ⊢
  have hl : lv_has ls 3 [(0, .ref a), (1, .int (nI st)), (2, .int (nI (st + n)))] := hl
  refine lv_iload_n hx hb dJ6_copyOfRange_0 rfl (lv_at hl 1 rfl) ?_
  refine lv_if_ne (tgt := 10) hx hb dJ6_copyOfRange_1 (by decide) (fun c_1 => ?_) (fun c_1 => ?_)
  · refine lv_aload_n hx hb dJ6_copyOfRange_10 rfl (lv_at hl 0 rfl) ?_
    refine lv_iload_n hx hb dJ6_copyOfRange_11 rfl (lv_at hl 1 rfl) ?_
    refine lv_iload_n hx hb dJ6_copyOfRange_12 rfl (lv_at hl 2 rfl) ?_
    refine fr_cr (fr_runS (As := [.ref a, .int (nI st), .int (nI (st + n))]) (rest := []) ⟨hx, hb, hml, hown, hts⟩ (metJ6_copyOfRangeLong l D k A s.heap.size L f a st n cap v h1 h2 m_a v_a (fun q h => hA q (Nat.le_trans hS.1 h))) (va_cwS 3 hts (lw_S q290 q291 q16 q292) rfl rfl rfl (by decide +kernel) ⟨Nat.le_of_ble_eq_true rfl, Nat.le_of_ble_eq_true rfl⟩) hK hI rfl hl.1 rfl (Nat.le_of_ble_eq_true rfl) dJ6_copyOfRange_13 ⟨Nat.le_of_ble_eq_true rfl, Nat.le_of_ble_eq_true rfl⟩) hS (fun q L_1 f_1 H locs hI hq hS => ?_)
    exact fr_aret hx hb hr (Or.inr ⟨_, rfl⟩) hlocks hI (hq) hS (by omega) (by omega) dJ6_copyOfRange_16
  · have hst : st = 0 := (nI_eq (b := 0) (by omega) (by omega)).mp c_1
    refine lv_iload_n hx hb dJ6_copyOfRange_4 rfl (lv_at hl 2 rfl) ?_
    refine lv_aload_n hx hb dJ6_copyOfRange_5 rfl (lv_at hl 0 rfl) ?_
    refine fr_alen (n := cap) hx hb hK (hI.in m_a v_a) dJ6_copyOfRange_6 ?_
    refine lv_icmp_eq (tgt := 17) hx hb dJ6_copyOfRange_7 (by decide) (fun c_2 => ?_) (fun c_2 => ?_)
    · have hn : st + n = cap := (nI_eq (by omega) (by omega)).mp c_2
      refine lv_aload_n hx hb dJ6_copyOfRange_17 rfl (lv_at hl 0 rfl) ?_
      refine fr_clone hx hb (hml.trans hl.1.symm) hts hown q201 hK hI hS hA m_a v_a (Nat.le_of_ble_eq_true rfl) (Nat.le_of_ble_eq_true rfl) (Nat.le_of_ble_eq_true rfl) (by show 0 + cap ≤ 200; omega) dJ6_copyOfRange_18 (fun q H L_1 f_1 q_1 m_q v_q x_1 hI hS => ?_)
      have p_a_q := fr_neq m_a q_1
      have v_a := x_1.v m_a v_a
      have m_a := x_1.m m_a
      refine W.widen (k := 1) (n := 200) (by omega) (by omega) ?_
      refine fr_castl (N := cap) (v := v) hx hb hts hown q207 hK (hI.in m_q v_q) dJ6_copyOfRange_21 ?_
      exact fr_aret hx hb hr (Or.inr ⟨_, rfl⟩) hlocks hI (⟨fun b hb => ⟨x_1.m (hb), (x_1 b (hb)).2⟩, q_1, m_q, _, v_q.trans (by rw [show cap = n by omega]), fun t ht => by rw [hst]; show v t = v (0 + t); rw [Nat.zero_add]⟩) hS (by omega) (by omega) dJ6_copyOfRange_24
    · refine lv_aload_n hx hb dJ6_copyOfRange_10 rfl (lv_at hl 0 rfl) ?_
      refine lv_iload_n hx hb dJ6_copyOfRange_11 rfl (lv_at hl 1 rfl) ?_
      refine lv_iload_n hx hb dJ6_copyOfRange_12 rfl (lv_at hl 2 rfl) ?_
      refine fr_cr (fr_runS (As := [.ref a, .int (nI st), .int (nI (st + n))]) (rest := []) ⟨hx, hb, hml, hown, hts⟩ (metJ6_copyOfRangeLong l D k A s.heap.size L f a st n cap v h1 h2 m_a v_a (fun q h => hA q (Nat.le_trans hS.1 h))) (va_cwS 3 hts (lw_S q290 q291 q16 q292) rfl rfl rfl (by decide +kernel) ⟨Nat.le_of_ble_eq_true rfl, Nat.le_of_ble_eq_true rfl⟩) hK hI rfl hl.1 rfl (Nat.le_of_ble_eq_true rfl) dJ6_copyOfRange_13 ⟨Nat.le_of_ble_eq_true rfl, Nat.le_of_ble_eq_true rfl⟩) hS (fun q L_1 f_1 H locs hI hq hS => ?_)
      exact fr_aret hx hb hr (Or.inr ⟨_, rfl⟩) hlocks hI (hq) hS (by omega) (by omega) dJ6_copyOfRange_16
set_option maxHeartbeats 4000000 in
set_option maxRecDepth 100000 in
/-- toArray() -/
theorem metX1_toArray (l : Launch) (D : va_G) (k : fr_k) (A : Nat → Prop) (sz : Nat) (L : List Nat) (f : Nat → va_E) (r a st n cap : Nat) (v : Nat → Int64) (h1 : st + n ≤ cap) (h2 : cap ≤ 200) (m_r : r ∈ L) (v_r : f r = fO 1 [.ref a, .int (nI st), .int (nI (st + n))]) (m_a : a ∈ L) (v_a : f a = fL k cap v) (hA : ∀ q, sz ≤ q → A q) : Met l yX1_toArray (ws_ yX1_toArray cX1_toArray 1 (some (.array .long))) (fr_rm 3 1 200) (fr_W D k A [.ref r] sz L f) (fr_Qr D A (fun L1 f1 q => fr_NewL k L f L1 f1 q n n (fun t => v (st + t)))) 1 200 A := by
  refine Met.ofW (cc := cX1_toArray) (maxL := 1) (ret := (some (.array .long))) (by decide) rfl ?_
  intro p e s m args below meth c s₁ B hml hv
  obtain ⟨rfl, ⟨hsz, hI⟩, hK⟩ := hv
  have hx := B.exec
  have hb := B.bytes
  have hr := B.returns
  have hts := atoms_spec (ws := ws_ yX1_toArray cX1_toArray 1 (some (.array .long))) B.pre
  have hts : ∀ w ∈ lw_all, w.before _ s = true := fun w h => hts w (List.mem_cons_of_mem _ h)
  have hown : s.vm.findClass RX1 = some m.cls := findClass_of_methodNamed B.named
  have hlocks := B.notSynchronized
  subst hsz
  have hS : va_S A s.heap s.heap [] := va_S.rf
  have hl := lv_entry ([.ref r]) (n := 1) (Nat.le_of_ble_eq_true rfl)
  rw [lg_entry_eq]
  generalize (lg_sl ([.ref r]) ++ List.replicate (1 - (lg_sl ([.ref r])).length) Slot.unset).toArray = ls at hl ⊢
  have hl : lv_has ls 1 [(0, .ref r)] := hl
  refine lv_aload_n hx hb dX1_toArray_0 rfl (lv_at hl 0 rfl) ?_
  refine fr_get (C := RX1) (T := TX1) (N := 3) (ci := 1) (v := .ref a) hx hb hts in_X1 hown hK (hI.in m_r v_r) rfl 0 (by decide) q133 rfl dX1_toArray_1 ?_
  refine lv_aload_n hx hb dX1_toArray_4 rfl (lv_at hl 0 rfl) ?_
  refine fr_get (C := RX1) (T := TX1) (N := 3) (ci := 1) (v := .int (nI st)) hx hb hts in_X1 hown hK (hI.in m_r v_r) rfl 1 (by decide) q135 rfl dX1_toArray_5 ?_
  refine lv_aload_n hx hb dX1_toArray_8 rfl (lv_at hl 0 rfl) ?_
  refine fr_get (C := RX1) (T := TX1) (N := 3) (ci := 1) (v := .int (nI (st + n))) hx hb hts in_X1 hown hK (hI.in m_r v_r) rfl 2 (by decide) q136 rfl dX1_toArray_9 ?_
  refine fr_cr (fr_runS (As := [.ref a, .int (nI st), .int (nI (st + n))]) (rest := []) ⟨hx, hb, hml, hown, hts⟩ (metJ6_copyOfRange l D k A s.heap.size L f a st n cap v h1 h2 m_a v_a (fun q h => hA q (Nat.le_trans hS.1 h))) (va_cwS 3 hts (lw_S q287 q288 q16 q289) rfl rfl rfl (by decide +kernel) ⟨Nat.le_of_ble_eq_true rfl, Nat.le_of_ble_eq_true rfl⟩) hK hI rfl hl.1 rfl (Nat.le_of_ble_eq_true rfl) dX1_toArray_12 ⟨Nat.le_of_ble_eq_true rfl, Nat.le_of_ble_eq_true rfl⟩) hS (fun q L_1 f_1 H locs hI hq hS => ?_)
  exact fr_aret hx hb hr (Or.inr ⟨_, rfl⟩) hlocks hI (hq) hS (by omega) (by omega) dX1_toArray_15
set_option maxHeartbeats 4000000 in
set_option maxRecDepth 100000 in
/-- ImmutableLongArray(array, start, end) -/
theorem metX1_init_2 (l : Launch) (D : va_G) (k : fr_k) (A : Nat → Prop) (sz : Nat) (L : List Nat) (f : Nat → va_E) (h0 a : Nat) (s1 e1 : Int32) (m_h : h0 ∈ L) (v_h : f h0 = fO 1 [.null, .int 0, .int 0]) : Met l yX1_init_2 (ws_ yX1_init_2 cX1_init_2 4 none) (fr_rm 0 0 0) (fr_W D k A [.ref h0, .ref a, .int s1, .int e1] sz L f) (fr_Qv D A (fun L1 f1 => L = L1 ∧ f1 h0 = fO 1 [.ref a, .int s1, .int e1] ∧ ∀ b, b ≠ h0 → f1 b = f b)) 0 0 A := by
  refine Met.ofW (cc := cX1_init_2) (maxL := 4) (ret := none) (by decide) rfl ?_
  intro p e s m args below meth c s₁ B hml hv
  obtain ⟨rfl, ⟨hsz, hI⟩, hK⟩ := hv
  have hx := B.exec
  have hb := B.bytes
  have hr := B.returns
  have hts := atoms_spec (ws := ws_ yX1_init_2 cX1_init_2 4 none) B.pre
  have hts : ∀ w ∈ lw_all, w.before _ s = true := fun w h => hts w (List.mem_cons_of_mem _ h)
  have hown : s.vm.findClass RX1 = some m.cls := findClass_of_methodNamed B.named
  have hlocks := B.notSynchronized
  have hin : meth.name = "<init>" := (name_of_methodNamed B.named B.method).1
  subst hsz
  have hS : va_S A s.heap s.heap [] := va_S.rf
  have hl := lv_entry ([.ref h0, .ref a, .int s1, .int e1]) (n := 4) (Nat.le_of_ble_eq_true rfl)
  rw [lg_entry_eq]
  generalize (lg_sl ([.ref h0, .ref a, .int s1, .int e1]) ++ List.replicate (4 - (lg_sl ([.ref h0, .ref a, .int s1, .int e1])).length) Slot.unset).toArray = ls at hl ⊢
  have hl : lv_has ls 4 [(0, .ref h0), (1, .ref a), (2, .int s1), (3, .int e1)] := hl
  refine lv_aload_n hx hb dX1_init_2_0 rfl (lv_at hl 0 rfl) ?_
  refine W.objInit hx hb hown (hts _ q131) (hts _ q27) (hts _ q28) rfl (by rw [hml]; exact hl.1) rfl dX1_init_2_1 (Nat.le_of_ble_eq_true rfl) (Nat.le_of_ble_eq_true rfl) ?_
  refine W.eq (g2 := F0 m 4 ls []) rfl ?_
  refine lv_aload_n hx hb dX1_init_2_4 rfl (lv_at hl 0 rfl) ?_
  refine lv_aload_n hx hb dX1_init_2_5 rfl (lv_at hl 1 rfl) ?_
  refine fr_putF (C := RX1) (T := TX1) (N := 3) (ci := 1) (v := .ref a) hx hb hts in_X1 tyX1 tyX1_ok nmX1 hown hK hI hS m_h v_h rfl 0 (by decide) q133 rfl hin rfl rfl rfl (Nat.le_of_ble_eq_true rfl) dX1_init_2_6 (fun H locs f_1 e_1 o_1 hI hS => ?_)
  have v_h : f_1 h0 = fO 1 [.ref a, .int 0, .int 0] := e_1
  refine lv_aload_n hx hb dX1_init_2_9 rfl (lv_at hl 0 rfl) ?_
  refine lv_iload_n hx hb dX1_init_2_10 rfl (lv_at hl 2 rfl) ?_
  refine fr_putF (C := RX1) (T := TX1) (N := 3) (ci := 1) (v := .int s1) hx hb hts in_X1 tyX1 tyX1_ok nmX1 hown hK hI hS m_h v_h rfl 1 (by decide) q135 rfl hin rfl rfl rfl (Nat.le_of_ble_eq_true rfl) dX1_init_2_11 (fun H locs f_2 e_2 o_2 hI hS => ?_)
  have v_h : f_2 h0 = fO 1 [.ref a, .int s1, .int 0] := e_2
  refine lv_aload_n hx hb dX1_init_2_14 rfl (lv_at hl 0 rfl) ?_
  refine lv_iload_n hx hb dX1_init_2_15 rfl (lv_at hl 3 rfl) ?_
  refine fr_putF (C := RX1) (T := TX1) (N := 3) (ci := 1) (v := .int e1) hx hb hts in_X1 tyX1 tyX1_ok nmX1 hown hK hI hS m_h v_h rfl 2 (by decide) q136 rfl hin rfl rfl rfl (Nat.le_of_ble_eq_true rfl) dX1_init_2_16 (fun H locs f_3 e_3 o_3 hI hS => ?_)
  have v_h : f_3 h0 = fO 1 [.ref a, .int s1, .int e1] := e_3
  exact fr_vret hx hb hr hlocks hI (⟨rfl, v_h, fun b hb => ((o_3 b (hb))).trans (((o_2 b (hb))).trans ((o_1 b (hb))))⟩) hS (by omega) (by omega) dX1_init_2_19
set_option maxHeartbeats 4000000 in
set_option maxRecDepth 100000 in
/-- ImmutableLongArray(array) -/
theorem metX1_init (l : Launch) (D : va_G) (k : fr_k) (A : Nat → Prop) (sz : Nat) (L : List Nat) (f : Nat → va_E) (h0 a cap : Nat) (v : Nat → Int64) (h1 : cap < 65536) (m_h : h0 ∈ L) (v_h : f h0 = fO 1 [.null, .int 0, .int 0]) (m_a : a ∈ L) (v_a : f a = fL k cap v) : Met l yX1_init (ws_ yX1_init cX1_init 2 none) (fr_rm 1 0 0) (fr_W D k A [.ref h0, .ref a] sz L f) (fr_Qv D A (fun L1 f1 => L = L1 ∧ f1 h0 = fO 1 [.ref a, .int (nI 0), .int (nI cap)] ∧ ∀ b, b ≠ h0 → f1 b = f b)) 0 0 A := by
  refine Met.ofW (cc := cX1_init) (maxL := 2) (ret := none) (by decide) rfl ?_
  intro p e s m args below meth c s₁ B hml hv
  obtain ⟨rfl, ⟨hsz, hI⟩, hK⟩ := hv
  have hx := B.exec
  have hb := B.bytes
  have hr := B.returns
  have hts := atoms_spec (ws := ws_ yX1_init cX1_init 2 none) B.pre
  have hts : ∀ w ∈ lw_all, w.before _ s = true := fun w h => hts w (List.mem_cons_of_mem _ h)
  have hown : s.vm.findClass RX1 = some m.cls := findClass_of_methodNamed B.named
  have hlocks := B.notSynchronized
  have hin : meth.name = "<init>" := (name_of_methodNamed B.named B.method).1
  subst hsz
  have hS : va_S A s.heap s.heap [] := va_S.rf
  have hl := lv_entry ([.ref h0, .ref a]) (n := 2) (Nat.le_of_ble_eq_true rfl)
  rw [lg_entry_eq]
  generalize (lg_sl ([.ref h0, .ref a]) ++ List.replicate (2 - (lg_sl ([.ref h0, .ref a])).length) Slot.unset).toArray = ls at hl ⊢
  have hl : lv_has ls 2 [(0, .ref h0), (1, .ref a)] := hl
  refine lv_aload_n hx hb dX1_init_0 rfl (lv_at hl 0 rfl) ?_
  refine lv_aload_n hx hb dX1_init_1 rfl (lv_at hl 1 rfl) ?_
  refine lv_iconst (v := 0) hx hb dX1_init_2 (by decide) ?_
  refine lv_aload_n hx hb dX1_init_3 rfl (lv_at hl 1 rfl) ?_
  refine fr_alen (n := cap) hx hb hK (hI.in m_a v_a) dX1_init_4 ?_
  refine fr_cv (fr_runI (As := [.ref a, .int 0, .int (nI cap)]) (rest := []) ⟨hx, hb, hml, hown, hts⟩ (metX1_init_2 l D k A s.heap.size L f h0 a 0 (nI cap) m_h v_h) (cwI 3 hts (lw_meth q130) rfl rfl rfl (hts _ q5) (hts _ q128) (hts _ q129) rfl (by decide +kernel) ⟨Nat.le_of_ble_eq_true rfl, Nat.le_of_ble_eq_true rfl⟩) hK hI rfl hl.1 rfl (Nat.le_of_ble_eq_true rfl) dX1_init_5 ⟨Nat.le_of_ble_eq_true rfl, Nat.le_of_ble_eq_true rfl⟩) hS (fun L_1 f_1 H locs hI hq hS => ?_)
  obtain ⟨rfl, e_1, o_1⟩ := hq
  have v_a : f_1 a = fL k cap v := (o_1 _ (fr_ne v_a v_h (by simp))).trans v_a
  have v_h : f_1 h0 = fO 1 [.ref a, .int (nI 0), .int (nI cap)] := e_1
  exact fr_vret hx hb hr hlocks hI (⟨rfl, v_h, o_1⟩) hS (by omega) (by omega) dX1_init_8
set_option maxHeartbeats 4000000 in
set_option maxRecDepth 100000 in
/-- Builder(N) -/
theorem metX3_init (l : Launch) (D : va_G) (k : fr_k) (A : Nat → Prop) (sz : Nat) (L : List Nat) (f : Nat → va_E) (h0 N : Nat) (h1 : N ≤ 200) (m_h : h0 ∈ L) (v_h : f h0 = fO 2 [.null, .int 0]) (hA : ∀ q, sz ≤ q → A q) : Met l yX3_init (ws_ yX3_init cX3_init 2 none) (fr_rm 0 1 200) (fr_W D k A [.ref h0, .int (nI N)] sz L f) (fr_Qv D A (fun L1 f1 => (∀ b ∈ L, b ∈ L1) ∧ (∀ b ∈ L, b ≠ h0 → f1 b = f b) ∧ ∃ q, q ∉ L ∧ q ∈ L1 ∧ f1 q = fL k N (fun _ => 0) ∧ f1 h0 = fO 2 [.ref q, .int (nI 0)])) 1 200 A := by
  refine Met.ofW (cc := cX3_init) (maxL := 2) (ret := none) (by decide) rfl ?_
  intro p e s m args below meth c s₁ B hml hv
  obtain ⟨rfl, ⟨hsz, hI⟩, hK⟩ := hv
  have hx := B.exec
  have hb := B.bytes
  have hr := B.returns
  have hts := atoms_spec (ws := ws_ yX3_init cX3_init 2 none) B.pre
  have hts : ∀ w ∈ lw_all, w.before _ s = true := fun w h => hts w (List.mem_cons_of_mem _ h)
  have hown : s.vm.findClass RX3 = some m.cls := findClass_of_methodNamed B.named
  have hlocks := B.notSynchronized
  have hin : meth.name = "<init>" := (name_of_methodNamed B.named B.method).1
  subst hsz
  have hS : va_S A s.heap s.heap [] := va_S.rf
  have hl := lv_entry ([.ref h0, .int (nI N)]) (n := 2) (Nat.le_of_ble_eq_true rfl)
  rw [lg_entry_eq]
  generalize (lg_sl ([.ref h0, .int (nI N)]) ++ List.replicate (2 - (lg_sl ([.ref h0, .int (nI N)])).length) Slot.unset).toArray = ls at hl ⊢
  have hl : lv_has ls 2 [(0, .ref h0), (1, .int (nI N))] := hl
  refine lv_aload_n hx hb dX3_init_0 rfl (lv_at hl 0 rfl) ?_
  refine W.objInit hx hb hown (hts _ q109) (hts _ q27) (hts _ q28) rfl (by rw [hml]; exact hl.1) rfl dX3_init_1 (Nat.le_of_ble_eq_true rfl) (Nat.le_of_ble_eq_true rfl) ?_
  refine W.eq (g2 := F0 m 4 ls []) rfl ?_
  refine lv_aload_n hx hb dX3_init_4 rfl (lv_at hl 0 rfl) ?_
  refine lv_iconst (v := 0) hx hb dX3_init_5 (by decide) ?_
  refine fr_put (C := RX3) (T := TX3) (N := 2) (ci := 2) (v := .int 0) hx hb hts in_X3 tyX3 tyX3_ok nmX3 hown hK hI hS m_h v_h rfl 1 (by decide) q111 rfl rfl rfl (Nat.le_of_ble_eq_true rfl) dX3_init_6 (fun H locs f_1 e_1 o_1 hI hS => ?_)
  have v_h : f_1 h0 = fO 2 [.null, .int 0] := e_1
  refine lv_aload_n hx hb dX3_init_9 rfl (lv_at hl 0 rfl) ?_
  refine lv_iload_n hx hb dX3_init_10 rfl (lv_at hl 1 rfl) ?_
  refine fr_newl (N := N) hx hb hts hK hI hS hA (rfl) (by omega) (Nat.le_of_ble_eq_true rfl) (by show 0 + N ≤ 200; omega) dX3_init_11 (fun q H L_2 f_2 q_2 m_q v_q x_2 hI hS => ?_)
  have p_h_q := fr_neq m_h q_2
  have v_h := x_2.v m_h v_h
  have m_h := x_2.m m_h
  refine W.widen (k := 1) (n := 200) (by omega) (by omega) ?_
  refine fr_put (C := RX3) (T := TX3) (N := 2) (ci := 2) (v := .ref q) hx hb hts in_X3 tyX3 tyX3_ok nmX3 hown hK hI hS m_h v_h rfl 0 (by decide) q110 rfl rfl rfl (Nat.le_of_ble_eq_true rfl) dX3_init_13 (fun H locs f_3 e_3 o_3 hI hS => ?_)
  have v_q : f_3 q = fL k N (fun _ => 0) := (o_3 _ (p_h_q.symm)).trans v_q
  have v_h : f_3 h0 = fO 2 [.ref q, .int 0] := e_3
  exact fr_vret hx hb hr hlocks hI (⟨fun b hb => x_2.m hb, fun b hb hn => ((o_3 b (hn))).trans (((x_2 b (hb)).2).trans ((o_1 b (hn)))), q, q_2, m_q, v_q, v_h⟩) hS (by omega) (by omega) dX3_init_16
set_option maxHeartbeats 4000000 in
set_option maxRecDepth 100000 in
/-- ImmutableLongArray.of(y) -/
theorem metX1_of (l : Launch) (D : va_G) (k : fr_k) (A : Nat → Prop) (sz : Nat) (L : List Nat) (f : Nat → va_E) (y0 : Int64) (hA : ∀ q, sz ≤ q → A q) : Met l yX1_of (ws_ yX1_of cX1_of 2 (some (.object "ImmutableLongArray"))) (fr_rm 2 2 4) (fr_W D k A [.long y0] sz L f) (fr_Qr D A (fun L1 f1 z => fr_New k L f L1 f1 z 1 (fun _ => y0) (fun _ _ => False))) 2 4 A := by
  refine Met.ofW (cc := cX1_of) (maxL := 2) (ret := (some (.object "ImmutableLongArray"))) (by decide) rfl ?_
  intro p e s m args below meth c s₁ B hml hv
  obtain ⟨rfl, ⟨hsz, hI⟩, hK⟩ := hv
  have hx := B.exec
  have hb := B.bytes
  have hr := B.returns
  have hts := atoms_spec (ws := ws_ yX1_of cX1_of 2 (some (.object "ImmutableLongArray"))) B.pre
  have hts : ∀ w ∈ lw_all, w.before _ s = true := fun w h => hts w (List.mem_cons_of_mem _ h)
  have hown : s.vm.findClass RX1 = some m.cls := findClass_of_methodNamed B.named
  have hlocks := B.notSynchronized
  subst hsz
  have hS : va_S A s.heap s.heap [] := va_S.rf
  have hl := lv_entry ([.long y0]) (n := 2) (Nat.le_of_ble_eq_true rfl)
  rw [lg_entry_eq]
  generalize (lg_sl ([.long y0]) ++ List.replicate (2 - (lg_sl ([.long y0])).length) Slot.unset).toArray = ls at hl ⊢
  have hl : lv_has ls 2 [(0, .long y0)] := hl
  refine fr_new (C := RX1) (T := TX1) (N := 3) (ci := 1) (fs := [.null, .int 0, .int 0]) hx hb hts in_X1 tyX1 tyX1_ok hown q123 q124 q5 hK hI hS hA rfl (fun j hj => by rcases (show j = 0 ∨ j = 1 ∨ j = 2 by omega) with rfl | rfl | rfl <;> rfl) (Nat.le_of_ble_eq_true rfl) (Nat.le_of_ble_eq_true rfl) dX1_of_0 (fun z H L_1 f_1 q_1 m_z v_z x_1 hI hS => ?_)
  refine W.widen (k := 1) (n := 3) (by omega) (by omega) ?_
  refine lv_dup hx hb dX1_of_3 rfl ?_
  refine lv_iconst (v := 1) hx hb dX1_of_4 (by decide) ?_
  refine fr_newl (N := 1) hx hb hts hK hI hS hA (rfl) (by decide) (Nat.le_of_ble_eq_true rfl) (Nat.le_of_ble_eq_true rfl) dX1_of_5 (fun q H L_2 f_2 q_2 m_q v_q x_2 hI hS => ?_)
  have p_z_q := fr_neq m_z q_2
  have v_z := x_2.v m_z v_z
  have m_z := x_2.m m_z
  refine W.widen (k := 2) (n := 4) (by omega) (by omega) ?_
  refine lv_dup hx hb dX1_of_7 rfl ?_
  refine lv_iconst (v := 0) hx hb dX1_of_8 (by decide) ?_
  refine lv_lload_n hx hb dX1_of_9 rfl (lv_at hl 0 rfl) ?_
  refine fr_last (j := 0) (n := 1) (v := (fun _ => 0)) (x := y0) hx hb hK hI hS m_q v_q (rfl) (by decide) (by decide) dX1_of_10 (fun H locs f_3 e_3 o_3 hI hS => ?_)
  have v_z : f_3 z = fO 1 [.null, .int 0, .int 0] := (o_3 _ (p_z_q)).trans v_z
  have v_q : f_3 q = fL k 1 (vp_updL (fun _ => 0) 0 y0) := e_3
  refine fr_cv (fr_runI (As := [.ref q]) (rest := [.ref z]) ⟨hx, hb, hml, hown, hts⟩ (metX1_init l D k A H.size L_2 f_3 z q 1 (vp_updL (fun _ => 0) 0 y0) (by decide) m_z v_z m_q v_q) (cwI 1 hts (lw_meth q127) rfl rfl rfl (hts _ q5) (hts _ q125) (hts _ q126) rfl (by decide +kernel) ⟨Nat.le_of_ble_eq_true rfl, Nat.le_of_ble_eq_true rfl⟩) hK hI rfl hl.1 rfl (Nat.le_of_ble_eq_true rfl) dX1_of_11 ⟨Nat.le_of_ble_eq_true rfl, Nat.le_of_ble_eq_true rfl⟩) hS (fun L_4 f_4 H locs hI hq hS => ?_)
  obtain ⟨rfl, e_4, o_4⟩ := hq
  have v_q : f_4 q = fL k 1 (vp_updL (fun _ => 0) 0 y0) := (o_4 _ (p_z_q.symm)).trans v_q
  have v_z : f_4 z = fO 1 [.ref q, .int (nI 0), .int (nI 1)] := e_4
  exact fr_aret hx hb hr (Or.inl ⟨_, rfl⟩) hlocks hI (⟨fun b hb => ⟨x_2.m (x_1.m (hb)), ((o_4 b (fr_neq hb q_1))).trans (((o_3 b (fr_neq (x_1.m hb) q_2))).trans (((x_2 b (x_1.m (hb))).2).trans ((x_1 b (hb)).2)))⟩, q, 0, 1, _, ⟨m_z, v_z, m_q, v_q, by decide, by decide⟩, Or.inl (fun h => q_2 (x_1.m h)), fun t ht => by rw [show t = 0 by omega]; exact pk_uLs⟩) hS (by omega) (by omega) dX1_of_14
set_option maxHeartbeats 4000000 in
set_option maxRecDepth 100000 in
/-- ImmutableLongArray.builder(N) -/
theorem metX1_builder (l : Launch) (D : va_G) (k : fr_k) (A : Nat → Prop) (sz : Nat) (L : List Nat) (f : Nat → va_E) (N : Nat) (h1 : N ≤ 200) (hA : ∀ q, sz ≤ q → A q) : Met l yX1_builder (ws_ yX1_builder cX1_builder 1 (some (.object "ImmutableLongArray$Builder"))) (fr_rm 1 2 202) (fr_W D k A [.int (nI N)] sz L f) (fr_Qr D A (fun L1 f1 z => wX L f L1 f1 ∧ z ∉ L ∧ z ∈ L1 ∧ ∃ q, q ∉ L ∧ q ∈ L1 ∧ f1 q = fL k N (fun _ => 0) ∧ f1 z = fO 2 [.ref q, .int (nI 0)])) 2 202 A := by
  refine Met.ofW (cc := cX1_builder) (maxL := 1) (ret := (some (.object "ImmutableLongArray$Builder"))) (by decide) rfl ?_
  intro p e s m args below meth c s₁ B hml hv
  obtain ⟨rfl, ⟨hsz, hI⟩, hK⟩ := hv
  have hx := B.exec
  have hb := B.bytes
  have hr := B.returns
  have hts := atoms_spec (ws := ws_ yX1_builder cX1_builder 1 (some (.object "ImmutableLongArray$Builder"))) B.pre
  have hts : ∀ w ∈ lw_all, w.before _ s = true := fun w h => hts w (List.mem_cons_of_mem _ h)
  have hown : s.vm.findClass RX1 = some m.cls := findClass_of_methodNamed B.named
  have hlocks := B.notSynchronized
  subst hsz
  have hS : va_S A s.heap s.heap [] := va_S.rf
  have hl := lv_entry ([.int (nI N)]) (n := 1) (Nat.le_of_ble_eq_true rfl)
  rw [lg_entry_eq]
  generalize (lg_sl ([.int (nI N)]) ++ List.replicate (1 - (lg_sl ([.int (nI N)])).length) Slot.unset).toArray = ls at hl ⊢
  have hl : lv_has ls 1 [(0, .int (nI N))] := hl
  refine lv_iload_n hx hb dX1_builder_0 rfl (lv_at hl 0 rfl) ?_
  refine lv_if_lt (tgt := 8) hx hb dX1_builder_1 (by decide) (fun c_9 => absurd c_9 (show ¬ (nI N) < 0 from nI_pos (by omega))) (fun _ => ?_)
  refine lv_iconst (v := 1) hx hb dX1_builder_4 (by decide) ?_
  refine lv_goto (tgt := 9) hx hb dX1_builder_5 (by decide) ?_
  refine va_ldcS hx hb hown hK.2.2.2.2.2.2.2.2.1 dX1_builder_9 ?_
  refine lv_iload_n hx hb dX1_builder_11 rfl (lv_at hl 0 rfl) ?_
  refine fr_rSv (As := [.int 1, .ref k.2.1, .int (nI N)]) (rest := []) ⟨hx, hb, hml, hown, hts⟩ (metX2_checkArgument l D k k.2.1 (nI N)) (va_cwS 3 hts (lw_S q33 q34 q6 q35) rfl rfl rfl (by decide +kernel) ⟨Nat.le_of_ble_eq_true rfl, Nat.le_of_ble_eq_true rfl⟩) hK (fr_nil) rfl hl.1 rfl (Nat.le_of_ble_eq_true rfl) dX1_builder_12 ⟨Nat.zero_le _, Nat.zero_le _⟩ ?_
  refine fr_new (C := RX3) (T := TX3) (N := 2) (ci := 2) (fs := [.null, .int 0]) hx hb hts in_X3 tyX3 tyX3_ok hown q104 q105 q11 hK hI hS hA rfl (fun j hj => by rcases (show j = 0 ∨ j = 1 by omega) with rfl | rfl <;> rfl) (Nat.le_of_ble_eq_true rfl) (Nat.le_of_ble_eq_true rfl) dX1_builder_15 (fun z H L_1 f_1 q_1 m_z v_z x_1 hI hS => ?_)
  refine W.widen (k := 1) (n := 2) (by omega) (by omega) ?_
  refine lv_dup hx hb dX1_builder_18 rfl ?_
  refine lv_iload_n hx hb dX1_builder_19 rfl (lv_at hl 0 rfl) ?_
  refine fr_cv (fr_runI (As := [.int (nI N)]) (rest := [.ref z]) ⟨hx, hb, hml, hown, hts⟩ (metX3_init l D k A H.size L_1 f_1 z N h1 m_z v_z (fun q h => hA q (Nat.le_trans hS.1 h))) (cwI 1 hts (lw_meth q108) rfl rfl rfl (hts _ q11) (hts _ q106) (hts _ q107) rfl (by decide +kernel) ⟨Nat.le_of_ble_eq_true rfl, Nat.le_of_ble_eq_true rfl⟩) hK hI rfl hl.1 rfl (Nat.le_of_ble_eq_true rfl) dX1_builder_20 ⟨Nat.le_of_ble_eq_true rfl, Nat.le_of_ble_eq_true rfl⟩) hS (fun L_2 f_2 H locs hI hq hS => ?_)
  obtain ⟨y_1, y_2, q, y_3, m_q, v_q, v_z⟩ := hq
  refine W.widen (k := 2) (n := 202) (by omega) (by omega) ?_
  exact fr_aret hx hb hr (Or.inl ⟨_, rfl⟩) hlocks hI (⟨fun b hb => ⟨y_1 b (x_1.m hb), (y_2 b (x_1.m hb) (fr_neq hb q_1)).trans (x_1 b hb).2⟩, q_1, y_1 z m_z, q, fun h => y_3 (x_1.m h), m_q, v_q, v_z⟩) hS (by omega) (by omega) dX1_builder_23
set_option maxHeartbeats 4000000 in
set_option maxRecDepth 100000 in
/-- subArray(i, j), in range -/
theorem metX1_subArray (l : Launch) (D : va_G) (k : fr_k) (A : Nat → Prop) (sz : Nat) (L : List Nat) (f : Nat → va_E) (r a st n cap i j : Nat) (v : Nat → Int64) (h1 : st + n ≤ cap) (h2 : cap ≤ 200) (h3 : i ≤ j) (h4 : j ≤ n) (m_r : r ∈ L) (v_r : f r = fO 1 [.ref a, .int (nI st), .int (nI (st + n))]) (m_a : a ∈ L) (v_a : f a = fL k cap v) (hA : ∀ q, sz ≤ q → A q) : Met l yX1_subArray (ws_ yX1_subArray cX1_subArray 3 (some (.object "ImmutableLongArray"))) (fr_rm 2 2 3) (fr_W D k A [.ref r, .int (nI i), .int (nI j)] sz L f) (fr_Qr D A (fun L1 f1 z => fr_New k L f L1 f1 z (j - i) (fun t => v (st + i + t)) (fun a1 st1 => a1 = a ∧ st1 = st + i))) 2 3 A := by
  refine Met.ofW (cc := cX1_subArray) (maxL := 3) (ret := (some (.object "ImmutableLongArray"))) (by decide) rfl ?_
  intro p e s m args below meth c s₁ B hml hv
  obtain ⟨rfl, ⟨hsz, hI⟩, hK⟩ := hv
  have hx := B.exec
  have hb := B.bytes
  have hr := B.returns
  have hts := atoms_spec (ws := ws_ yX1_subArray cX1_subArray 3 (some (.object "ImmutableLongArray"))) B.pre
  have hts : ∀ w ∈ lw_all, w.before _ s = true := fun w h => hts w (List.mem_cons_of_mem _ h)
  have hown : s.vm.findClass RX1 = some m.cls := findClass_of_methodNamed B.named
  have hlocks := B.notSynchronized
  subst hsz
  have hS : va_S A s.heap s.heap [] := va_S.rf
  have hl := lv_entry ([.ref r, .int (nI i), .int (nI j)]) (n := 3) (Nat.le_of_ble_eq_true rfl)
  rw [lg_entry_eq]
  generalize (lg_sl ([.ref r, .int (nI i), .int (nI j)]) ++ List.replicate (3 - (lg_sl ([.ref r, .int (nI i), .int (nI j)])).length) Slot.unset).toArray = ls at hl ⊢
  have hl : lv_has ls 3 [(0, .ref r), (1, .int (nI i)), (2, .int (nI j))] := hl
  refine lv_iload_n hx hb dX1_subArray_0 rfl (lv_at hl 1 rfl) ?_
  refine lv_iload_n hx hb dX1_subArray_1 rfl (lv_at hl 2 rfl) ?_
  refine lv_aload_n hx hb dX1_subArray_2 rfl (lv_at hl 0 rfl) ?_
  refine fr_rV (As := []) (rest := [.int (nI j), .int (nI i)]) (ci := 1) ⟨hx, hb, hml, hown, hts⟩ (metX1_length l D k r a st n) (cwV 0 hts (lw_V q252 q219 q220 q5 q221) rfl rfl rfl (by decide +kernel) ⟨Nat.le_of_ble_eq_true rfl, Nat.le_of_ble_eq_true rfl⟩) hK (hI.in m_r v_r) rfl rfl rfl rfl hl.1 rfl (Nat.le_of_ble_eq_true rfl) dX1_subArray_3 ⟨Nat.zero_le _, Nat.zero_le _⟩ ?_
  refine fr_rSv (As := [.int (nI i), .int (nI j), .int (nI n)]) (rest := []) ⟨hx, hb, hml, hown, hts⟩ (metX2_checkPositionIndexes l D k i j n h3 h4 (by omega)) (va_cwS 3 hts (lw_S q253 q254 q6 q255) rfl rfl rfl (by decide +kernel) ⟨Nat.le_of_ble_eq_true rfl, Nat.le_of_ble_eq_true rfl⟩) hK (fr_nil) rfl hl.1 rfl (Nat.le_of_ble_eq_true rfl) dX1_subArray_6 ⟨Nat.zero_le _, Nat.zero_le _⟩ ?_
  refine lv_iload_n hx hb dX1_subArray_9 rfl (lv_at hl 1 rfl) ?_
  refine lv_iload_n hx hb dX1_subArray_10 rfl (lv_at hl 2 rfl) ?_
  refine lv_icmp_ne (tgt := 27) hx hb dX1_subArray_11 (by decide) (fun c_1 => ?_) (fun c_1 => ?_)
  · refine fr_new (C := RX1) (T := TX1) (N := 3) (ci := 1) (fs := [.null, .int 0, .int 0]) hx hb hts in_X1 tyX1 tyX1_ok hown q123 q124 q5 hK hI hS hA rfl (fun j hj => by rcases (show j = 0 ∨ j = 1 ∨ j = 2 by omega) with rfl | rfl | rfl <;> rfl) (Nat.le_of_ble_eq_true rfl) (Nat.le_of_ble_eq_true rfl) dX1_subArray_27 (fun z H L_1 f_1 q_1 m_z v_z x_1 hI hS => ?_)
    have p_r_z := fr_neq m_r q_1
    have p_a_z := fr_neq m_a q_1
    have v_r := x_1.v m_r v_r
    have m_r := x_1.m m_r
    have v_a := x_1.v m_a v_a
    have m_a := x_1.m m_a
    refine W.widen (k := 1) (n := 3) (by omega) (by omega) ?_
    refine lv_dup hx hb dX1_subArray_30 rfl ?_
    refine lv_aload_n hx hb dX1_subArray_31 rfl (lv_at hl 0 rfl) ?_
    refine fr_get (C := RX1) (T := TX1) (N := 3) (ci := 1) (v := .ref a) hx hb hts in_X1 hown hK (hI.in m_r v_r) rfl 0 (by decide) q133 rfl dX1_subArray_32 ?_
    refine lv_aload_n hx hb dX1_subArray_35 rfl (lv_at hl 0 rfl) ?_
    refine fr_get (C := RX1) (T := TX1) (N := 3) (ci := 1) (v := .int (nI st)) hx hb hts in_X1 hown hK (hI.in m_r v_r) rfl 1 (by decide) q135 rfl dX1_subArray_36 ?_
    refine lv_iload_n hx hb dX1_subArray_39 rfl (lv_at hl 1 rfl) ?_
    refine lv_iadd hx hb dX1_subArray_40 ?_
    refine fr_topi (show ((nI st) + (nI i)) = nI (st + i) from nI_add st i) ?_
    refine lv_aload_n hx hb dX1_subArray_41 rfl (lv_at hl 0 rfl) ?_
    refine fr_get (C := RX1) (T := TX1) (N := 3) (ci := 1) (v := .int (nI st)) hx hb hts in_X1 hown hK (hI.in m_r v_r) rfl 1 (by decide) q135 rfl dX1_subArray_42 ?_
    refine lv_iload_n hx hb dX1_subArray_45 rfl (lv_at hl 2 rfl) ?_
    refine lv_iadd hx hb dX1_subArray_46 ?_
    refine fr_topi (show ((nI st) + (nI j)) = nI (st + j) from nI_add st j) ?_
    refine fr_cv (fr_runI (As := [.ref a, .int (nI (st + i)), .int (nI (st + j))]) (rest := [.ref z]) ⟨hx, hb, hml, hown, hts⟩ (metX1_init_2 l D k A H.size L_1 f_1 z a (nI (st + i)) (nI (st + j)) m_z v_z) (cwI 3 hts (lw_meth q130) rfl rfl rfl (hts _ q5) (hts _ q128) (hts _ q129) rfl (by decide +kernel) ⟨Nat.le_of_ble_eq_true rfl, Nat.le_of_ble_eq_true rfl⟩) hK hI rfl hl.1 rfl (Nat.le_of_ble_eq_true rfl) dX1_subArray_47 ⟨Nat.le_of_ble_eq_true rfl, Nat.le_of_ble_eq_true rfl⟩) hS (fun L_2 f_2 H locs hI hq hS => ?_)
    obtain ⟨rfl, e_2, o_2⟩ := hq
    have v_r : f_2 r = fO 1 [.ref a, .int (nI st), .int (nI (st + n))] := (o_2 _ (p_r_z)).trans v_r
    have v_a : f_2 a = fL k cap v := (o_2 _ (p_a_z)).trans v_a
    have v_z : f_2 z = fO 1 [.ref a, .int (nI (st + i)), .int (nI (st + j))] := e_2
    exact fr_aret hx hb hr (Or.inl ⟨_, rfl⟩) hlocks hI (⟨fun b hb => ⟨x_1.m (hb), ((o_2 b (fr_neq hb q_1))).trans ((x_1 b (hb)).2)⟩, a, st + i, cap, v, ⟨m_z, v_z.trans (by rw [show st + i + (j - i) = st + j by omega]), m_a, v_a, by omega, h2⟩, Or.inr ⟨rfl, rfl⟩, fun t ht => rfl⟩) hS (by omega) (by omega) dX1_subArray_50
  · have hij : i = j := (nI_eq (by omega) (by omega)).mp c_1
    refine fr_new (C := RX1) (T := TX1) (N := 3) (ci := 1) (fs := [.null, .int 0, .int 0]) hx hb hts in_X1 tyX1 tyX1_ok hown q123 q124 q5 hK hI hS hA rfl (fun j hj => by rcases (show j = 0 ∨ j = 1 ∨ j = 2 by omega) with rfl | rfl | rfl <;> rfl) (Nat.le_of_ble_eq_true rfl) (Nat.le_of_ble_eq_true rfl) dX1_subArray_14 (fun z H L_1 f_1 q_1 m_z v_z x_1 hI hS => ?_)
    have p_r_z := fr_neq m_r q_1
    have p_a_z := fr_neq m_a q_1
    have v_r := x_1.v m_r v_r
    have m_r := x_1.m m_r
    have v_a := x_1.v m_a v_a
    have m_a := x_1.m m_a
    refine W.widen (k := 1) (n := 3) (by omega) (by omega) ?_
    refine lv_dup hx hb dX1_subArray_17 rfl ?_
    refine lv_iconst (v := 0) hx hb dX1_subArray_18 (by decide) ?_
    refine fr_newl (N := 0) hx hb hts hK hI hS hA (rfl) (by decide) (Nat.le_of_ble_eq_true rfl) (Nat.le_of_ble_eq_true rfl) dX1_subArray_19 (fun q H L_2 f_2 q_2 m_q v_q x_2 hI hS => ?_)
    have p_r_q := fr_neq m_r q_2
    have p_a_q := fr_neq m_a q_2
    have p_z_q := fr_neq m_z q_2
    have v_r := x_2.v m_r v_r
    have m_r := x_2.m m_r
    have v_a := x_2.v m_a v_a
    have m_a := x_2.m m_a
    have v_z := x_2.v m_z v_z
    have m_z := x_2.m m_z
    refine W.widen (k := 2) (n := 3) (by omega) (by omega) ?_
    refine fr_cv (fr_runI (As := [.ref q]) (rest := [.ref z]) ⟨hx, hb, hml, hown, hts⟩ (metX1_init l D k A H.size L_2 f_2 z q 0 (fun _ => 0) (by decide) m_z v_z m_q v_q) (cwI 1 hts (lw_meth q127) rfl rfl rfl (hts _ q5) (hts _ q125) (hts _ q126) rfl (by decide +kernel) ⟨Nat.le_of_ble_eq_true rfl, Nat.le_of_ble_eq_true rfl⟩) hK hI rfl hl.1 rfl (Nat.le_of_ble_eq_true rfl) dX1_subArray_21 ⟨Nat.le_of_ble_eq_true rfl, Nat.le_of_ble_eq_true rfl⟩) hS (fun L_3 f_3 H locs hI hq hS => ?_)
    obtain ⟨rfl, e_3, o_3⟩ := hq
    have v_r : f_3 r = fO 1 [.ref a, .int (nI st), .int (nI (st + n))] := (o_3 _ (p_r_z)).trans v_r
    have v_a : f_3 a = fL k cap v := (o_3 _ (p_a_z)).trans v_a
    have v_q : f_3 q = fL k 0 (fun _ => 0) := (o_3 _ (p_z_q.symm)).trans v_q
    have v_z : f_3 z = fO 1 [.ref q, .int (nI 0), .int (nI 0)] := e_3
    refine lv_goto (tgt := 50) hx hb dX1_subArray_24 (by decide) ?_
    exact fr_aret hx hb hr (Or.inl ⟨_, rfl⟩) hlocks hI (⟨fun b hb => ⟨x_2.m (x_1.m (hb)), ((o_3 b (fr_neq hb q_1))).trans (((x_2 b (x_1.m (hb))).2).trans ((x_1 b (hb)).2))⟩, q, 0, 0, _, ⟨m_z, v_z.trans (by rw [show 0 + (j - i) = 0 by omega]), m_q, v_q, by omega, by omega⟩, Or.inl (fun h => q_2 (x_1.m h)), fun t ht => absurd ht (by omega)⟩) hS (by omega) (by omega) dX1_subArray_50
set_option maxHeartbeats 4000000 in
set_option maxRecDepth 100000 in
/-- trimmed() -/
theorem metX1_trimmed (l : Launch) (D : va_G) (k : fr_k) (A : Nat → Prop) (sz : Nat) (L : List Nat) (f : Nat → va_E) (r a st n cap : Nat) (v : Nat → Int64) (h1 : st + n ≤ cap) (h2 : cap ≤ 200) (m_r : r ∈ L) (v_r : f r = fO 1 [.ref a, .int (nI st), .int (nI (st + n))]) (m_a : a ∈ L) (v_a : f a = fL k cap v) (hA : ∀ q, sz ≤ q → A q) : Met l yX1_trimmed (ws_ yX1_trimmed cX1_trimmed 1 (some (.object "ImmutableLongArray"))) (fr_rm 4 2 203) (fr_W D k A [.ref r] sz L f) (fr_Qr D A (fun L1 f1 z => fr_New k L f L1 f1 z n (fun t => v (st + t)) (fun a1 st1 => a1 = a ∧ st1 = st))) 2 203 A := by
  refine Met.ofW (cc := cX1_trimmed) (maxL := 1) (ret := (some (.object "ImmutableLongArray"))) (by decide) rfl ?_
  intro p e s m args below meth c s₁ B hml hv
  obtain ⟨rfl, ⟨hsz, hI⟩, hK⟩ := hv
  have hx := B.exec
  have hb := B.bytes
  have hr := B.returns
  have hts := atoms_spec (ws := ws_ yX1_trimmed cX1_trimmed 1 (some (.object "ImmutableLongArray"))) B.pre
  have hts : ∀ w ∈ lw_all, w.before _ s = true := fun w h => hts w (List.mem_cons_of_mem _ h)
  have hown : s.vm.findClass RX1 = some m.cls := findClass_of_methodNamed B.named
  have hlocks := B.notSynchronized
  subst hsz
  have hS : va_S A s.heap s.heap [] := va_S.rf
  have hl := lv_entry ([.ref r]) (n := 1) (Nat.le_of_ble_eq_true rfl)
  rw [lg_entry_eq]
  generalize (lg_sl ([.ref r]) ++ List.replicate (1 - (lg_sl ([.ref r])).length) Slot.unset).toArray = ls at hl ⊢
  have hl : lv_has ls 1 [(0, .ref r)] := hl
  refine lv_aload_n hx hb dX1_trimmed_0 rfl (lv_at hl 0 rfl) ?_
  refine fr_rV (As := []) (rest := []) (ci := 1) ⟨hx, hb, hml, hown, hts⟩ (metX1_isPartialView l D k r a st n cap v h1 h2) (cwV 0 hts (lw_V q279 q281 qs2 q5 q282) rfl rfl rfl (by decide +kernel) ⟨Nat.le_of_ble_eq_true rfl, Nat.le_of_ble_eq_true rfl⟩) hK (fr_cons (hI.in m_r v_r) (hI.in m_a v_a)) rfl rfl rfl rfl hl.1 rfl (Nat.le_of_ble_eq_true rfl) dX1_trimmed_1 ⟨Nat.zero_le _, Nat.zero_le _⟩ ?_
  refine lv_if_eq (tgt := 21) hx hb dX1_trimmed_4 (by decide) (fun c_1 => ?_) (fun c_1 => ?_)
  · refine lv_aload_n hx hb dX1_trimmed_21 rfl (lv_at hl 0 rfl) ?_
    exact fr_aret hx hb hr (Or.inl ⟨_, rfl⟩) hlocks hI (⟨wX.rf, a, st, cap, v, ⟨m_r, v_r, m_a, v_a, h1, h2⟩, Or.inr ⟨rfl, rfl⟩, fun t ht => rfl⟩) hS (by omega) (by omega) dX1_trimmed_22
  · refine fr_new (C := RX1) (T := TX1) (N := 3) (ci := 1) (fs := [.null, .int 0, .int 0]) hx hb hts in_X1 tyX1 tyX1_ok hown q123 q124 q5 hK hI hS hA rfl (fun j hj => by rcases (show j = 0 ∨ j = 1 ∨ j = 2 by omega) with rfl | rfl | rfl <;> rfl) (Nat.le_of_ble_eq_true rfl) (Nat.le_of_ble_eq_true rfl) dX1_trimmed_7 (fun z H L_1 f_1 q_1 m_z v_z x_1 hI hS => ?_)
    have p_r_z := fr_neq m_r q_1
    have p_a_z := fr_neq m_a q_1
    have v_r := x_1.v m_r v_r
    have m_r := x_1.m m_r
    have v_a := x_1.v m_a v_a
    have m_a := x_1.m m_a
    refine W.widen (k := 1) (n := 3) (by omega) (by omega) ?_
    refine lv_dup hx hb dX1_trimmed_10 rfl ?_
    refine lv_aload_n hx hb dX1_trimmed_11 rfl (lv_at hl 0 rfl) ?_
    refine fr_cr (fr_runV (As := []) (rest := [.ref z, .ref z]) (ci := 1) ⟨hx, hb, hml, hown, hts⟩ (metX1_toArray l D k A H.size L_1 f_1 r a st n cap v h1 h2 m_r v_r m_a v_a (fun q h => hA q (Nat.le_trans hS.1 h))) (cwV 0 hts (lw_V q283 q284 q285 q5 q286) rfl rfl rfl (by decide +kernel) ⟨Nat.le_of_ble_eq_true rfl, Nat.le_of_ble_eq_true rfl⟩) hK hI m_r v_r rfl rfl rfl hl.1 rfl (Nat.le_of_ble_eq_true rfl) dX1_trimmed_12 ⟨Nat.le_of_ble_eq_true rfl, Nat.le_of_ble_eq_true rfl⟩) hS (fun q L_2 f_2 H locs hI hq hS => ?_)
    obtain ⟨x_2, q_2, m_q, vq, v_q, hvq⟩ := hq
    have p_r_q := fr_neq m_r q_2
    have p_a_q := fr_neq m_a q_2
    have p_z_q := fr_neq m_z q_2
    have v_r := x_2.v m_r v_r
    have m_r := x_2.m m_r
    have v_a := x_2.v m_a v_a
    have m_a := x_2.m m_a
    have v_z := x_2.v m_z v_z
    have m_z := x_2.m m_z
    refine W.widen (k := 2) (n := 203) (by omega) (by omega) ?_
    refine fr_cv (fr_runI (As := [.ref q]) (rest := [.ref z]) ⟨hx, hb, hml, hown, hts⟩ (metX1_init l D k A H.size L_2 f_2 z q n vq (by omega) m_z v_z m_q v_q) (cwI 1 hts (lw_meth q127) rfl rfl rfl (hts _ q5) (hts _ q125) (hts _ q126) rfl (by decide +kernel) ⟨Nat.le_of_ble_eq_true rfl, Nat.le_of_ble_eq_true rfl⟩) hK hI rfl hl.1 rfl (Nat.le_of_ble_eq_true rfl) dX1_trimmed_15 ⟨Nat.le_of_ble_eq_true rfl, Nat.le_of_ble_eq_true rfl⟩) hS (fun L_3 f_3 H locs hI hq hS => ?_)
    obtain ⟨rfl, e_3, o_3⟩ := hq
    have v_r : f_3 r = fO 1 [.ref a, .int (nI st), .int (nI (st + n))] := (o_3 _ (p_r_z)).trans v_r
    have v_a : f_3 a = fL k cap v := (o_3 _ (p_a_z)).trans v_a
    have v_q : f_3 q = fL k n vq := (o_3 _ (p_z_q.symm)).trans v_q
    have v_z : f_3 z = fO 1 [.ref q, .int (nI 0), .int (nI n)] := e_3
    refine lv_goto (tgt := 22) hx hb dX1_trimmed_18 (by decide) ?_
    exact fr_aret hx hb hr (Or.inl ⟨_, rfl⟩) hlocks hI (⟨fun b hb => ⟨x_2.m (x_1.m (hb)), ((o_3 b (fr_neq hb q_1))).trans (((x_2 b (x_1.m (hb))).2).trans ((x_1 b (hb)).2))⟩, q, 0, n, vq, ⟨m_z, v_z.trans (by rw [Nat.zero_add]), m_q, v_q, by omega, by omega⟩, Or.inl (fun h => q_2 (x_1.m h)), fun t ht => by rw [Nat.zero_add]; exact hvq t ht⟩) hS (by omega) (by omega) dX1_trimmed_22
set_option maxHeartbeats 4000000 in
set_option maxRecDepth 100000 in
/-- Builder.build() -/
theorem metX3_build (l : Launch) (D : va_G) (k : fr_k) (A : Nat → Prop) (sz : Nat) (L : List Nat) (f : Nat → va_E) (mk ar cnt cap : Nat) (v : Nat → Int64) (h1 : cnt ≤ cap) (h2 : cap ≤ 200) (m_mk : mk ∈ L) (v_mk : f mk = fO 2 [.ref ar, .int (nI cnt)]) (m_ar : ar ∈ L) (v_ar : f ar = fL k cap v) (hA : ∀ q, sz ≤ q → A q) : Met l yX3_build (ws_ yX3_build cX3_build 1 (some (.object "ImmutableLongArray"))) (fr_rm 2 2 3) (fr_W D k A [.ref mk] sz L f) (fr_Qr D A (fun L1 f1 z => fr_New k L f L1 f1 z cnt v (fun a1 st1 => a1 = ar ∧ st1 = 0))) 2 3 A := by
  refine Met.ofW (cc := cX3_build) (maxL := 1) (ret := (some (.object "ImmutableLongArray"))) (by decide) rfl ?_
  intro p e s m args below meth c s₁ B hml hv
  obtain ⟨rfl, ⟨hsz, hI⟩, hK⟩ := hv
  have hx := B.exec
  have hb := B.bytes
  have hr := B.returns
  have hts := atoms_spec (ws := ws_ yX3_build cX3_build 1 (some (.object "ImmutableLongArray"))) B.pre
  have hts : ∀ w ∈ lw_all, w.before _ s = true := fun w h => hts w (List.mem_cons_of_mem _ h)
  have hown : s.vm.findClass RX3 = some m.cls := findClass_of_methodNamed B.named
  have hlocks := B.notSynchronized
  subst hsz
  have hS : va_S A s.heap s.heap [] := va_S.rf
  have hl := lv_entry ([.ref mk]) (n := 1) (Nat.le_of_ble_eq_true rfl)
  rw [lg_entry_eq]
  generalize (lg_sl ([.ref mk]) ++ List.replicate (1 - (lg_sl ([.ref mk])).length) Slot.unset).toArray = ls at hl ⊢
  have hl : lv_has ls 1 [(0, .ref mk)] := hl
  refine lv_aload_n hx hb dX3_build_0 rfl (lv_at hl 0 rfl) ?_
  refine fr_get (C := RX3) (T := TX3) (N := 2) (ci := 2) (v := .int (nI cnt)) hx hb hts in_X3 hown hK (hI.in m_mk v_mk) rfl 1 (by decide) q111 rfl dX3_build_1 ?_
  refine lv_if_ne (tgt := 20) hx hb dX3_build_4 (by decide) (fun c_1 => ?_) (fun c_1 => ?_)
  · refine fr_new (C := RX1) (T := TX1) (N := 3) (ci := 1) (fs := [.null, .int 0, .int 0]) hx hb hts in_X1 tyX1 tyX1_ok hown q236 q124 q5 hK hI hS hA rfl (fun j hj => by rcases (show j = 0 ∨ j = 1 ∨ j = 2 by omega) with rfl | rfl | rfl <;> rfl) (Nat.le_of_ble_eq_true rfl) (Nat.le_of_ble_eq_true rfl) dX3_build_20 (fun z H L_1 f_1 q_1 m_z v_z x_1 hI hS => ?_)
    have p_mk_z := fr_neq m_mk q_1
    have p_ar_z := fr_neq m_ar q_1
    have v_mk := x_1.v m_mk v_mk
    have m_mk := x_1.m m_mk
    have v_ar := x_1.v m_ar v_ar
    have m_ar := x_1.m m_ar
    refine W.widen (k := 1) (n := 3) (by omega) (by omega) ?_
    refine lv_dup hx hb dX3_build_23 rfl ?_
    refine lv_aload_n hx hb dX3_build_24 rfl (lv_at hl 0 rfl) ?_
    refine fr_get (C := RX3) (T := TX3) (N := 2) (ci := 2) (v := .ref ar) hx hb hts in_X3 hown hK (hI.in m_mk v_mk) rfl 0 (by decide) q110 rfl dX3_build_25 ?_
    refine lv_iconst (v := 0) hx hb dX3_build_28 (by decide) ?_
    refine lv_aload_n hx hb dX3_build_29 rfl (lv_at hl 0 rfl) ?_
    refine fr_get (C := RX3) (T := TX3) (N := 2) (ci := 2) (v := .int (nI cnt)) hx hb hts in_X3 hown hK (hI.in m_mk v_mk) rfl 1 (by decide) q111 rfl dX3_build_30 ?_
    refine fr_cv (fr_runIN (As := [.ref ar, .int 0, .int (nI cnt)]) (rest := [.ref z]) ⟨hx, hb, hml, hown, hts⟩ (metX1_init_2 l D k A H.size L_1 f_1 z ar 0 (nI cnt) m_z v_z) (⟨va_cnB 3 hts (lw_meth q130) rfl rfl rfl hK.2.2.2.2.2.2.2.1 (hts _ q5) (by decide +kernel) ⟨Nat.le_of_ble_eq_true rfl, Nat.le_of_ble_eq_true rfl⟩, rfl, hts _ q129⟩) hK hI rfl hl.1 rfl (Nat.le_of_ble_eq_true rfl) dX3_build_33 ⟨Nat.le_of_ble_eq_true rfl, Nat.le_of_ble_eq_true rfl⟩) hS (fun L_2 f_2 H locs hI hq hS => ?_)
    obtain ⟨rfl, e_2, o_2⟩ := hq
    have v_mk : f_2 mk = fO 2 [.ref ar, .int (nI cnt)] := (o_2 _ (p_mk_z)).trans v_mk
    have v_ar : f_2 ar = fL k cap v := (o_2 _ (p_ar_z)).trans v_ar
    have v_z : f_2 z = fO 1 [.ref ar, .int (nI 0), .int (nI cnt)] := e_2
    exact fr_aret hx hb hr (Or.inl ⟨_, rfl⟩) hlocks hI (⟨fun b hb => ⟨x_1.m (hb), ((o_2 b (fr_neq hb q_1))).trans ((x_1 b (hb)).2)⟩, ar, 0, cap, v, ⟨m_z, v_z.trans (by rw [Nat.zero_add]), m_ar, v_ar, by omega, h2⟩, Or.inr ⟨rfl, rfl⟩, fun t ht => by rw [Nat.zero_add]⟩) hS (by omega) (by omega) dX3_build_36
  · have hc : cnt = 0 := (nI_eq (b := 0) (by omega) (by omega)).mp c_1
    refine fr_new (C := RX1) (T := TX1) (N := 3) (ci := 1) (fs := [.null, .int 0, .int 0]) hx hb hts in_X1 tyX1 tyX1_ok hown q236 q124 q5 hK hI hS hA rfl (fun j hj => by rcases (show j = 0 ∨ j = 1 ∨ j = 2 by omega) with rfl | rfl | rfl <;> rfl) (Nat.le_of_ble_eq_true rfl) (Nat.le_of_ble_eq_true rfl) dX3_build_7 (fun z H L_1 f_1 q_1 m_z v_z x_1 hI hS => ?_)
    have p_mk_z := fr_neq m_mk q_1
    have p_ar_z := fr_neq m_ar q_1
    have v_mk := x_1.v m_mk v_mk
    have m_mk := x_1.m m_mk
    have v_ar := x_1.v m_ar v_ar
    have m_ar := x_1.m m_ar
    refine W.widen (k := 1) (n := 3) (by omega) (by omega) ?_
    refine lv_dup hx hb dX3_build_10 rfl ?_
    refine lv_iconst (v := 0) hx hb dX3_build_11 (by decide) ?_
    refine fr_newl (N := 0) hx hb hts hK hI hS hA (rfl) (by decide) (Nat.le_of_ble_eq_true rfl) (Nat.le_of_ble_eq_true rfl) dX3_build_12 (fun q H L_2 f_2 q_2 m_q v_q x_2 hI hS => ?_)
    have p_mk_q := fr_neq m_mk q_2
    have p_ar_q := fr_neq m_ar q_2
    have p_z_q := fr_neq m_z q_2
    have v_mk := x_2.v m_mk v_mk
    have m_mk := x_2.m m_mk
    have v_ar := x_2.v m_ar v_ar
    have m_ar := x_2.m m_ar
    have v_z := x_2.v m_z v_z
    have m_z := x_2.m m_z
    refine W.widen (k := 2) (n := 3) (by omega) (by omega) ?_
    refine fr_cv (fr_runIN (As := [.ref q]) (rest := [.ref z]) ⟨hx, hb, hml, hown, hts⟩ (metX1_init l D k A H.size L_2 f_2 z q 0 (fun _ => 0) (by decide) m_z v_z m_q v_q) (⟨va_cnB 1 hts (lw_meth q127) rfl rfl rfl hK.2.2.2.2.2.2.1 (hts _ q5) (by decide +kernel) ⟨Nat.le_of_ble_eq_true rfl, Nat.le_of_ble_eq_true rfl⟩, rfl, hts _ q126⟩) hK hI rfl hl.1 rfl (Nat.le_of_ble_eq_true rfl) dX3_build_14 ⟨Nat.le_of_ble_eq_true rfl, Nat.le_of_ble_eq_true rfl⟩) hS (fun L_3 f_3 H locs hI hq hS => ?_)
    obtain ⟨rfl, e_3, o_3⟩ := hq
    have v_mk : f_3 mk = fO 2 [.ref ar, .int (nI cnt)] := (o_3 _ (p_mk_z)).trans v_mk
    have v_ar : f_3 ar = fL k cap v := (o_3 _ (p_ar_z)).trans v_ar
    have v_q : f_3 q = fL k 0 (fun _ => 0) := (o_3 _ (p_z_q.symm)).trans v_q
    have v_z : f_3 z = fO 1 [.ref q, .int (nI 0), .int (nI 0)] := e_3
    refine lv_goto (tgt := 36) hx hb dX3_build_17 (by decide) ?_
    exact fr_aret hx hb hr (Or.inl ⟨_, rfl⟩) hlocks hI (⟨fun b hb => ⟨x_2.m (x_1.m (hb)), ((o_3 b (fr_neq hb q_1))).trans (((x_2 b (x_1.m (hb))).2).trans ((x_1 b (hb)).2))⟩, q, 0, 0, _, ⟨m_z, v_z.trans (by rw [hc]), m_q, v_q, by omega, by omega⟩, Or.inl (fun h => q_2 (x_1.m h)), fun t ht => absurd ht (by omega)⟩) hS (by omega) (by omega) dX3_build_36
end
section
set_option maxRecDepth 100000
/-- the maker of rows grew by n values z -/
def fr_App (k : fr_k) (mk ar cnt cap n : Nat) (v z : Nat → Int64) (L : List Nat) (f : Nat → va_E) (L1 : List Nat) (f1 : Nat → va_E) : Prop :=
  ∃ (ar1 N : Nat) (v1 : Nat → Int64), ar1 ∈ L1 ∧ f1 ar1 = fL k N v1 ∧ f1 mk = fO 2 [.ref ar1, .int (nI (cnt + n))] ∧ cnt + n ≤ N ∧ N ≤ 200 ∧ (∀ i, i < cnt → v1 i = v i) ∧ (∀ i, i < n → v1 (cnt + i) = z i) ∧ (∀ b ∈ L, b ∈ L1) ∧ (∀ b ∈ L, b ≠ mk → b ≠ ar → f1 b = f b) ∧ ((ar1 = ar ∧ N = cap) ∨ (ar1 ∉ L ∧ f1 ar = f ar))
set_option maxHeartbeats 4000000 in
set_option maxRecDepth 100000 in
/-- ensureRoomFor(ad) -/
theorem metX3_ensureRoomFor (l : Launch) (D : va_G) (k : fr_k) (A : Nat → Prop) (sz : Nat) (L : List Nat) (f : Nat → va_E) (mk ar cnt cap : Nat) (v : Nat → Int64) (ad : Nat) (h1 : cnt ≤ cap) (h2 : cap ≤ 200) (h3 : cnt + ad ≤ 96) (m_mk : mk ∈ L) (v_mk : f mk = fO 2 [.ref ar, .int (nI cnt)]) (m_ar : ar ∈ L) (v_ar : f ar = fL k cap v) (hA : ∀ q, sz ≤ q → A q) : Met l yX3_ensureRoomFor (ws_ yX3_ensureRoomFor cX3_ensureRoomFor 3 none) (fr_rm 3 1 200) (fr_W D k A [.ref mk, .int (nI ad)] sz L f) (fr_Qv D A (fun L1 f1 => (∀ b ∈ L, b ∈ L1) ∧ (∀ b ∈ L, b ≠ mk → f1 b = f b) ∧ ∃ (ar1 N : Nat) (v1 : Nat → Int64), ar1 ∈ L1 ∧ f1 ar1 = fL k N v1 ∧ f1 mk = fO 2 [.ref ar1, .int (nI cnt)] ∧ cnt + ad ≤ N ∧ N ≤ 200 ∧ (∀ i, i < cnt → v1 i = v i) ∧ ((ar1 = ar ∧ N = cap) ∨ ar1 ∉ L))) 1 200 A := by
  refine Met.ofW (cc := cX3_ensureRoomFor) (maxL := 3) (ret := none) (by decide) rfl ?_
  intro p e s m args below meth c s₁ B hml hv
  obtain ⟨rfl, ⟨hsz, hI⟩, hK⟩ := hv
  have hx := B.exec
  have hb := B.bytes
  have hr := B.returns
  have hts := atoms_spec (ws := ws_ yX3_ensureRoomFor cX3_ensureRoomFor 3 none) B.pre
  have hts : ∀ w ∈ lw_all, w.before _ s = true := fun w h => hts w (List.mem_cons_of_mem _ h)
  have hown : s.vm.findClass RX3 = some m.cls := findClass_of_methodNamed B.named
  have hlocks := B.notSynchronized
  subst hsz
  have hS : va_S A s.heap s.heap [] := va_S.rf
  have hl := lv_entry ([.ref mk, .int (nI ad)]) (n := 3) (Nat.le_of_ble_eq_true rfl)
  rw [lg_entry_eq]
  generalize (lg_sl ([.ref mk, .int (nI ad)]) ++ List.replicate (3 - (lg_sl ([.ref mk, .int (nI ad)])).length) Slot.unset).toArray = ls at hl ⊢
  have hl : lv_has ls 3 [(0, .ref mk), (1, .int (nI ad))] := hl
  refine lv_aload_n hx hb dX3_ensureRoomFor_0 rfl (lv_at hl 0 rfl) ?_
  refine fr_get (C := RX3) (T := TX3) (N := 2) (ci := 2) (v := .int (nI cnt)) hx hb hts in_X3 hown hK (hI.in m_mk v_mk) rfl 1 (by decide) q111 rfl dX3_ensureRoomFor_1 ?_
  refine lv_iload_n hx hb dX3_ensureRoomFor_4 rfl (lv_at hl 1 rfl) ?_
  refine lv_iadd hx hb dX3_ensureRoomFor_5 ?_
  refine fr_topi (show ((nI cnt) + (nI ad)) = nI (cnt + ad) from nI_add cnt ad) ?_
  refine lv_istore_n (lv' := [(2, .int (nI (cnt + ad))), (0, .ref mk), (1, .int (nI ad))]) hx hb dX3_ensureRoomFor_6 rfl hl (by decide) rfl (fun ls hl => ?_)
  refine lv_iload_n hx hb dX3_ensureRoomFor_7 rfl (lv_at hl 0 rfl) ?_
  refine lv_aload_n hx hb dX3_ensureRoomFor_8 rfl (lv_at hl 1 rfl) ?_
  refine fr_get (C := RX3) (T := TX3) (N := 2) (ci := 2) (v := .ref ar) hx hb hts in_X3 hown hK (hI.in m_mk v_mk) rfl 0 (by decide) q110 rfl dX3_ensureRoomFor_9 ?_
  refine fr_alen (n := cap) hx hb hK (hI.in m_ar v_ar) dX3_ensureRoomFor_12 ?_
  refine lv_icmp_le (tgt := 36) hx hb dX3_ensureRoomFor_13 (by decide) (fun c_1 => ?_) (fun c_1 => ?_)
  · have hc : cnt + ad ≤ cap := (nI_leI (by omega) (by omega)).mp c_1
    exact fr_vret hx hb hr hlocks hI (⟨fun b hb => hb, fun b hb hn => rfl, ar, cap, v, m_ar, v_ar, v_mk, hc, h2, fun i hi => rfl, Or.inl ⟨rfl, rfl⟩⟩) hS (by omega) (by omega) dX3_ensureRoomFor_36
  · have hc : cap < cnt + ad := by
      rcases Nat.lt_or_ge cap (cnt + ad) with h | h
      · exact h
      · exact absurd ((nI_leI (by omega) (by omega)).mpr h) c_1
    have hok := fr_cap_ok hc h3
    obtain ⟨N, eN⟩ : ∃ N, N = fr_cap cap (cnt + ad) := ⟨_, rfl⟩
    rw [← eN] at hok
    refine lv_aload_n hx hb dX3_ensureRoomFor_16 rfl (lv_at hl 1 rfl) ?_
    refine lv_aload_n hx hb dX3_ensureRoomFor_17 rfl (lv_at hl 1 rfl) ?_
    refine fr_get (C := RX3) (T := TX3) (N := 2) (ci := 2) (v := .ref ar) hx hb hts in_X3 hown hK (hI.in m_mk v_mk) rfl 0 (by decide) q110 rfl dX3_ensureRoomFor_18 ?_
    refine lv_aload_n hx hb dX3_ensureRoomFor_21 rfl (lv_at hl 1 rfl) ?_
    refine fr_get (C := RX3) (T := TX3) (N := 2) (ci := 2) (v := .ref ar) hx hb hts in_X3 hown hK (hI.in m_mk v_mk) rfl 0 (by decide) q110 rfl dX3_ensureRoomFor_22 ?_
    refine fr_alen (n := cap) hx hb hK (hI.in m_ar v_ar) dX3_ensureRoomFor_25 ?_
    refine lv_iload_n hx hb dX3_ensureRoomFor_26 rfl (lv_at hl 0 rfl) ?_
    refine fr_rS (As := [.int (nI cap), .int (nI (cnt + ad))]) (rest := [.ref ar, .ref mk]) ⟨hx, hb, hml, hown, hts⟩ (metX3_expandedCapacity l D k cap (cnt + ad) hc h3) (va_cwS 2 hts (lw_S q170 q171 q11 q172) rfl rfl rfl (by decide +kernel) ⟨Nat.le_of_ble_eq_true rfl, Nat.le_of_ble_eq_true rfl⟩) hK (fr_nil) rfl hl.1 rfl (Nat.le_of_ble_eq_true rfl) dX3_ensureRoomFor_27 ⟨Nat.zero_le _, Nat.zero_le _⟩ ?_
    refine fr_topi (show (nI (fr_cap cap (cnt + ad))) = nI N from by rw [eN]) ?_
    refine fr_cr (fr_runS (As := [.ref ar, .int (nI N)]) (rest := [.ref mk]) ⟨hx, hb, hml, hown, hts⟩ (metJ6_copyOf l D k A s.heap.size L f ar cap N v (by omega) hok.2 m_ar v_ar (fun q h => hA q (Nat.le_trans hS.1 h))) (va_cwS 2 hts (lw_S q198 q199 q16 q200) rfl rfl rfl (by decide +kernel) ⟨Nat.le_of_ble_eq_true rfl, Nat.le_of_ble_eq_true rfl⟩) hK hI rfl hl.1 rfl (Nat.le_of_ble_eq_true rfl) dX3_ensureRoomFor_30 ⟨Nat.le_of_ble_eq_true rfl, Nat.le_of_ble_eq_true rfl⟩) hS (fun q L_1 f_1 H locs hI hq hS => ?_)
    obtain ⟨x_1, q_1, m_q, vq, v_q, hvq⟩ := hq
    have p_mk_q := fr_neq m_mk q_1
    have p_ar_q := fr_neq m_ar q_1
    have v_mk := x_1.v m_mk v_mk
    have m_mk := x_1.m m_mk
    have v_ar := x_1.v m_ar v_ar
    have m_ar := x_1.m m_ar
    refine W.widen (k := 1) (n := 200) (by omega) (by omega) ?_
    refine fr_put (C := RX3) (T := TX3) (N := 2) (ci := 2) (v := .ref q) hx hb hts in_X3 tyX3 tyX3_ok nmX3 hown hK hI hS m_mk v_mk rfl 0 (by decide) q110 rfl rfl rfl (Nat.le_of_ble_eq_true rfl) dX3_ensureRoomFor_33 (fun H locs f_2 e_2 o_2 hI hS => ?_)
    have v_ar : f_2 ar = fL k cap v := (o_2 _ (fr_ne v_ar v_mk (by simp))).trans v_ar
    have v_q : f_2 q = fL k N vq := (o_2 _ (p_mk_q.symm)).trans v_q
    have v_mk : f_2 mk = fO 2 [.ref q, .int (nI cnt)] := e_2
    exact fr_vret hx hb hr hlocks hI (⟨fun b hb => x_1.m hb, fun b hb hn => ((o_2 b (hn))).trans ((x_1 b (hb)).2), q, N, vq, m_q, v_q, v_mk, hok.1, hok.2, fun i hi => hvq i (by omega), Or.inr q_1⟩) hS (by omega) (by omega) dX3_ensureRoomFor_36
set_option maxHeartbeats 4000000 in
set_option maxRecDepth 100000 in
/-- Builder.add(y) -/
theorem metX3_add (l : Launch) (D : va_G) (k : fr_k) (A : Nat → Prop) (sz : Nat) (L : List Nat) (f : Nat → va_E) (mk ar cnt cap : Nat) (v : Nat → Int64) (y0 : Int64) (h1 : cnt ≤ cap) (h2 : cap ≤ 200) (h3 : cnt + 1 ≤ 96) (m_mk : mk ∈ L) (v_mk : f mk = fO 2 [.ref ar, .int (nI cnt)]) (m_ar : ar ∈ L) (v_ar : f ar = fL k cap v) (hA : ∀ q, sz ≤ q → A q) : Met l yX3_add (ws_ yX3_add cX3_add 3 (some (.object "ImmutableLongArray$Builder"))) (fr_rm 4 1 200) (fr_W D k A [.ref mk, .long y0] sz L f) (fr_Qr D A (fun L1 f1 r => r = mk ∧ fr_App k mk ar cnt cap 1 v (fun _ => y0) L f L1 f1)) 1 200 A := by
  refine Met.ofW (cc := cX3_add) (maxL := 3) (ret := (some (.object "ImmutableLongArray$Builder"))) (by decide) rfl ?_
  intro p e s m args below meth c s₁ B hml hv
  obtain ⟨rfl, ⟨hsz, hI⟩, hK⟩ := hv
  have hx := B.exec
  have hb := B.bytes
  have hr := B.returns
  have hts := atoms_spec (ws := ws_ yX3_add cX3_add 3 (some (.object "ImmutableLongArray$Builder"))) B.pre
  have hts : ∀ w ∈ lw_all, w.before _ s = true := fun w h => hts w (List.mem_cons_of_mem _ h)
  have hown : s.vm.findClass RX3 = some m.cls := findClass_of_methodNamed B.named
  have hlocks := B.notSynchronized
  subst hsz
  have hS : va_S A s.heap s.heap [] := va_S.rf
  have hl := lv_entry ([.ref mk, .long y0]) (n := 3) (Nat.le_of_ble_eq_true rfl)
  rw [lg_entry_eq]
  generalize (lg_sl ([.ref mk, .long y0]) ++ List.replicate (3 - (lg_sl ([.ref mk, .long y0])).length) Slot.unset).toArray = ls at hl ⊢
  have hl : lv_has ls 3 [(0, .ref mk), (1, .long y0)] := hl
  refine lv_aload_n hx hb dX3_add_0 rfl (lv_at hl 0 rfl) ?_
  refine lv_iconst (v := 1) hx hb dX3_add_1 (by decide) ?_
  refine fr_cv (fr_runV (As := [.int 1]) (rest := []) (ci := 2) ⟨hx, hb, hml, hown, hts⟩ (metX3_ensureRoomFor l D k A s.heap.size L f mk ar cnt cap v 1 h1 h2 h3 m_mk v_mk m_ar v_ar (fun q h => hA q (Nat.le_trans hS.1 h))) (cwV 1 hts (lw_V q166 q168 qs1 q11 q169) rfl rfl rfl (by decide +kernel) ⟨Nat.le_of_ble_eq_true rfl, Nat.le_of_ble_eq_true rfl⟩) hK hI m_mk v_mk rfl rfl rfl hl.1 rfl (Nat.le_of_ble_eq_true rfl) dX3_add_2 ⟨Nat.le_of_ble_eq_true rfl, Nat.le_of_ble_eq_true rfl⟩) hS (fun L_1 f_1 H locs hI hq hS => ?_)
  obtain ⟨y_1, y_2, ar1, N, v1, m_ar1, v_ar1, w_mk, h6, h7, h8, h9⟩ := hq
  refine W.widen (k := 1) (n := 200) (by omega) (by omega) ?_
  have m0_ar := m_ar
  have m0_mk := m_mk
  have p_ar_mk : ar ≠ mk := fr_ne v_ar v_mk (by simp)
  have v_mk := w_mk
  have m_mk := y_1 mk m_mk
  refine lv_aload_n hx hb dX3_add_5 rfl (lv_at hl 0 rfl) ?_
  refine fr_get (C := RX3) (T := TX3) (N := 2) (ci := 2) (v := .ref ar1) hx hb hts in_X3 hown hK (hI.in m_mk v_mk) rfl 0 (by decide) q110 rfl dX3_add_6 ?_
  refine lv_aload_n hx hb dX3_add_9 rfl (lv_at hl 0 rfl) ?_
  refine fr_get (C := RX3) (T := TX3) (N := 2) (ci := 2) (v := .int (nI cnt)) hx hb hts in_X3 hown hK (hI.in m_mk v_mk) rfl 1 (by decide) q111 rfl dX3_add_10 ?_
  refine lv_lload_n hx hb dX3_add_13 rfl (lv_at hl 1 rfl) ?_
  refine fr_last (j := cnt) (n := N) (v := v1) (x := y0) hx hb hK hI hS m_ar1 v_ar1 (rfl) (by omega) (by omega) dX3_add_14 (fun H locs f_2 e_2 o_2 hI hS => ?_)
  have v_mk : f_2 mk = fO 2 [.ref ar1, .int (nI cnt)] := (o_2 _ (fr_ne v_mk v_ar1 (by simp))).trans v_mk
  have v_ar1 : f_2 ar1 = fL k N (vp_updL v1 cnt y0) := e_2
  refine lv_aload_n hx hb dX3_add_15 rfl (lv_at hl 0 rfl) ?_
  refine lv_dup hx hb dX3_add_16 rfl ?_
  refine fr_get (C := RX3) (T := TX3) (N := 2) (ci := 2) (v := .int (nI cnt)) hx hb hts in_X3 hown hK (hI.in m_mk v_mk) rfl 1 (by decide) q111 rfl dX3_add_17 ?_
  refine lv_iconst (v := 1) hx hb dX3_add_20 (by decide) ?_
  refine lv_iadd hx hb dX3_add_21 ?_
  refine fr_topi (show ((nI cnt) + 1) = nI (cnt + 1) from nI_1 cnt) ?_
  refine fr_put (C := RX3) (T := TX3) (N := 2) (ci := 2) (v := .int (nI (cnt + 1))) hx hb hts in_X3 tyX3 tyX3_ok nmX3 hown hK hI hS m_mk v_mk rfl 1 (by decide) q111 rfl rfl rfl (Nat.le_of_ble_eq_true rfl) dX3_add_22 (fun H locs f_3 e_3 o_3 hI hS => ?_)
  have v_ar1 : f_3 ar1 = fL k N (vp_updL v1 cnt y0) := (o_3 _ (fr_ne v_ar1 v_mk (by simp))).trans v_ar1
  have v_mk : f_3 mk = fO 2 [.ref ar1, .int (nI (cnt + 1))] := e_3
  refine lv_aload_n hx hb dX3_add_25 rfl (lv_at hl 0 rfl) ?_
  have n_ar1 : ∀ b ∈ L, b ≠ ar → b ≠ ar1 := by
    intro b hb hn h
    rcases h9 with h9 | h9
    · exact hn (h.trans h9.1)
    · exact h9 (h ▸ hb)
  exact fr_aret hx hb hr (Or.inl ⟨_, rfl⟩) hlocks hI (⟨rfl, ar1, N, _, m_ar1, v_ar1, v_mk, h6, h7, fun i hi => (pk_uLn (by omega)).trans (h8 i hi), fun i hi => by rw [show i = 0 by omega, Nat.add_zero]; exact pk_uLs, y_1, fun b hb h_mk h_ar => ((o_3 b (h_mk))).trans (((o_2 b ((n_ar1 b hb h_ar)))).trans (y_2 b hb h_mk)), h9.imp id (fun h9 => ⟨h9, ((o_3 ar (p_ar_mk))).trans (((o_2 ar ((fr_neq m0_ar h9)))).trans (y_2 ar m0_ar p_ar_mk))⟩)⟩) hS (by omega) (by omega) dX3_add_26
set_option maxHeartbeats 4000000 in
set_option maxRecDepth 100000 in
/-- Builder.addAll(row) -/
theorem metX3_addAll (l : Launch) (D : va_G) (k : fr_k) (A : Nat → Prop) (sz : Nat) (L : List Nat) (f : Nat → va_E) (mk ar cnt cap : Nat) (v : Nat → Int64) (r a st n capa : Nat) (va : Nat → Int64) (h1 : cnt ≤ cap) (h2 : cap ≤ 200) (h3 : cnt + n ≤ 96) (h4 : st + n ≤ capa) (h5 : capa ≤ 200) (m_mk : mk ∈ L) (v_mk : f mk = fO 2 [.ref ar, .int (nI cnt)]) (m_ar : ar ∈ L) (v_ar : f ar = fL k cap v) (m_r : r ∈ L) (v_r : f r = fO 1 [.ref a, .int (nI st), .int (nI (st + n))]) (m_a : a ∈ L) (v_a : f a = fL k capa va) (hA : ∀ q, sz ≤ q → A q) : Met l yX3_addAll (ws_ yX3_addAll cX3_addAll 2 (some (.object "ImmutableLongArray$Builder"))) (fr_rm 4 1 200) (fr_W D k A [.ref mk, .ref r] sz L f) (fr_Qr D A (fun L1 f1 z => z = mk ∧ fr_App k mk ar cnt cap n v (fun t => va (st + t)) L f L1 f1)) 1 200 A := by
  refine Met.ofW (cc := cX3_addAll) (maxL := 2) (ret := (some (.object "ImmutableLongArray$Builder"))) (by decide) rfl ?_
  intro p e s m args below meth c s₁ B hml hv
  obtain ⟨rfl, ⟨hsz, hI⟩, hK⟩ := hv
  have hx := B.exec
  have hb := B.bytes
  have hr := B.returns
  have hts := atoms_spec (ws := ws_ yX3_addAll cX3_addAll 2 (some (.object "ImmutableLongArray$Builder"))) B.pre
  have hts : ∀ w ∈ lw_all, w.before _ s = true := fun w h => hts w (List.mem_cons_of_mem _ h)
  have hown : s.vm.findClass RX3 = some m.cls := findClass_of_methodNamed B.named
  have hlocks := B.notSynchronized
  subst hsz
  have hS : va_S A s.heap s.heap [] := va_S.rf
  have hl := lv_entry ([.ref mk, .ref r]) (n := 2) (Nat.le_of_ble_eq_true rfl)
  rw [lg_entry_eq]
  generalize (lg_sl ([.ref mk, .ref r]) ++ List.replicate (2 - (lg_sl ([.ref mk, .ref r])).length) Slot.unset).toArray = ls at hl ⊢
  have hl : lv_has ls 2 [(0, .ref mk), (1, .ref r)] := hl
  refine lv_aload_n hx hb dX3_addAll_0 rfl (lv_at hl 0 rfl) ?_
  refine lv_aload_n hx hb dX3_addAll_1 rfl (lv_at hl 1 rfl) ?_
  refine fr_rV (As := []) (rest := [.ref mk]) (ci := 1) ⟨hx, hb, hml, hown, hts⟩ (metX1_length l D k r a st n) (cwV 0 hts (lw_V q226 q219 q220 q5 q221) rfl rfl rfl (by decide +kernel) ⟨Nat.le_of_ble_eq_true rfl, Nat.le_of_ble_eq_true rfl⟩) hK (hI.in m_r v_r) rfl rfl rfl rfl hl.1 rfl (Nat.le_of_ble_eq_true rfl) dX3_addAll_2 ⟨Nat.zero_le _, Nat.zero_le _⟩ ?_
  refine fr_cv (fr_runV (As := [.int (nI n)]) (rest := []) (ci := 2) ⟨hx, hb, hml, hown, hts⟩ (metX3_ensureRoomFor l D k A s.heap.size L f mk ar cnt cap v n h1 h2 h3 m_mk v_mk m_ar v_ar (fun q h => hA q (Nat.le_trans hS.1 h))) (cwV 1 hts (lw_V q166 q168 qs1 q11 q169) rfl rfl rfl (by decide +kernel) ⟨Nat.le_of_ble_eq_true rfl, Nat.le_of_ble_eq_true rfl⟩) hK hI m_mk v_mk rfl rfl rfl hl.1 rfl (Nat.le_of_ble_eq_true rfl) dX3_addAll_5 ⟨Nat.le_of_ble_eq_true rfl, Nat.le_of_ble_eq_true rfl⟩) hS (fun L_1 f_1 H locs hI hq hS => ?_)
  obtain ⟨y_1, y_2, ar1, N, v1, m_ar1, v_ar1, w_mk, h6, h7, h8, h9⟩ := hq
  refine W.widen (k := 1) (n := 200) (by omega) (by omega) ?_
  have m0_ar := m_ar
  have m0_mk := m_mk
  have p_ar_mk : ar ≠ mk := fr_ne v_ar v_mk (by simp)
  have v_r := (y_2 r m_r (fr_ne v_r v_mk (by simp))).trans v_r
  have m_r := y_1 r m_r
  have v_a := (y_2 a m_a (fr_ne v_a v_mk (by simp))).trans v_a
  have m_a := y_1 a m_a
  have v_mk := w_mk
  have m_mk := y_1 mk m_mk
  refine lv_aload_n hx hb dX3_addAll_8 rfl (lv_at hl 1 rfl) ?_
  refine va_getN (D := D) (ci := 1) (v := .ref a) (C := RX1) (T := TX1) (N := 3) hx hb hts in_X1 hown hK.1 (hI.in m_r v_r) 0 rfl rfl 0 (by decide) (va_Nw.use rfl hK.2.2.2.2.1) (fun _ h9 => h9) rfl dX3_addAll_9 ?_
  refine lv_aload_n hx hb dX3_addAll_12 rfl (lv_at hl 1 rfl) ?_
  refine va_getN (D := D) (ci := 1) (v := .int (nI st)) (C := RX1) (T := TX1) (N := 3) hx hb hts in_X1 hown hK.1 (hI.in m_r v_r) 0 rfl rfl 1 (by decide) (va_Nw.use rfl hK.2.2.2.2.2.1) (fun _ h9 => h9) rfl dX3_addAll_13 ?_
  refine lv_aload_n hx hb dX3_addAll_16 rfl (lv_at hl 0 rfl) ?_
  refine fr_get (C := RX3) (T := TX3) (N := 2) (ci := 2) (v := .ref ar1) hx hb hts in_X3 hown hK (hI.in m_mk v_mk) rfl 0 (by decide) q110 rfl dX3_addAll_17 ?_
  refine lv_aload_n hx hb dX3_addAll_20 rfl (lv_at hl 0 rfl) ?_
  refine fr_get (C := RX3) (T := TX3) (N := 2) (ci := 2) (v := .int (nI cnt)) hx hb hts in_X3 hown hK (hI.in m_mk v_mk) rfl 1 (by decide) q111 rfl dX3_addAll_21 ?_
  refine lv_aload_n hx hb dX3_addAll_24 rfl (lv_at hl 1 rfl) ?_
  refine fr_rV (As := []) (rest := [.int (nI cnt), .ref ar1, .int (nI st), .ref a]) (ci := 1) ⟨hx, hb, hml, hown, hts⟩ (metX1_length l D k r a st n) (cwV 0 hts (lw_V q226 q219 q220 q5 q221) rfl rfl rfl (by decide +kernel) ⟨Nat.le_of_ble_eq_true rfl, Nat.le_of_ble_eq_true rfl⟩) hK (hI.in m_r v_r) rfl rfl rfl rfl hl.1 rfl (Nat.le_of_ble_eq_true rfl) dX3_addAll_25 ⟨Nat.le_of_ble_eq_true rfl, Nat.le_of_ble_eq_true rfl⟩ ?_
  refine fr_copyl (n0 := capa) (n1 := N) (v0 := va) (v1 := v1) (sp := st) (dp := cnt) (n := n) hx hb (hml.trans hl.1.symm) hts hown q227 hK hI hS m_a v_a m_ar1 v_ar1 rfl rfl rfl h4 h6 (by omega) (by omega) (Nat.le_of_ble_eq_true rfl) (Nat.le_of_ble_eq_true rfl) dX3_addAll_28 (fun H locs f_2 e_2 o_2 hI hS => ?_)
  have v_mk : f_2 mk = fO 2 [.ref ar1, .int (nI cnt)] := (o_2 _ (fr_ne v_mk v_ar1 (by simp))).trans v_mk
  have v_r : f_2 r = fO 1 [.ref a, .int (nI st), .int (nI (st + n))] := (o_2 _ (fr_ne v_r v_ar1 (by simp))).trans v_r
  have v_ar1 : f_2 ar1 = fL k N (va_cpy va v1 st cnt n) := e_2
  refine lv_aload_n hx hb dX3_addAll_31 rfl (lv_at hl 0 rfl) ?_
  refine lv_dup hx hb dX3_addAll_32 rfl ?_
  refine fr_get (C := RX3) (T := TX3) (N := 2) (ci := 2) (v := .int (nI cnt)) hx hb hts in_X3 hown hK (hI.in m_mk v_mk) rfl 1 (by decide) q111 rfl dX3_addAll_33 ?_
  refine lv_aload_n hx hb dX3_addAll_36 rfl (lv_at hl 1 rfl) ?_
  refine fr_rV (As := []) (rest := [.int (nI cnt), .ref mk]) (ci := 1) ⟨hx, hb, hml, hown, hts⟩ (metX1_length l D k r a st n) (cwV 0 hts (lw_V q226 q219 q220 q5 q221) rfl rfl rfl (by decide +kernel) ⟨Nat.le_of_ble_eq_true rfl, Nat.le_of_ble_eq_true rfl⟩) hK (hI.in m_r v_r) rfl rfl rfl rfl hl.1 rfl (Nat.le_of_ble_eq_true rfl) dX3_addAll_37 ⟨Nat.le_of_ble_eq_true rfl, Nat.le_of_ble_eq_true rfl⟩ ?_
  refine lv_iadd hx hb dX3_addAll_40 ?_
  refine fr_topi (show ((nI cnt) + (nI n)) = nI (cnt + n) from nI_add cnt n) ?_
  refine fr_put (C := RX3) (T := TX3) (N := 2) (ci := 2) (v := .int (nI (cnt + n))) hx hb hts in_X3 tyX3 tyX3_ok nmX3 hown hK hI hS m_mk v_mk rfl 1 (by decide) q111 rfl rfl rfl (Nat.le_of_ble_eq_true rfl) dX3_addAll_41 (fun H locs f_3 e_3 o_3 hI hS => ?_)
  have v_r : f_3 r = fO 1 [.ref a, .int (nI st), .int (nI (st + n))] := (o_3 _ (fr_ne v_r v_mk (by simp))).trans v_r
  have v_ar1 : f_3 ar1 = fL k N (va_cpy va v1 st cnt n) := (o_3 _ (fr_ne v_ar1 v_mk (by simp))).trans v_ar1
  have v_mk : f_3 mk = fO 2 [.ref ar1, .int (nI (cnt + n))] := e_3
  refine lv_aload_n hx hb dX3_addAll_44 rfl (lv_at hl 0 rfl) ?_
  have n_ar1 : ∀ b ∈ L, b ≠ ar → b ≠ ar1 := by
    intro b hb hn h
    rcases h9 with h9 | h9
    · exact hn (h.trans h9.1)
    · exact h9 (h ▸ hb)
  exact fr_aret hx hb hr (Or.inl ⟨_, rfl⟩) hlocks hI (⟨rfl, ar1, N, _, m_ar1, v_ar1, v_mk, h6, h7, fun i hi => (pk_cpy_out (Or.inl hi)).trans (h8 i hi), fun i hi => by rw [pk_cpy_in (by omega) (by omega), Nat.add_sub_cancel_left], y_1, fun b hb h_mk h_ar => ((o_3 b (h_mk))).trans (((o_2 b ((n_ar1 b hb h_ar)))).trans (y_2 b hb h_mk)), h9.imp id (fun h9 => ⟨h9, ((o_3 ar (p_ar_mk))).trans (((o_2 ar ((fr_neq m0_ar h9)))).trans (y_2 ar m0_ar p_ar_mk))⟩)⟩) hS (by omega) (by omega) dX3_addAll_45
end
section
set_option maxRecDepth 100000
/-! the desk's state in plain words: made, the maker's values mz, four rows of N j values Z j -/
def fr_pos (v : Int32) : Nat := v.toBitVec.toNat % 2147483648
theorem fr_pos_lt (v : Int32) : fr_pos v < 2147483648 := Nat.mod_lt _ (by decide)
theorem fr_pos_and (v : Int32) : v &&& 2147483647 = nI (fr_pos v) := pk_and v 31 (by decide)
theorem fr_31 (v : Int32) : v &&& 31 = nI (v.toBitVec.toNat % 32) := pk_and v 5 (by decide)
def fr_gt (z : Nat → Int64) (n : Nat) (ix : Int32) : Int64 := if n = 0 then 0 else z (fr_pos ix % n)
def fr_F (n : Nat) (fm : Int32) : Nat := fr_pos fm % (n + 1)
def fr_C (n F : Nat) (cn : Int32) : Nat := fr_pos cn % (n - F + 1)
theorem fr_F_le (n : Nat) (fm : Int32) : fr_F n fm ≤ n := Nat.le_of_lt_succ (Nat.mod_lt _ (Nat.succ_pos n))
theorem fr_C_le (n F : Nat) (cn : Int32) (h : F ≤ n) : F + fr_C n F cn ≤ n := by
  have := Nat.mod_lt (fr_pos cn) (show 0 < n - F + 1 by omega)
  unfold fr_C
  omega
def fr_fit (n : Nat) : Int32 := if n ≤ 96 then 1 else 0
def fr_mk (made n : Nat) : Nat := if made + n ≤ 96 then made + n else made
def fr_ap (made : Nat) (mz : Nat → Int64) (z : Nat → Int64) : Nat → Int64 := fun i => if i < made then mz i else z (i - made)
theorem fr_ap_lo {made : Nat} {mz z : Nat → Int64} {i : Nat} (h : i < made) : fr_ap made mz z i = mz i := if_pos h
theorem fr_ap_hi {made : Nat} {mz z : Nat → Int64} (i : Nat) : fr_ap made mz z (made + i) = z i := by
  show (if made + i < made then mz (made + i) else z (made + i - made)) = z i
  rw [if_neg (by omega), Nat.add_sub_cancel_left]
theorem fr_up_eq {α : Type} (g : Nat → α) (j : Nat) : va_up g j (g j) = g := by
  funext i
  by_cases h : i = j
  · rw [h, va_up_self]
  · rw [va_up_ne _ _ h]
theorem fL_inj {k : fr_k} {n n' : Nat} {v v' : Nat → Int64} (h : fL k n v = fL k n' v') : n = n' ∧ v = v' := by
  cases h
  exact ⟨rfl, rfl⟩
def fr_Row (k : fr_k) (L : List Nat) (f : Nat → va_E) (ar cnt r n : Nat) (z : Nat → Int64) : Prop :=
  ∃ (a st cap : Nat) (v : Nat → Int64), r ∈ L ∧ f r = fO 1 [.ref a, .int (nI st), .int (nI (st + n))] ∧ a ∈ L ∧ f a = fL k cap v ∧ st + n ≤ cap ∧ cap ≤ 200 ∧ (a = ar → st + n ≤ cnt) ∧ ∀ t, t < n → v (st + t) = z t
def fr_Desk (k : fr_k) (L : List Nat) (f : Nat → va_E) (x made : Nat) (mz : Nat → Int64) (N : Nat → Nat) (Z : Nat → Nat → Int64) : Prop :=
  ∃ (mk ar rw cap : Nat) (v : Nat → Int64) (g : Nat → Option Nat), x ∈ L ∧ f x = fO 0 [.ref mk, .int (nI made), .ref rw] ∧ mk ∈ L ∧ f mk = fO 2 [.ref ar, .int (nI made)] ∧ ar ∈ L ∧ f ar = fL k cap v ∧ made ≤ cap ∧ cap ≤ 200 ∧ made ≤ 96 ∧ (∀ t, t < made → v t = mz t) ∧ rw ∈ L ∧ f rw = fQ k 4 g ∧
  ∀ j, j < 4 → ∃ r, g j = some r ∧ N j ≤ 96 ∧ fr_Row k L f ar made r (N j) (Z j)
theorem fr_Row.keep {k : fr_k} {L L1 : List Nat} {f f1 : Nat → va_E} {ar ar1 cnt cnt1 r n : Nat} {z : Nat → Int64} (h : fr_Row k L f ar cnt r n z)
    (hL : ∀ b ∈ L, b ∈ L1) (h1 : ∀ b ∈ L, ∀ fs, f b = fO 1 fs → f1 b = f b) (h2 : ∀ b ∈ L, ∀ cap v, f b = fL k cap v → f1 b = f b) (hc : ∀ a st, a ∈ L → (a = ar → st + n ≤ cnt) → a = ar1 → st + n ≤ cnt1) : fr_Row k L1 f1 ar1 cnt1 r n z := by
  obtain ⟨a, st, cap, v, m_r, v_r, m_a, v_a, g1, g2, g3, g4⟩ := h
  exact ⟨a, st, cap, v, hL r m_r, (h1 r m_r _ v_r).trans v_r, hL a m_a, (h2 a m_a _ _ v_a).trans v_a, g1, g2, hc a st m_a g3, g4⟩
theorem fr_Row.congr {k : fr_k} {L : List Nat} {f : Nat → va_E} {ar cnt r n : Nat} {z y : Nat → Int64} (h : fr_Row k L f ar cnt r n z) (e : ∀ t, t < n → z t = y t) : fr_Row k L f ar cnt r n y := by
  obtain ⟨a, st, cap, v, m_r, v_r, m_a, v_a, g1, g2, g3, g4⟩ := h
  exact ⟨a, st, cap, v, m_r, v_r, m_a, v_a, g1, g2, g3, fun t ht => (g4 t ht).trans (e t ht)⟩
theorem fr_Desk.ext {k : fr_k} {L L1 : List Nat} {f f1 : Nat → va_E} {x made : Nat} {mz : Nat → Int64} {N : Nat → Nat} {Z : Nat → Nat → Int64} (h : fr_Desk k L f x made mz N Z) (hx : wX L f L1 f1) : fr_Desk k L1 f1 x made mz N Z := by
  obtain ⟨mk, ar, rw, cap, v, g, m_x, v_x, m_mk, v_mk, m_ar, v_ar, h1, h2, h3, h4, m_rw, v_rw, h5⟩ := h
  refine ⟨mk, ar, rw, cap, v, g, hx.m m_x, hx.v m_x v_x, hx.m m_mk, hx.v m_mk v_mk, hx.m m_ar, hx.v m_ar v_ar, h1, h2, h3, h4, hx.m m_rw, hx.v m_rw v_rw, fun j hj => ?_⟩
  obtain ⟨r, g1, g2, g3⟩ := h5 j hj
  exact ⟨r, g1, g2, g3.keep (fun b hb => hx.m hb) (fun b hb _ _ => (hx b hb).2) (fun b hb _ _ _ => (hx b hb).2) (fun a st _ h e => h e)⟩
theorem fr_Desk.mz {k : fr_k} {L : List Nat} {f : Nat → va_E} {x made : Nat} {mz mz' : Nat → Int64} {N : Nat → Nat} {Z : Nat → Nat → Int64} (h : fr_Desk k L f x made mz N Z) (e : ∀ t, t < made → mz t = mz' t) : fr_Desk k L f x made mz' N Z := by
  obtain ⟨mk, ar, rw, cap, v, g, m_x, v_x, m_mk, v_mk, m_ar, v_ar, h1, h2, h3, h4, h5⟩ := h
  exact ⟨mk, ar, rw, cap, v, g, m_x, v_x, m_mk, v_mk, m_ar, v_ar, h1, h2, h3, fun t ht => (h4 t ht).trans (e t ht), h5⟩
/-- a new row laid into the rows -/
theorem fr_Desk.lay {k : fr_k} {L L1 : List Nat} {f f1 f2 : Nat → va_E} {x made mk ar rw cap z n j : Nat} {v y : Nat → Int64} {g : Nat → Option Nat} {mz : Nat → Int64} {N : Nat → Nat} {Z : Nat → Nat → Int64} {P : Nat → Nat → Prop}
    (m_x : x ∈ L) (v_x : f x = fO 0 [.ref mk, .int (nI made), .ref rw]) (m_mk : mk ∈ L) (v_mk : f mk = fO 2 [.ref ar, .int (nI made)]) (m_ar : ar ∈ L) (v_ar : f ar = fL k cap v) (h1 : made ≤ cap) (h2 : cap ≤ 200) (h3 : made ≤ 96) (h4 : ∀ t, t < made → v t = mz t) (m_rw : rw ∈ L) (v_rw : f rw = fQ k 4 g)
    (h5 : ∀ j, j < 4 → ∃ r, g j = some r ∧ N j ≤ 96 ∧ fr_Row k L f ar made r (N j) (Z j)) (hn : fr_New k L f L1 f1 z n y P) (hP : ∀ st, P ar st → st + n ≤ made) (hn96 : n ≤ 96) (e2 : f2 rw = fQ k 4 (va_up g j (some z))) (o2 : ∀ b, b ≠ rw → f2 b = f1 b) :
    fr_Desk k L1 f2 x made mz (va_up N j n) (va_up Z j y) := by
  obtain ⟨hx, a, st, ca, va, ⟨m_z, v_z, m_a, v_a, g1, g2⟩, hA, hy⟩ := hn
  have w_rw := hx.v m_rw v_rw
  have w_x := hx.v m_x v_x
  have w_mk := hx.v m_mk v_mk
  have w_ar := hx.v m_ar v_ar
  refine ⟨mk, ar, rw, cap, v, _, hx.m m_x, (o2 _ (fr_ne w_x w_rw (by simp))).trans w_x, hx.m m_mk, (o2 _ (fr_ne w_mk w_rw (by simp))).trans w_mk, hx.m m_ar, (o2 _ (fr_ne w_ar w_rw (by simp))).trans w_ar, h1, h2, h3, h4, hx.m m_rw, e2, fun i hi => ?_⟩
  by_cases c : i = j
  · rw [c, va_up_self, va_up_self, va_up_self]
    refine ⟨z, rfl, hn96, a, st, ca, va, m_z, (o2 _ (fr_ne v_z w_rw (by simp))).trans v_z, m_a, (o2 _ (fr_ne v_a w_rw (by simp))).trans v_a, g1, g2, fun e => ?_, hy⟩
    rcases hA with hA | hA
    · exact absurd (e ▸ m_ar) hA
    · exact hP st (e ▸ hA)
  · rw [va_up_ne _ _ c, va_up_ne _ _ c, va_up_ne _ _ c]
    obtain ⟨r, g3, g4, g5⟩ := h5 i hi
    exact ⟨r, g3, g4, g5.keep (fun b hb => hx.m hb) (fun b hb fs hf => (o2 b (fr_ne (hx.v hb hf) w_rw (by simp))).trans (hx b hb).2) (fun b hb cp vv hf => (o2 b (fr_ne (hx.v hb hf) w_rw (by simp))).trans (hx b hb).2) (fun a st _ h e => h e)⟩
theorem fr_Row.app {k : fr_k} {L L1 : List Nat} {f f1 : Nat → va_E} {mk ar ar1 made m cap N r n : Nat} {v v1 z : Nat → Int64} {fsm : List Value} (h : fr_Row k L f ar made r n z) (hL : ∀ b ∈ L, b ∈ L1) (hs : ∀ b ∈ L, b ≠ mk → b ≠ ar → f1 b = f b) (h9 : (ar1 = ar ∧ N = cap) ∨ (ar1 ∉ L ∧ f1 ar = f ar))
    (w_ar1 : f1 ar1 = fL k N v1) (h7 : N ≤ 200) (h8 : ∀ i, i < made → v1 i = v i) (v_ar : f ar = fL k cap v) (v_mk : f mk = fO 2 fsm) : fr_Row k L1 f1 ar1 (made + m) r n z := by
  obtain ⟨a, st, ca, va, m_r, v_r, m_a, v_a, g1, g2, g3, g4⟩ := h
  have r1 : f1 r = f r := hs r m_r (fr_ne v_r v_mk (by simp)) (fr_ne v_r v_ar (by simp))
  by_cases c : a = ar
  · have g5 := g3 c
    have v_a2 : f a = fL k cap v := by rw [c]; exact v_ar
    obtain ⟨e3, e4⟩ := fL_inj (v_a.symm.trans v_a2)
    rcases h9 with ⟨e1, e2⟩ | ⟨e1, e2⟩
    · refine ⟨a, st, N, v1, hL r m_r, r1.trans v_r, hL a m_a, ?_, by omega, h7, fun _ => by omega, fun i hi => ?_⟩
      · rw [c, ← e1]; exact w_ar1
      · rw [h8 _ (by omega), ← e4]; exact g4 i hi
    · refine ⟨a, st, ca, va, hL r m_r, r1.trans v_r, hL a m_a, ?_, g1, g2, fun e => absurd (e ▸ m_a) e1, g4⟩
      rw [c, e2, ← c]; exact v_a
  · refine ⟨a, st, ca, va, hL r m_r, r1.trans v_r, hL a m_a, (hs a m_a (fr_ne v_a v_mk (by simp)) c).trans v_a, g1, g2, fun e => ?_, g4⟩
    rcases h9 with ⟨e1, e2⟩ | ⟨e1, e2⟩
    · exact absurd (e.trans e1) c
    · exact absurd (e ▸ m_a) e1
/-- behind an add: x's own count is already the new one -/
theorem fr_Desk.app {k : fr_k} {L L1 : List Nat} {f f1 : Nat → va_E} {x made m mk ar rw cap : Nat} {v z : Nat → Int64} {g : Nat → Option Nat} {mz : Nat → Int64} {N : Nat → Nat} {Z : Nat → Nat → Int64}
    (m_x : x ∈ L) (v_x : f x = fO 0 [.ref mk, .int (nI (made + m)), .ref rw]) (v_mk : f mk = fO 2 [.ref ar, .int (nI made)]) (m_mk : mk ∈ L) (v_ar : f ar = fL k cap v) (h4 : ∀ t, t < made → v t = mz t) (m_rw : rw ∈ L) (v_rw : f rw = fQ k 4 g)
    (h5 : ∀ j, j < 4 → ∃ r, g j = some r ∧ N j ≤ 96 ∧ fr_Row k L f ar made r (N j) (Z j)) (ha : fr_App k mk ar made cap m v z L f L1 f1) (h96 : made + m ≤ 96) : fr_Desk k L1 f1 x (made + m) (fr_ap made mz z) N Z := by
  obtain ⟨ar1, N1, v1, m_ar1, w_ar1, w_mk, a1, a2, a3, a4, hL, hs, h9⟩ := ha
  refine ⟨mk, ar1, rw, N1, v1, g, hL x m_x, (hs x m_x (fr_ne v_x v_mk (by simp)) (fr_ne v_x v_ar (by simp))).trans v_x, hL mk m_mk, w_mk, m_ar1, w_ar1, a1, a2, h96, fun t ht => ?_, hL rw m_rw, (hs rw m_rw (fr_ne v_rw v_mk (by simp)) (fr_ne v_rw v_ar (by simp))).trans v_rw, fun j hj => ?_⟩
  · by_cases c : t < made
    · rw [a3 t c, fr_ap_lo c, h4 t c]
    · obtain ⟨d, rfl⟩ : ∃ d, t = made + d := ⟨t - made, by omega⟩
      rw [fr_ap_hi, a4 d (by omega)]
  · obtain ⟨r, g1, g2, g3⟩ := h5 j hj
    exact ⟨r, g1, g2, g3.app hL hs h9 w_ar1 a2 a3 v_ar v_mk⟩
set_option maxHeartbeats 4000000 in
set_option maxRecDepth 100000 in
/-- length(k) -/
theorem metX0_length (l : Launch) (D : va_G) (k : fr_k) (A : Nat → Prop) (sz : Nat) (L : List Nat) (f : Nat → va_E) (x made : Nat) (mz : Nat → Int64) (N : Nat → Nat) (Z : Nat → Nat → Int64) (hd : fr_Desk k L f x made mz N Z) (kx : Int32) (j : Nat) (hj : j < 4) (ej : kx &&& 3 = nI j) : Met l yX0_length (ws_ yX0_length cX0_length 2 (some .int)) (fr_rm 5 0 0) (fr_W D k A [.ref x, .int kx] sz L f) (fr_Qi D A (fun L1 f1 r0 => r0 = (nI (N j)) ∧ fr_Desk k L1 f1 x made mz N Z)) 0 0 A := by
  refine Met.ofW (cc := cX0_length) (maxL := 2) (ret := (some .int)) (by decide) rfl ?_
  intro p e s m args below meth c s₁ B hml hv
  obtain ⟨rfl, ⟨hsz, hI⟩, hK⟩ := hv
  have hx := B.exec
  have hb := B.bytes
  have hr := B.returns
  have hts := atoms_spec (ws := ws_ yX0_length cX0_length 2 (some .int)) B.pre
  have hts : ∀ w ∈ lw_all, w.before _ s = true := fun w h => hts w (List.mem_cons_of_mem _ h)
  have hown : s.vm.findClass RX0 = some m.cls := findClass_of_methodNamed B.named
  have hlocks := B.notSynchronized
  subst hsz
  have hS : va_S A s.heap s.heap [] := va_S.rf
  have hl := lv_entry ([.ref x, .int kx]) (n := 2) (Nat.le_of_ble_eq_true rfl)
  rw [lg_entry_eq]
  generalize (lg_sl ([.ref x, .int kx]) ++ List.replicate (2 - (lg_sl ([.ref x, .int kx])).length) Slot.unset).toArray = ls at hl ⊢
  have hl : lv_has ls 2 [(0, .ref x), (1, .int kx)] := hl
  obtain ⟨mk, ar, rw, cap, v, g, m_x, v_x, m_mk, v_mk, m_ar, v_ar, h1, h2, h3, h4, m_rw, v_rw, h5⟩ := id hd
  obtain ⟨r, hg, hN, a, st, ca, va, m_r, v_r, m_a, v_a, g1, g2, g3, hz⟩ := h5 j hj
  refine lv_aload_n hx hb dX0_length_0 rfl (lv_at hl 0 rfl) ?_
  refine fr_get (C := RX0) (T := TX0) (N := 3) (ci := 0) (v := .ref rw) hx hb hts in_X0 hown hK (hI.in m_x v_x) rfl 2 (by decide) q146 rfl dX0_length_1 ?_
  refine lv_iload_n hx hb dX0_length_4 rfl (lv_at hl 1 rfl) ?_
  refine lv_iconst (v := 3) hx hb dX0_length_5 (by decide) ?_
  refine lv_iand hx hb dX0_length_6 ?_
  refine fr_aldq (j := j) (n := 4) (g := g) (z := r) hx hb hK (hI.in m_rw v_rw) (ej) (hj) (by decide) (hg) dX0_length_7 ?_
  refine fr_rV (As := []) (rest := []) (ci := 1) ⟨hx, hb, hml, hown, hts⟩ (metX1_length l D k r a st (N j)) (cwV 0 hts (lw_V q218 q219 q220 q5 q221) rfl rfl rfl (by decide +kernel) ⟨Nat.le_of_ble_eq_true rfl, Nat.le_of_ble_eq_true rfl⟩) hK (hI.in m_r v_r) rfl rfl rfl rfl hl.1 rfl (Nat.le_of_ble_eq_true rfl) dX0_length_8 ⟨Nat.zero_le _, Nat.zero_le _⟩ ?_
  exact fr_iret hx hb hr hlocks hI (⟨rfl, hd⟩) hS (by omega) (by omega) dX0_length_11
set_option maxHeartbeats 4000000 in
set_option maxRecDepth 100000 in
/-- hash(k) -/
theorem metX0_hash (l : Launch) (D : va_G) (k : fr_k) (A : Nat → Prop) (sz : Nat) (L : List Nat) (f : Nat → va_E) (x made : Nat) (mz : Nat → Int64) (N : Nat → Nat) (Z : Nat → Nat → Int64) (hd : fr_Desk k L f x made mz N Z) (kx : Int32) (j : Nat) (hj : j < 4) (ej : kx &&& 3 = nI j) : Met l yX0_hash (ws_ yX0_hash cX0_hash 2 (some .int)) (fr_rm 5 0 0) (fr_W D k A [.ref x, .int kx] sz L f) (fr_Qi D A (fun L1 f1 r0 => r0 = (fr_hs (Z j) (N j)) ∧ fr_Desk k L1 f1 x made mz N Z)) 0 0 A := by
  refine Met.ofW (cc := cX0_hash) (maxL := 2) (ret := (some .int)) (by decide) rfl ?_
  intro p e s m args below meth c s₁ B hml hv
  obtain ⟨rfl, ⟨hsz, hI⟩, hK⟩ := hv
  have hx := B.exec
  have hb := B.bytes
  have hr := B.returns
  have hts := atoms_spec (ws := ws_ yX0_hash cX0_hash 2 (some .int)) B.pre
  have hts : ∀ w ∈ lw_all, w.before _ s = true := fun w h => hts w (List.mem_cons_of_mem _ h)
  have hown : s.vm.findClass RX0 = some m.cls := findClass_of_methodNamed B.named
  have hlocks := B.notSynchronized
  subst hsz
  have hS : va_S A s.heap s.heap [] := va_S.rf
  have hl := lv_entry ([.ref x, .int kx]) (n := 2) (Nat.le_of_ble_eq_true rfl)
  rw [lg_entry_eq]
  generalize (lg_sl ([.ref x, .int kx]) ++ List.replicate (2 - (lg_sl ([.ref x, .int kx])).length) Slot.unset).toArray = ls at hl ⊢
  have hl : lv_has ls 2 [(0, .ref x), (1, .int kx)] := hl
  obtain ⟨mk, ar, rw, cap, v, g, m_x, v_x, m_mk, v_mk, m_ar, v_ar, h1, h2, h3, h4, m_rw, v_rw, h5⟩ := id hd
  obtain ⟨r, hg, hN, a, st, ca, va, m_r, v_r, m_a, v_a, g1, g2, g3, hz⟩ := h5 j hj
  refine lv_aload_n hx hb dX0_hash_0 rfl (lv_at hl 0 rfl) ?_
  refine fr_get (C := RX0) (T := TX0) (N := 3) (ci := 0) (v := .ref rw) hx hb hts in_X0 hown hK (hI.in m_x v_x) rfl 2 (by decide) q146 rfl dX0_hash_1 ?_
  refine lv_iload_n hx hb dX0_hash_4 rfl (lv_at hl 1 rfl) ?_
  refine lv_iconst (v := 3) hx hb dX0_hash_5 (by decide) ?_
  refine lv_iand hx hb dX0_hash_6 ?_
  refine fr_aldq (j := j) (n := 4) (g := g) (z := r) hx hb hK (hI.in m_rw v_rw) (ej) (hj) (by decide) (hg) dX0_hash_7 ?_
  refine fr_rV (As := []) (rest := []) (ci := 1) ⟨hx, hb, hml, hown, hts⟩ (metX1_hashCode l D k r a st (N j) ca va g1 g2) (cwV 0 hts (lw_V q357 q358 q359 q5 q360) rfl rfl rfl (by decide +kernel) ⟨Nat.le_of_ble_eq_true rfl, Nat.le_of_ble_eq_true rfl⟩) hK (fr_cons (hI.in m_r v_r) (hI.in m_a v_a)) rfl rfl rfl rfl hl.1 rfl (Nat.le_of_ble_eq_true rfl) dX0_hash_8 ⟨Nat.zero_le _, Nat.zero_le _⟩ ?_
  exact fr_iret hx hb hr hlocks hI (⟨fr_hs_congr _ hz, hd⟩) hS (by omega) (by omega) dX0_hash_11
set_option maxHeartbeats 4000000 in
set_option maxRecDepth 100000 in
/-- first(k, hi, lo) -/
theorem metX0_first (l : Launch) (D : va_G) (k : fr_k) (A : Nat → Prop) (sz : Nat) (L : List Nat) (f : Nat → va_E) (x made : Nat) (mz : Nat → Int64) (N : Nat → Nat) (Z : Nat → Nat → Int64) (hd : fr_Desk k L f x made mz N Z) (kx : Int32) (j : Nat) (hj : j < 4) (ej : kx &&& 3 = nI j) (hi lo : Int32) : Met l yX0_first (ws_ yX0_first cX0_first 4 (some .int)) (fr_rm 5 0 0) (fr_W D k A [.ref x, .int kx, .int hi, .int lo] sz L f) (fr_Qi D A (fun L1 f1 r0 => r0 = (fr_ff (Z j) (fr_J hi lo) (N j) 0) ∧ fr_Desk k L1 f1 x made mz N Z)) 0 0 A := by
  refine Met.ofW (cc := cX0_first) (maxL := 4) (ret := (some .int)) (by decide) rfl ?_
  intro p e s m args below meth c s₁ B hml hv
  obtain ⟨rfl, ⟨hsz, hI⟩, hK⟩ := hv
  have hx := B.exec
  have hb := B.bytes
  have hr := B.returns
  have hts := atoms_spec (ws := ws_ yX0_first cX0_first 4 (some .int)) B.pre
  have hts : ∀ w ∈ lw_all, w.before _ s = true := fun w h => hts w (List.mem_cons_of_mem _ h)
  have hown : s.vm.findClass RX0 = some m.cls := findClass_of_methodNamed B.named
  have hlocks := B.notSynchronized
  subst hsz
  have hS : va_S A s.heap s.heap [] := va_S.rf
  have hl := lv_entry ([.ref x, .int kx, .int hi, .int lo]) (n := 4) (Nat.le_of_ble_eq_true rfl)
  rw [lg_entry_eq]
  generalize (lg_sl ([.ref x, .int kx, .int hi, .int lo]) ++ List.replicate (4 - (lg_sl ([.ref x, .int kx, .int hi, .int lo])).length) Slot.unset).toArray = ls at hl ⊢
  have hl : lv_has ls 4 [(0, .ref x), (1, .int kx), (2, .int hi), (3, .int lo)] := hl
  obtain ⟨mk, ar, rw, cap, v, g, m_x, v_x, m_mk, v_mk, m_ar, v_ar, h1, h2, h3, h4, m_rw, v_rw, h5⟩ := id hd
  obtain ⟨r, hg, hN, a, st, ca, va, m_r, v_r, m_a, v_a, g1, g2, g3, hz⟩ := h5 j hj
  refine lv_aload_n hx hb dX0_first_0 rfl (lv_at hl 0 rfl) ?_
  refine fr_get (C := RX0) (T := TX0) (N := 3) (ci := 0) (v := .ref rw) hx hb hts in_X0 hown hK (hI.in m_x v_x) rfl 2 (by decide) q146 rfl dX0_first_1 ?_
  refine lv_iload_n hx hb dX0_first_4 rfl (lv_at hl 1 rfl) ?_
  refine lv_iconst (v := 3) hx hb dX0_first_5 (by decide) ?_
  refine lv_iand hx hb dX0_first_6 ?_
  refine fr_aldq (j := j) (n := 4) (g := g) (z := r) hx hb hK (hI.in m_rw v_rw) (ej) (hj) (by decide) (hg) dX0_first_7 ?_
  refine lv_iload_n hx hb dX0_first_8 rfl (lv_at hl 2 rfl) ?_
  refine lv_iload_n hx hb dX0_first_9 rfl (lv_at hl 3 rfl) ?_
  refine fr_rS (As := [.int hi, .int lo]) (rest := [.ref r]) ⟨hx, hb, hml, hown, hts⟩ (metX0_of l D k hi lo) (va_cwS 2 hts (lw_S q158 q159 q4 q160) rfl rfl rfl (by decide +kernel) ⟨Nat.le_of_ble_eq_true rfl, Nat.le_of_ble_eq_true rfl⟩) hK (fr_nil) rfl hl.1 rfl (Nat.le_of_ble_eq_true rfl) dX0_first_10 ⟨Nat.zero_le _, Nat.zero_le _⟩ ?_
  refine fr_rV (As := [.long (fr_J hi lo)]) (rest := []) (ci := 1) ⟨hx, hb, hml, hown, hts⟩ (metX1_indexOf l D k r a st (N j) ca va (fr_J hi lo) g1 g2) (cwV 1 hts (lw_V q319 q320 q321 q5 q322) rfl rfl rfl (by decide +kernel) ⟨Nat.le_of_ble_eq_true rfl, Nat.le_of_ble_eq_true rfl⟩) hK (fr_cons (hI.in m_r v_r) (hI.in m_a v_a)) rfl rfl rfl rfl hl.1 rfl (Nat.le_of_ble_eq_true rfl) dX0_first_13 ⟨Nat.zero_le _, Nat.zero_le _⟩ ?_
  exact fr_iret hx hb hr hlocks hI (⟨fr_ff_congr _ _ (fun t ht => hz t (by omega)), hd⟩) hS (by omega) (by omega) dX0_first_16
set_option maxHeartbeats 4000000 in
set_option maxRecDepth 100000 in
/-- last(k, hi, lo) -/
theorem metX0_last (l : Launch) (D : va_G) (k : fr_k) (A : Nat → Prop) (sz : Nat) (L : List Nat) (f : Nat → va_E) (x made : Nat) (mz : Nat → Int64) (N : Nat → Nat) (Z : Nat → Nat → Int64) (hd : fr_Desk k L f x made mz N Z) (kx : Int32) (j : Nat) (hj : j < 4) (ej : kx &&& 3 = nI j) (hi lo : Int32) : Met l yX0_last (ws_ yX0_last cX0_last 4 (some .int)) (fr_rm 5 0 0) (fr_W D k A [.ref x, .int kx, .int hi, .int lo] sz L f) (fr_Qi D A (fun L1 f1 r0 => r0 = (fr_fl (Z j) (fr_J hi lo) (N j)) ∧ fr_Desk k L1 f1 x made mz N Z)) 0 0 A := by
  refine Met.ofW (cc := cX0_last) (maxL := 4) (ret := (some .int)) (by decide) rfl ?_
  intro p e s m args below meth c s₁ B hml hv
  obtain ⟨rfl, ⟨hsz, hI⟩, hK⟩ := hv
  have hx := B.exec
  have hb := B.bytes
  have hr := B.returns
  have hts := atoms_spec (ws := ws_ yX0_last cX0_last 4 (some .int)) B.pre
  have hts : ∀ w ∈ lw_all, w.before _ s = true := fun w h => hts w (List.mem_cons_of_mem _ h)
  have hown : s.vm.findClass RX0 = some m.cls := findClass_of_methodNamed B.named
  have hlocks := B.notSynchronized
  subst hsz
  have hS : va_S A s.heap s.heap [] := va_S.rf
  have hl := lv_entry ([.ref x, .int kx, .int hi, .int lo]) (n := 4) (Nat.le_of_ble_eq_true rfl)
  rw [lg_entry_eq]
  generalize (lg_sl ([.ref x, .int kx, .int hi, .int lo]) ++ List.replicate (4 - (lg_sl ([.ref x, .int kx, .int hi, .int lo])).length) Slot.unset).toArray = ls at hl ⊢
  have hl : lv_has ls 4 [(0, .ref x), (1, .int kx), (2, .int hi), (3, .int lo)] := hl
  obtain ⟨mk, ar, rw, cap, v, g, m_x, v_x, m_mk, v_mk, m_ar, v_ar, h1, h2, h3, h4, m_rw, v_rw, h5⟩ := id hd
  obtain ⟨r, hg, hN, a, st, ca, va, m_r, v_r, m_a, v_a, g1, g2, g3, hz⟩ := h5 j hj
  refine lv_aload_n hx hb dX0_last_0 rfl (lv_at hl 0 rfl) ?_
  refine fr_get (C := RX0) (T := TX0) (N := 3) (ci := 0) (v := .ref rw) hx hb hts in_X0 hown hK (hI.in m_x v_x) rfl 2 (by decide) q146 rfl dX0_last_1 ?_
  refine lv_iload_n hx hb dX0_last_4 rfl (lv_at hl 1 rfl) ?_
  refine lv_iconst (v := 3) hx hb dX0_last_5 (by decide) ?_
  refine lv_iand hx hb dX0_last_6 ?_
  refine fr_aldq (j := j) (n := 4) (g := g) (z := r) hx hb hK (hI.in m_rw v_rw) (ej) (hj) (by decide) (hg) dX0_last_7 ?_
  refine lv_iload_n hx hb dX0_last_8 rfl (lv_at hl 2 rfl) ?_
  refine lv_iload_n hx hb dX0_last_9 rfl (lv_at hl 3 rfl) ?_
  refine fr_rS (As := [.int hi, .int lo]) (rest := [.ref r]) ⟨hx, hb, hml, hown, hts⟩ (metX0_of l D k hi lo) (va_cwS 2 hts (lw_S q158 q159 q4 q160) rfl rfl rfl (by decide +kernel) ⟨Nat.le_of_ble_eq_true rfl, Nat.le_of_ble_eq_true rfl⟩) hK (fr_nil) rfl hl.1 rfl (Nat.le_of_ble_eq_true rfl) dX0_last_10 ⟨Nat.zero_le _, Nat.zero_le _⟩ ?_
  refine fr_rV (As := [.long (fr_J hi lo)]) (rest := []) (ci := 1) ⟨hx, hb, hml, hown, hts⟩ (metX1_lastIndexOf l D k r a st (N j) ca va (fr_J hi lo) g1 g2) (cwV 1 hts (lw_V q327 q328 q329 q5 q330) rfl rfl rfl (by decide +kernel) ⟨Nat.le_of_ble_eq_true rfl, Nat.le_of_ble_eq_true rfl⟩) hK (fr_cons (hI.in m_r v_r) (hI.in m_a v_a)) rfl rfl rfl rfl hl.1 rfl (Nat.le_of_ble_eq_true rfl) dX0_last_13 ⟨Nat.zero_le _, Nat.zero_le _⟩ ?_
  exact fr_iret hx hb hr hlocks hI (⟨fr_fl_congr _ hz, hd⟩) hS (by omega) (by omega) dX0_last_16
set_option maxHeartbeats 4000000 in
set_option maxRecDepth 100000 in
/-- holds(k, hi, lo) -/
theorem metX0_holds (l : Launch) (D : va_G) (k : fr_k) (A : Nat → Prop) (sz : Nat) (L : List Nat) (f : Nat → va_E) (x made : Nat) (mz : Nat → Int64) (N : Nat → Nat) (Z : Nat → Nat → Int64) (hd : fr_Desk k L f x made mz N Z) (kx : Int32) (j : Nat) (hj : j < 4) (ej : kx &&& 3 = nI j) (hi lo : Int32) : Met l yX0_holds (ws_ yX0_holds cX0_holds 4 (some .boolean)) (fr_rm 5 0 0) (fr_W D k A [.ref x, .int kx, .int hi, .int lo] sz L f) (fr_Qi D A (fun L1 f1 r0 => r0 = (fr_ct (fr_ff (Z j) (fr_J hi lo) (N j) 0)) ∧ fr_Desk k L1 f1 x made mz N Z)) 0 0 A := by
  refine Met.ofW (cc := cX0_holds) (maxL := 4) (ret := (some .boolean)) (by decide) rfl ?_
  intro p e s m args below meth c s₁ B hml hv
  obtain ⟨rfl, ⟨hsz, hI⟩, hK⟩ := hv
  have hx := B.exec
  have hb := B.bytes
  have hr := B.returns
  have hts := atoms_spec (ws := ws_ yX0_holds cX0_holds 4 (some .boolean)) B.pre
  have hts : ∀ w ∈ lw_all, w.before _ s = true := fun w h => hts w (List.mem_cons_of_mem _ h)
  have hown : s.vm.findClass RX0 = some m.cls := findClass_of_methodNamed B.named
  have hlocks := B.notSynchronized
  subst hsz
  have hS : va_S A s.heap s.heap [] := va_S.rf
  have hl := lv_entry ([.ref x, .int kx, .int hi, .int lo]) (n := 4) (Nat.le_of_ble_eq_true rfl)
  rw [lg_entry_eq]
  generalize (lg_sl ([.ref x, .int kx, .int hi, .int lo]) ++ List.replicate (4 - (lg_sl ([.ref x, .int kx, .int hi, .int lo])).length) Slot.unset).toArray = ls at hl ⊢
  have hl : lv_has ls 4 [(0, .ref x), (1, .int kx), (2, .int hi), (3, .int lo)] := hl
  obtain ⟨mk, ar, rw, cap, v, g, m_x, v_x, m_mk, v_mk, m_ar, v_ar, h1, h2, h3, h4, m_rw, v_rw, h5⟩ := id hd
  obtain ⟨r, hg, hN, a, st, ca, va, m_r, v_r, m_a, v_a, g1, g2, g3, hz⟩ := h5 j hj
  refine lv_aload_n hx hb dX0_holds_0 rfl (lv_at hl 0 rfl) ?_
  refine fr_get (C := RX0) (T := TX0) (N := 3) (ci := 0) (v := .ref rw) hx hb hts in_X0 hown hK (hI.in m_x v_x) rfl 2 (by decide) q146 rfl dX0_holds_1 ?_
  refine lv_iload_n hx hb dX0_holds_4 rfl (lv_at hl 1 rfl) ?_
  refine lv_iconst (v := 3) hx hb dX0_holds_5 (by decide) ?_
  refine lv_iand hx hb dX0_holds_6 ?_
  refine fr_aldq (j := j) (n := 4) (g := g) (z := r) hx hb hK (hI.in m_rw v_rw) (ej) (hj) (by decide) (hg) dX0_holds_7 ?_
  refine lv_iload_n hx hb dX0_holds_8 rfl (lv_at hl 2 rfl) ?_
  refine lv_iload_n hx hb dX0_holds_9 rfl (lv_at hl 3 rfl) ?_
  refine fr_rS (As := [.int hi, .int lo]) (rest := [.ref r]) ⟨hx, hb, hml, hown, hts⟩ (metX0_of l D k hi lo) (va_cwS 2 hts (lw_S q158 q159 q4 q160) rfl rfl rfl (by decide +kernel) ⟨Nat.le_of_ble_eq_true rfl, Nat.le_of_ble_eq_true rfl⟩) hK (fr_nil) rfl hl.1 rfl (Nat.le_of_ble_eq_true rfl) dX0_holds_10 ⟨Nat.zero_le _, Nat.zero_le _⟩ ?_
  refine fr_rV (As := [.long (fr_J hi lo)]) (rest := []) (ci := 1) ⟨hx, hb, hml, hown, hts⟩ (metX1_contains l D k r a st (N j) ca va (fr_J hi lo) g1 g2) (cwV 1 hts (lw_V q335 q336 q337 q5 q338) rfl rfl rfl (by decide +kernel) ⟨Nat.le_of_ble_eq_true rfl, Nat.le_of_ble_eq_true rfl⟩) hK (fr_cons (hI.in m_r v_r) (hI.in m_a v_a)) rfl rfl rfl rfl hl.1 rfl (Nat.le_of_ble_eq_true rfl) dX0_holds_13 ⟨Nat.zero_le _, Nat.zero_le _⟩ ?_
  exact fr_zret hx hb hr hlocks (fr_ct_01 _) hI (⟨congrArg fr_ct (fr_ff_congr _ _ (fun t ht => hz t (by omega))), hd⟩) hS (by omega) (by omega) dX0_holds_16
set_option maxHeartbeats 4000000 in
set_option maxRecDepth 100000 in
/-- get(k, ix) -/
theorem metX0_get (l : Launch) (D : va_G) (k : fr_k) (A : Nat → Prop) (sz : Nat) (L : List Nat) (f : Nat → va_E) (x made : Nat) (mz : Nat → Int64) (N : Nat → Nat) (Z : Nat → Nat → Int64) (hd : fr_Desk k L f x made mz N Z) (kx : Int32) (j : Nat) (hj : j < 4) (ej : kx &&& 3 = nI j) (ix : Int32) : Met l yX0_get (ws_ yX0_get cX0_get 4 (some .long)) (fr_rm 5 0 0) (fr_W D k A [.ref x, .int kx, .int ix] sz L f) (fr_Ql D A (fun L1 f1 r0 => r0 = (fr_gt (Z j) (N j) ix) ∧ fr_Desk k L1 f1 x made mz N Z)) 0 0 A := by
  refine Met.ofW (cc := cX0_get) (maxL := 4) (ret := (some .long)) (by decide) rfl ?_
  intro p e s m args below meth c s₁ B hml hv
  obtain ⟨rfl, ⟨hsz, hI⟩, hK⟩ := hv
  have hx := B.exec
  have hb := B.bytes
  have hr := B.returns
  have hts := atoms_spec (ws := ws_ yX0_get cX0_get 4 (some .long)) B.pre
  have hts : ∀ w ∈ lw_all, w.before _ s = true := fun w h => hts w (List.mem_cons_of_mem _ h)
  have hown : s.vm.findClass RX0 = some m.cls := findClass_of_methodNamed B.named
  have hlocks := B.notSynchronized
  subst hsz
  have hS : va_S A s.heap s.heap [] := va_S.rf
  have hl := lv_entry ([.ref x, .int kx, .int ix]) (n := 4) (Nat.le_of_ble_eq_true rfl)
  rw [lg_entry_eq]
  generalize (lg_sl ([.ref x, .int kx, .int ix]) ++ List.replicate (4 - (lg_sl ([.ref x, .int kx, .int ix])).length) Slot.unset).toArray = ls at hl ⊢
  have hl : lv_has ls 4 [(0, .ref x), (1, .int kx), (2, .int ix)] := hl
  obtain ⟨mk, ar, rw, cap, v, g, m_x, v_x, m_mk, v_mk, m_ar, v_ar, h1, h2, h3, h4, m_rw, v_rw, h5⟩ := id hd
  obtain ⟨r, hg, hN, a, st, ca, va, m_r, v_r, m_a, v_a, g1, g2, g3, hz⟩ := h5 j hj
  refine lv_aload_n hx hb dX0_get_0 rfl (lv_at hl 0 rfl) ?_
  refine fr_get (C := RX0) (T := TX0) (N := 3) (ci := 0) (v := .ref rw) hx hb hts in_X0 hown hK (hI.in m_x v_x) rfl 2 (by decide) q146 rfl dX0_get_1 ?_
  refine lv_iload_n hx hb dX0_get_4 rfl (lv_at hl 1 rfl) ?_
  refine lv_iconst (v := 3) hx hb dX0_get_5 (by decide) ?_
  refine lv_iand hx hb dX0_get_6 ?_
  refine fr_aldq (j := j) (n := 4) (g := g) (z := r) hx hb hK (hI.in m_rw v_rw) (ej) (hj) (by decide) (hg) dX0_get_7 ?_
  refine lv_astore_n (lv' := [(3, .ref r), (0, .ref x), (1, .int kx), (2, .int ix)]) hx hb dX0_get_8 rfl hl (by decide) rfl (fun ls hl => ?_)
  refine lv_aload_n hx hb dX0_get_9 rfl (lv_at hl 0 rfl) ?_
  refine fr_rV (As := []) (rest := []) (ci := 1) ⟨hx, hb, hml, hown, hts⟩ (metX1_isEmpty l D k r a st (N j) (by omega)) (cwV 0 hts (lw_V q300 q301 q302 q5 q303) rfl rfl rfl (by decide +kernel) ⟨Nat.le_of_ble_eq_true rfl, Nat.le_of_ble_eq_true rfl⟩) hK (hI.in m_r v_r) rfl rfl rfl rfl hl.1 rfl (Nat.le_of_ble_eq_true rfl) dX0_get_10 ⟨Nat.zero_le _, Nat.zero_le _⟩ ?_
  refine lv_if_eq (tgt := 20) hx hb dX0_get_13 (by decide) (fun c_1 => ?_) (fun c_1 => ?_)
  · have hn : ¬ N j = 0 := fun h => absurd (by rw [if_pos h] at c_1; exact c_1) (by decide : ¬ (1 : Int32) = 0)
    refine lv_aload_n hx hb dX0_get_20 rfl (lv_at hl 0 rfl) ?_
    refine lv_iload_n hx hb dX0_get_21 rfl (lv_at hl 3 rfl) ?_
    refine lv_ldc (v := 2147483647) hx hb hown (hts _ q247) dX0_get_22 ?_
    refine lv_iand hx hb dX0_get_24 ?_
    refine fr_topi (show (ix &&& 2147483647) = nI (fr_pos ix) from fr_pos_and ix) ?_
    refine lv_aload_n hx hb dX0_get_25 rfl (lv_at hl 0 rfl) ?_
    refine fr_rV (As := []) (rest := [.int (nI (fr_pos ix)), .ref r]) (ci := 1) ⟨hx, hb, hml, hown, hts⟩ (metX1_length l D k r a st (N j)) (cwV 0 hts (lw_V q218 q219 q220 q5 q221) rfl rfl rfl (by decide +kernel) ⟨Nat.le_of_ble_eq_true rfl, Nat.le_of_ble_eq_true rfl⟩) hK (hI.in m_r v_r) rfl rfl rfl rfl hl.1 rfl (Nat.le_of_ble_eq_true rfl) dX0_get_26 ⟨Nat.zero_le _, Nat.zero_le _⟩ ?_
    have hlt : fr_pos ix % N j < N j := Nat.mod_lt _ (by omega)
    have hp := fr_pos_lt ix
    refine lv_irem hx hb dX0_get_29 (nI_ne0 (by omega) (by omega)) ?_
    refine fr_topi (show ((nI (fr_pos ix)) - (nI (fr_pos ix)) / (nI (N j)) * (nI (N j))) = nI (fr_pos ix % N j) from pk_rem hp (by omega) (by omega)) ?_
    refine fr_rV (As := [.int (nI (fr_pos ix % N j))]) (rest := []) (ci := 1) ⟨hx, hb, hml, hown, hts⟩ (metX1_get l D k r a st (N j) ca (fr_pos ix % N j) va g1 g2 hlt) (cwV 1 hts (lw_V q304 q305 q306 q5 q307) rfl rfl rfl (by decide +kernel) ⟨Nat.le_of_ble_eq_true rfl, Nat.le_of_ble_eq_true rfl⟩) hK (fr_cons (hI.in m_r v_r) (hI.in m_a v_a)) rfl rfl rfl rfl hl.1 rfl (Nat.le_of_ble_eq_true rfl) dX0_get_30 ⟨Nat.zero_le _, Nat.zero_le _⟩ ?_
    exact fr_lret hx hb hr hlocks hI (⟨by rw [hz _ hlt]; exact (if_neg hn).symm, hd⟩) hS (by omega) (by omega) dX0_get_33
  · have hn : N j = 0 := by
      rcases Nat.eq_zero_or_pos (N j) with h | h
      · exact h
      · exact absurd (if_neg (by omega)) c_1
    refine lv_lconst (v := 0) hx hb dX0_get_16 (by decide) ?_
    refine lv_goto (tgt := 33) hx hb dX0_get_17 (by decide) ?_
    exact fr_lret hx hb hr hlocks hI (⟨(if_pos hn).symm, hd⟩) hS (by omega) (by omega) dX0_get_33
set_option maxHeartbeats 4000000 in
set_option maxRecDepth 100000 in
/-- same(j, k) -/
theorem metX0_same (l : Launch) (D : va_G) (k : fr_k) (A : Nat → Prop) (sz : Nat) (L : List Nat) (f : Nat → va_E) (x made : Nat) (mz : Nat → Int64) (N : Nat → Nat) (Z : Nat → Nat → Int64) (hd : fr_Desk k L f x made mz N Z) (kx ky : Int32) (j i : Nat) (hj : j < 4) (ej : kx &&& 3 = nI j) (hi : i < 4) (ei : ky &&& 3 = nI i) : Met l yX0_same (ws_ yX0_same cX0_same 3 (some .boolean)) (fr_rm 5 0 0) (fr_W D k A [.ref x, .int kx, .int ky] sz L f) (fr_Qi D A (fun L1 f1 r0 => r0 = (if N j = N i then fr_eqb (Z j) (Z i) (N j) 0 else 0) ∧ fr_Desk k L1 f1 x made mz N Z)) 0 0 A := by
  refine Met.ofW (cc := cX0_same) (maxL := 3) (ret := (some .boolean)) (by decide) rfl ?_
  intro p e s m args below meth c s₁ B hml hv
  obtain ⟨rfl, ⟨hsz, hI⟩, hK⟩ := hv
  have hx := B.exec
  have hb := B.bytes
  have hr := B.returns
  have hts := atoms_spec (ws := ws_ yX0_same cX0_same 3 (some .boolean)) B.pre
  have hts : ∀ w ∈ lw_all, w.before _ s = true := fun w h => hts w (List.mem_cons_of_mem _ h)
  have hown : s.vm.findClass RX0 = some m.cls := findClass_of_methodNamed B.named
  have hlocks := B.notSynchronized
  subst hsz
  have hS : va_S A s.heap s.heap [] := va_S.rf
  have hl := lv_entry ([.ref x, .int kx, .int ky]) (n := 3) (Nat.le_of_ble_eq_true rfl)
  rw [lg_entry_eq]
  generalize (lg_sl ([.ref x, .int kx, .int ky]) ++ List.replicate (3 - (lg_sl ([.ref x, .int kx, .int ky])).length) Slot.unset).toArray = ls at hl ⊢
  have hl : lv_has ls 3 [(0, .ref x), (1, .int kx), (2, .int ky)] := hl
  obtain ⟨mk, ar, rw, cap, v, g, m_x, v_x, m_mk, v_mk, m_ar, v_ar, h1, h2, h3, h4, m_rw, v_rw, h5⟩ := id hd
  obtain ⟨r, hg, hN, a, st, ca, va, m_r, v_r, m_a, v_a, g1, g2, g3, hz⟩ := h5 j hj
  obtain ⟨r2, hg2, hN2, a2, st2, ca2, va2, m_r2, v_r2, m_a2, v_a2, g12, g22, g32, hz2⟩ := h5 i hi
  refine lv_aload_n hx hb dX0_same_0 rfl (lv_at hl 0 rfl) ?_
  refine fr_get (C := RX0) (T := TX0) (N := 3) (ci := 0) (v := .ref rw) hx hb hts in_X0 hown hK (hI.in m_x v_x) rfl 2 (by decide) q146 rfl dX0_same_1 ?_
  refine lv_iload_n hx hb dX0_same_4 rfl (lv_at hl 1 rfl) ?_
  refine lv_iconst (v := 3) hx hb dX0_same_5 (by decide) ?_
  refine lv_iand hx hb dX0_same_6 ?_
  refine fr_aldq (j := j) (n := 4) (g := g) (z := r) hx hb hK (hI.in m_rw v_rw) (ej) (hj) (by decide) (hg) dX0_same_7 ?_
  refine lv_aload_n hx hb dX0_same_8 rfl (lv_at hl 0 rfl) ?_
  refine fr_get (C := RX0) (T := TX0) (N := 3) (ci := 0) (v := .ref rw) hx hb hts in_X0 hown hK (hI.in m_x v_x) rfl 2 (by decide) q146 rfl dX0_same_9 ?_
  refine lv_iload_n hx hb dX0_same_12 rfl (lv_at hl 2 rfl) ?_
  refine lv_iconst (v := 3) hx hb dX0_same_13 (by decide) ?_
  refine lv_iand hx hb dX0_same_14 ?_
  refine fr_aldq (j := i) (n := 4) (g := g) (z := r2) hx hb hK (hI.in m_rw v_rw) (ei) (hi) (by decide) (hg2) dX0_same_15 ?_
  refine fr_rV (As := [.ref r2]) (rest := []) (ci := 1) ⟨hx, hb, hml, hown, hts⟩ (metX1_equals l D k r a st (N j) ca va r2 a2 st2 (N i) ca2 va2 g1 g2 g12 g22) (cwV 1 hts (lw_V q348 q349 q350 q5 q351) rfl rfl rfl (by decide +kernel) ⟨Nat.le_of_ble_eq_true rfl, Nat.le_of_ble_eq_true rfl⟩) hK (fr_cons (hI.in m_r v_r) (fr_cons (hI.in m_a v_a) (fr_cons (hI.in m_r2 v_r2) (hI.in m_a2 v_a2)))) rfl rfl rfl rfl hl.1 rfl (Nat.le_of_ble_eq_true rfl) dX0_same_16 ⟨Nat.zero_le _, Nat.zero_le _⟩ ?_
  have hv : (if r2 = r then 1 else if N j = N i then fr_eqb (fun t => va (st + t)) (fun t => va2 (st2 + t)) (N j) 0 else 0) = (if N j = N i then fr_eqb (Z j) (Z i) (N j) 0 else 0) := by
    by_cases c : r2 = r
    · rw [if_pos c]
      have e0 : fO 1 [.ref a2, .int (nI st2), .int (nI (st2 + N i))] = fO 1 [.ref a, .int (nI st), .int (nI (st + N j))] := by rw [← v_r2, ← v_r, c]
      simp only [Sum.inr.injEq, Prod.mk.injEq, List.cons.injEq, Value.ref.injEq, Value.int.injEq, true_and, and_true] at e0
      obtain ⟨e1, e2, e3⟩ := e0
      have e2 := (nI_eq (by omega) (by omega)).mp e2
      have e3 := (nI_eq (by omega) (by omega)).mp e3
      have e4 : N j = N i := by omega
      rw [e1, v_a] at v_a2
      obtain ⟨-, e5⟩ := fL_inj v_a2
      rw [if_pos e4, fr_eqb_congr (z' := Z j) (y' := Z j) (N j) 0 (fun _ _ => rfl) (fun t ht => by rw [← hz2 t (by omega), ← hz t (by omega), e5, e2]), fr_eqb_self]
    · rw [if_neg c]
      by_cases d : N j = N i
      · rw [if_pos d, if_pos d, fr_eqb_congr (N j) 0 (fun t ht => hz t (by omega)) (fun t ht => hz2 t (by omega))]
      · rw [if_neg d, if_neg d]
  exact fr_zret hx hb hr hlocks (by
      rw [hv]
      by_cases d : N j = N i
      · rw [if_pos d]; exact fr_eqb_01 _ _
      · rw [if_neg d]; exact Or.inl rfl) hI (⟨hv, hd⟩) hS (by omega) (by omega) dX0_same_19
set_option maxHeartbeats 4000000 in
set_option maxRecDepth 100000 in
/-- whole(k) -/
theorem metX0_whole (l : Launch) (D : va_G) (k : fr_k) (A : Nat → Prop) (sz : Nat) (L : List Nat) (f : Nat → va_E) (x made : Nat) (mz : Nat → Int64) (N : Nat → Nat) (Z : Nat → Nat → Int64) (hd : fr_Desk k L f x made mz N Z) (kx : Int32) (j : Nat) (hj : j < 4) (ej : kx &&& 3 = nI j) (hA : ∀ q, sz ≤ q → A q) : Met l yX0_whole (ws_ yX0_whole cX0_whole 6 (some .long)) (fr_rm 5 1 200) (fr_W D k A [.ref x, .int kx] sz L f) (fr_Ql D A (fun L1 f1 r0 => r0 = (fr_wh (Z j) (N j)) ∧ fr_Desk k L1 f1 x made mz N Z)) 1 200 A := by
  refine Met.ofW (cc := cX0_whole) (maxL := 6) (ret := (some .long)) (by decide) rfl ?_
  intro p e s m args below meth c s₁ B hml hv
  obtain ⟨rfl, ⟨hsz, hI⟩, hK⟩ := hv
  have hx := B.exec
  have hb := B.bytes
  have hr := B.returns
  have hts := atoms_spec (ws := ws_ yX0_whole cX0_whole 6 (some .long)) B.pre
  have hts : ∀ w ∈ lw_all, w.before _ s = true := fun w h => hts w (List.mem_cons_of_mem _ h)
  have hown : s.vm.findClass RX0 = some m.cls := findClass_of_methodNamed B.named
  have hlocks := B.notSynchronized
  subst hsz
  have hS : va_S A s.heap s.heap [] := va_S.rf
  have hl := lv_entry ([.ref x, .int kx]) (n := 6) (Nat.le_of_ble_eq_true rfl)
  rw [lg_entry_eq]
  generalize (lg_sl ([.ref x, .int kx]) ++ List.replicate (6 - (lg_sl ([.ref x, .int kx])).length) Slot.unset).toArray = ls at hl ⊢
  have hl : lv_has ls 6 [(0, .ref x), (1, .int kx)] := hl
  obtain ⟨mk, ar, rw, cap, v, g, m_x, v_x, m_mk, v_mk, m_ar, v_ar, h1, h2, h3, h4, m_rw, v_rw, h5⟩ := id hd
  obtain ⟨r, hg, hN, a, st, ca, va, m_r, v_r, m_a, v_a, g1, g2, g3, hz⟩ := h5 j hj
  refine lv_aload_n hx hb dX0_whole_0 rfl (lv_at hl 0 rfl) ?_
  refine fr_get (C := RX0) (T := TX0) (N := 3) (ci := 0) (v := .ref rw) hx hb hts in_X0 hown hK (hI.in m_x v_x) rfl 2 (by decide) q146 rfl dX0_whole_1 ?_
  refine lv_iload_n hx hb dX0_whole_4 rfl (lv_at hl 1 rfl) ?_
  refine lv_iconst (v := 3) hx hb dX0_whole_5 (by decide) ?_
  refine lv_iand hx hb dX0_whole_6 ?_
  refine fr_aldq (j := j) (n := 4) (g := g) (z := r) hx hb hK (hI.in m_rw v_rw) (ej) (hj) (by decide) (hg) dX0_whole_7 ?_
  refine fr_cr (fr_runV (As := []) (rest := []) (ci := 1) ⟨hx, hb, hml, hown, hts⟩ (metX1_toArray l D k A s.heap.size L f r a st (N j) ca va g1 g2 m_r v_r m_a v_a (fun q h => hA q (Nat.le_trans hS.1 h))) (cwV 0 hts (lw_V q368 q284 q285 q5 q286) rfl rfl rfl (by decide +kernel) ⟨Nat.le_of_ble_eq_true rfl, Nat.le_of_ble_eq_true rfl⟩) hK hI m_r v_r rfl rfl rfl hl.1 rfl (Nat.le_of_ble_eq_true rfl) dX0_whole_8 ⟨Nat.le_of_ble_eq_true rfl, Nat.le_of_ble_eq_true rfl⟩) hS (fun q L_1 f_1 H locs hI hq hS => ?_)
  obtain ⟨x_1, q_1, m_q, vq, v_q, hvq⟩ := hq
  have hd1 := hd.ext x_1
  have hvz : ∀ t, t < N j → vq t = Z j t := fun t ht => (hvq t ht).trans (hz t ht)
  refine W.widen (k := 1) (n := 200) (by omega) (by omega) ?_
  refine lv_astore_n (lv' := [(2, .ref q), (0, .ref x), (1, .int kx)]) hx hb dX0_whole_11 rfl hl (by decide) rfl (fun ls hl => ?_)
  refine lv_lconst (v := 0) hx hb dX0_whole_12 (by decide) ?_
  refine lv_lstore_n (lv' := [(3, .long 0), (2, .ref q), (0, .ref x), (1, .int kx)]) hx hb dX0_whole_13 rfl hl (by decide) rfl (fun ls hl => ?_)
  refine lv_iconst (v := 0) hx hb dX0_whole_14 (by decide) ?_
  refine lv_istore (lv' := [(5, .int 0), (3, .long 0), (2, .ref q), (0, .ref x), (1, .int kx)]) hx hb dX0_whole_15 hl (by decide) rfl (fun ls hl => ?_)
  suffices loop : ∀ (d i : Nat), i + d = N j → ∀ ls : Array Slot, lv_has ls 6 [(0, .ref x), (2, .ref q), (3, .long (fr_wh (Z j) i)), (5, .int (nI i))] → W p l e (headSpec (ws_ yX0_whole cX0_whole 6 (some .long)) (fr_rm 5 1 200)).room s m ([.ref x, .int kx] : List Value).toArray below meth c H locs 1 200 (MQ below (fr_Ql D A (fun L1 f1 r0 => r0 = (fr_wh (Z j) (N j)) ∧ fr_Desk k L1 f1 x made mz N Z)) ([.ref x, .int kx] : List Value).toArray s 1 200 A) (F0 m 17 ls []) from loop (N j) 0 (by omega) ls (lv_sub hl [3, 2, 1, 0] rfl)
  intro d
  induction d with
  | zero =>
    intro i hi ls hl
    refine lv_iload hx hb dX0_whole_17 (lv_at hl 3 rfl) ?_
    refine lv_aload_n hx hb dX0_whole_19 rfl (lv_at hl 1 rfl) ?_
    refine fr_alen (n := (N j)) hx hb hK (hI.in m_q v_q) dX0_whole_20 ?_
    refine lv_icmp_ge (tgt := 41) hx hb dX0_whole_21 (by decide) (fun _ => ?_) (fun c_9 => absurd (show (nI (N j)) ≤ (nI i) from nI_le (by omega) (by omega)) c_9)
    refine lv_lload_n hx hb dX0_whole_41 rfl (lv_at hl 2 rfl) ?_
    exact fr_lret hx hb hr hlocks hI (⟨by rw [show i = N j by omega], hd1⟩) hS (by omega) (by omega) dX0_whole_42
  | succ d ih =>
    intro i hi ls hl
    refine lv_iload hx hb dX0_whole_17 (lv_at hl 3 rfl) ?_
    refine lv_aload_n hx hb dX0_whole_19 rfl (lv_at hl 1 rfl) ?_
    refine fr_alen (n := (N j)) hx hb hK (hI.in m_q v_q) dX0_whole_20 ?_
    refine lv_icmp_ge (tgt := 41) hx hb dX0_whole_21 (by decide) (fun c_9 => absurd c_9 (show ¬ (nI (N j)) ≤ (nI i) from nI_ge (by omega) (by omega))) (fun _ => ?_)
    refine lv_lload_n hx hb dX0_whole_24 rfl (lv_at hl 2 rfl) ?_
    refine lv_ldc2 (v := 31) hx hb hown (hts _ q369) dX0_whole_25 ?_
    refine lv_lmul hx hb dX0_whole_28 ?_
    refine lv_aload_n hx hb dX0_whole_29 rfl (lv_at hl 1 rfl) ?_
    refine lv_iload hx hb dX0_whole_30 (lv_at hl 3 rfl) ?_
    refine fr_lald (j := i) (n := (N j)) (v := vq) hx hb hK (hI.in m_q v_q) (rfl) (by omega) (by omega) dX0_whole_32 ?_
    refine lv_ladd hx hb dX0_whole_33 ?_
    refine fr_topl (show (((fr_wh (Z j) i) * 31) + (vq i)) = fr_wh (Z j) (i + 1) from by rw [hvz i (by omega)]; rfl) ?_
    refine lv_lstore_n (lv' := [(3, .long (fr_wh (Z j) (i + 1))), (0, .ref x), (2, .ref q), (5, .int (nI i))]) hx hb dX0_whole_34 rfl hl (by decide) rfl (fun ls hl => ?_)
    refine lv_iinc (v := nI (i + 1)) (lv' := [(5, .int (nI (i + 1))), (3, .long (fr_wh (Z j) (i + 1))), (0, .ref x), (2, .ref q)]) hx hb dX0_whole_35 hl (k := 3) rfl (show (nI i) + Int32.ofInt 1 = nI (i + 1) from nI_1 i) (by decide) rfl (fun ls hl => ?_)
    refine lv_goto (tgt := 17) hx hb dX0_whole_38 (by decide) ?_
    exact ih (i + 1) (by omega) ls (lv_sub hl [2, 3, 1, 0] rfl)
end
section
set_option maxRecDepth 100000
theorem fr_New.congr {k : fr_k} {L L1 : List Nat} {f f1 : Nat → va_E} {z n : Nat} {y y' : Nat → Int64} {P : Nat → Nat → Prop} (h : fr_New k L f L1 f1 z n y P) (e : ∀ t, t < n → y t = y' t) : fr_New k L f L1 f1 z n y' P := by
  obtain ⟨hx, a, st, cap, v, hv, hA, hy⟩ := h
  exact ⟨hx, a, st, cap, v, hv, hA, fun t ht => (hy t ht).trans (e t ht)⟩
theorem fr_New.row {k : fr_k} {L L1 : List Nat} {f f1 : Nat → va_E} {z n ar cnt : Nat} {y : Nat → Int64} (h : fr_New k L f L1 f1 z n y (fun _ _ => False)) (har : ar ∈ L) : fr_Row k L1 f1 ar cnt z n y := by
  obtain ⟨hx, a, st, cap, v, ⟨m_z, v_z, m_a, v_a, g1, g2⟩, hA, hy⟩ := h
  refine ⟨a, st, cap, v, m_z, v_z, m_a, v_a, g1, g2, fun e => ?_, hy⟩
  rcases hA with hA | hA
  · exact absurd (e ▸ har) hA
  · exact hA.elim
theorem fr_Row.ext {k : fr_k} {L L1 : List Nat} {f f1 : Nat → va_E} {ar cnt r n : Nat} {z : Nat → Int64} (h : fr_Row k L f ar cnt r n z) (hx : wX L f L1 f1) : fr_Row k L1 f1 ar cnt r n z :=
  h.keep (fun b hb => hx.m hb) (fun b hb _ _ => (hx b hb).2) (fun b hb _ _ _ => (hx b hb).2) (fun a st _ h e => h e)
theorem fr_Row.putq {k : fr_k} {L : List Nat} {f f1 : Nat → va_E} {ar cnt r n rw N : Nat} {z : Nat → Int64} {g : Nat → Option Nat} (h : fr_Row k L f ar cnt r n z) (v_rw : f rw = fQ k N g) (o : ∀ b, b ≠ rw → f1 b = f b) : fr_Row k L f1 ar cnt r n z :=
  h.keep (fun b hb => hb) (fun b hb _ e => o b (fr_ne e v_rw (by simp))) (fun b hb _ _ e => o b (fr_ne e v_rw (by simp))) (fun a st _ h e => h e)
theorem fr_Row.putx {k : fr_k} {L : List Nat} {f f1 : Nat → va_E} {ar cnt r n x : Nat} {z : Nat → Int64} {fs : List Value} (h : fr_Row k L f ar cnt r n z) (v_x : f x = fO 0 fs) (o : ∀ b, b ≠ x → f1 b = f b) : fr_Row k L f1 ar cnt r n z :=
  h.keep (fun b hb => hb) (fun b hb _ e => o b (fr_ne e v_x (by simp))) (fun b hb _ _ e => o b (fr_ne e v_x (by simp))) (fun a st _ h e => h e)
set_option maxHeartbeats 4000000 in
set_option maxRecDepth 100000 in
/-- add(hi, lo) -/
theorem metX0_add (l : Launch) (D : va_G) (k : fr_k) (A : Nat → Prop) (sz : Nat) (L : List Nat) (f : Nat → va_E) (x made : Nat) (mz : Nat → Int64) (N : Nat → Nat) (Z : Nat → Nat → Int64) (hd : fr_Desk k L f x made mz N Z) (hi lo : Int32) (hA : ∀ q, sz ≤ q → A q) : Met l yX0_add (ws_ yX0_add cX0_add 3 (some .boolean)) (fr_rm 5 1 200) (fr_W D k A [.ref x, .int hi, .int lo] sz L f) (fr_Qi D A (fun L1 f1 r0 => r0 = (fr_fit (made + 1)) ∧ fr_Desk k L1 f1 x (fr_mk made 1) (fr_ap made mz (fun _ => fr_J hi lo)) N Z)) 1 200 A := by
  refine Met.ofW (cc := cX0_add) (maxL := 3) (ret := (some .boolean)) (by decide) rfl ?_
  intro p e s m args below meth c s₁ B hml hv
  obtain ⟨rfl, ⟨hsz, hI⟩, hK⟩ := hv
  have hx := B.exec
  have hb := B.bytes
  have hr := B.returns
  have hts := atoms_spec (ws := ws_ yX0_add cX0_add 3 (some .boolean)) B.pre
  have hts : ∀ w ∈ lw_all, w.before _ s = true := fun w h => hts w (List.mem_cons_of_mem _ h)
  have hown : s.vm.findClass RX0 = some m.cls := findClass_of_methodNamed B.named
  have hlocks := B.notSynchronized
  subst hsz
  have hS : va_S A s.heap s.heap [] := va_S.rf
  have hl := lv_entry ([.ref x, .int hi, .int lo]) (n := 3) (Nat.le_of_ble_eq_true rfl)
  rw [lg_entry_eq]
  generalize (lg_sl ([.ref x, .int hi, .int lo]) ++ List.replicate (3 - (lg_sl ([.ref x, .int hi, .int lo])).length) Slot.unset).toArray = ls at hl ⊢
  have hl : lv_has ls 3 [(0, .ref x), (1, .int hi), (2, .int lo)] := hl
  obtain ⟨mk, ar, rw, cap, v, g, m_x, v_x, m_mk, v_mk, m_ar, v_ar, h1, h2, h3, h4, m_rw, v_rw, h5⟩ := id hd
  refine lv_aload_n hx hb dX0_add_0 rfl (lv_at hl 0 rfl) ?_
  refine fr_get (C := RX0) (T := TX0) (N := 3) (ci := 0) (v := .int (nI made)) hx hb hts in_X0 hown hK (hI.in m_x v_x) rfl 1 (by decide) q145 rfl dX0_add_1 ?_
  refine lv_bipush (v := 96) hx hb dX0_add_4 (by decide) ?_
  refine lv_icmp_lt (tgt := 11) hx hb dX0_add_6 (by decide) (fun c_1 => ?_) (fun c_1 => ?_)
  · have hc : made < 96 := (nI_ltI (b := 96) (by omega) (by omega)).mp c_1
    have hf : fr_fit (made + 1) = 1 := if_pos (by omega)
    have hm : fr_mk made 1 = made + 1 := if_pos (by omega)
    refine lv_aload_n hx hb dX0_add_11 rfl (lv_at hl 0 rfl) ?_
    refine lv_dup hx hb dX0_add_12 rfl ?_
    refine fr_get (C := RX0) (T := TX0) (N := 3) (ci := 0) (v := .int (nI made)) hx hb hts in_X0 hown hK (hI.in m_x v_x) rfl 1 (by decide) q145 rfl dX0_add_13 ?_
    refine lv_iconst (v := 1) hx hb dX0_add_16 (by decide) ?_
    refine lv_iadd hx hb dX0_add_17 ?_
    refine fr_topi (show ((nI made) + 1) = nI (made + 1) from nI_1 made) ?_
    have v0_x := v_x
    refine fr_put (C := RX0) (T := TX0) (N := 3) (ci := 0) (v := .int (nI (made + 1))) hx hb hts in_X0 tyX0 tyX0_ok nmX0 hown hK hI hS m_x v_x rfl 1 (by decide) q145 rfl rfl rfl (Nat.le_of_ble_eq_true rfl) dX0_add_18 (fun H locs f_1 e_1 o_1 hI hS => ?_)
    have v_mk : f_1 mk = fO 2 [.ref ar, .int (nI made)] := (o_1 _ (fr_ne v_mk v_x (by simp))).trans v_mk
    have v_ar : f_1 ar = fL k cap v := (o_1 _ (fr_ne v_ar v_x (by simp))).trans v_ar
    have v_rw : f_1 rw = fQ k 4 g := (o_1 _ (fr_ne v_rw v_x (by simp))).trans v_rw
    have v_x : f_1 x = fO 0 [.ref mk, .int (nI (made + 1)), .ref rw] := e_1
    have h5 : ∀ j, j < 4 → ∃ r, g j = some r ∧ N j ≤ 96 ∧ fr_Row k L f_1 ar made r (N j) (Z j) := fun j hj => by
      obtain ⟨r, g1, g2, g3⟩ := h5 j hj
      exact ⟨r, g1, g2, g3.putx v0_x o_1⟩
    refine lv_aload_n hx hb dX0_add_21 rfl (lv_at hl 0 rfl) ?_
    refine fr_get (C := RX0) (T := TX0) (N := 3) (ci := 0) (v := .ref mk) hx hb hts in_X0 hown hK (hI.in m_x v_x) rfl 0 (by decide) q144 rfl dX0_add_22 ?_
    refine lv_iload_n hx hb dX0_add_25 rfl (lv_at hl 1 rfl) ?_
    refine lv_iload_n hx hb dX0_add_26 rfl (lv_at hl 2 rfl) ?_
    refine fr_rS (As := [.int hi, .int lo]) (rest := [.ref mk]) ⟨hx, hb, hml, hown, hts⟩ (metX0_of l D k hi lo) (va_cwS 2 hts (lw_S q158 q159 q4 q160) rfl rfl rfl (by decide +kernel) ⟨Nat.le_of_ble_eq_true rfl, Nat.le_of_ble_eq_true rfl⟩) hK (fr_nil) rfl hl.1 rfl (Nat.le_of_ble_eq_true rfl) dX0_add_27 ⟨Nat.zero_le _, Nat.zero_le _⟩ ?_
    refine fr_cr (fr_runV (As := [.long (fr_J hi lo)]) (rest := []) (ci := 2) ⟨hx, hb, hml, hown, hts⟩ (metX3_add l D k A H.size L f_1 mk ar made cap v (fr_J hi lo) h1 h2 (by omega) m_mk v_mk m_ar v_ar (fun q h => hA q (Nat.le_trans hS.1 h))) (cwV 1 hts (lw_V q162 q163 q164 q11 q165) rfl rfl rfl (by decide +kernel) ⟨Nat.le_of_ble_eq_true rfl, Nat.le_of_ble_eq_true rfl⟩) hK hI m_mk v_mk rfl rfl rfl hl.1 rfl (Nat.le_of_ble_eq_true rfl) dX0_add_30 ⟨Nat.le_of_ble_eq_true rfl, Nat.le_of_ble_eq_true rfl⟩) hS (fun z L_2 f_2 H locs hI hq hS => ?_)
    refine lv_pop hx hb dX0_add_33 rfl ?_
    refine lv_iconst (v := 1) hx hb dX0_add_34 (by decide) ?_
    exact fr_zret hx hb hr hlocks (Or.inr rfl) hI (⟨hf.symm, by rw [hm]; exact fr_Desk.app m_x v_x v_mk m_mk v_ar h4 m_rw v_rw h5 hq.2 (by omega)⟩) hS (by omega) (by omega) dX0_add_35
  · have hc : ¬ made < 96 := fun h => c_1 ((nI_ltI (b := 96) (by omega) (by omega)).mpr h)
    have hf : fr_fit (made + 1) = 0 := if_neg (by omega)
    have hm : fr_mk made 1 = made := if_neg (by omega)
    refine lv_iconst (v := 0) hx hb dX0_add_9 (by decide) ?_
    exact fr_zret hx hb hr hlocks (Or.inl rfl) hI (⟨hf.symm, by rw [hm]; exact hd.mz (fun t ht => (fr_ap_lo ht).symm)⟩) hS (by omega) (by omega) dX0_add_10
set_option maxHeartbeats 4000000 in
set_option maxRecDepth 100000 in
/-- addRow(k) -/
theorem metX0_addRow (l : Launch) (D : va_G) (k : fr_k) (A : Nat → Prop) (sz : Nat) (L : List Nat) (f : Nat → va_E) (x made : Nat) (mz : Nat → Int64) (N : Nat → Nat) (Z : Nat → Nat → Int64) (hd : fr_Desk k L f x made mz N Z) (kx : Int32) (j : Nat) (hj : j < 4) (ej : kx &&& 3 = nI j) (hA : ∀ q, sz ≤ q → A q) : Met l yX0_addRow (ws_ yX0_addRow cX0_addRow 3 (some .boolean)) (fr_rm 5 1 200) (fr_W D k A [.ref x, .int kx] sz L f) (fr_Qi D A (fun L1 f1 r0 => r0 = (fr_fit (made + N j)) ∧ fr_Desk k L1 f1 x (fr_mk made (N j)) (fr_ap made mz (Z j)) N Z)) 1 200 A := by
  refine Met.ofW (cc := cX0_addRow) (maxL := 3) (ret := (some .boolean)) (by decide) rfl ?_
  intro p e s m args below meth c s₁ B hml hv
  obtain ⟨rfl, ⟨hsz, hI⟩, hK⟩ := hv
  have hx := B.exec
  have hb := B.bytes
  have hr := B.returns
  have hts := atoms_spec (ws := ws_ yX0_addRow cX0_addRow 3 (some .boolean)) B.pre
  have hts : ∀ w ∈ lw_all, w.before _ s = true := fun w h => hts w (List.mem_cons_of_mem _ h)
  have hown : s.vm.findClass RX0 = some m.cls := findClass_of_methodNamed B.named
  have hlocks := B.notSynchronized
  subst hsz
  have hS : va_S A s.heap s.heap [] := va_S.rf
  have hl := lv_entry ([.ref x, .int kx]) (n := 3) (Nat.le_of_ble_eq_true rfl)
  rw [lg_entry_eq]
  generalize (lg_sl ([.ref x, .int kx]) ++ List.replicate (3 - (lg_sl ([.ref x, .int kx])).length) Slot.unset).toArray = ls at hl ⊢
  have hl : lv_has ls 3 [(0, .ref x), (1, .int kx)] := hl
  obtain ⟨mk, ar, rw, cap, v, g, m_x, v_x, m_mk, v_mk, m_ar, v_ar, h1, h2, h3, h4, m_rw, v_rw, h5⟩ := id hd
  obtain ⟨r, hg, hN, a, st, ca, va, m_r, v_r, m_a, v_a, g1, g2, g3, hz⟩ := h5 j hj
  refine lv_aload_n hx hb dX0_addRow_0 rfl (lv_at hl 0 rfl) ?_
  refine fr_get (C := RX0) (T := TX0) (N := 3) (ci := 0) (v := .ref rw) hx hb hts in_X0 hown hK (hI.in m_x v_x) rfl 2 (by decide) q146 rfl dX0_addRow_1 ?_
  refine lv_iload_n hx hb dX0_addRow_4 rfl (lv_at hl 1 rfl) ?_
  refine lv_iconst (v := 3) hx hb dX0_addRow_5 (by decide) ?_
  refine lv_iand hx hb dX0_addRow_6 ?_
  refine fr_aldq (j := j) (n := 4) (g := g) (z := r) hx hb hK (hI.in m_rw v_rw) (ej) (hj) (by decide) (hg) dX0_addRow_7 ?_
  refine fr_rV (As := []) (rest := []) (ci := 1) ⟨hx, hb, hml, hown, hts⟩ (metX1_length l D k r a st (N j)) (cwV 0 hts (lw_V q218 q219 q220 q5 q221) rfl rfl rfl (by decide +kernel) ⟨Nat.le_of_ble_eq_true rfl, Nat.le_of_ble_eq_true rfl⟩) hK (hI.in m_r v_r) rfl rfl rfl rfl hl.1 rfl (Nat.le_of_ble_eq_true rfl) dX0_addRow_8 ⟨Nat.zero_le _, Nat.zero_le _⟩ ?_
  refine lv_istore_n (lv' := [(2, .int (nI (N j))), (0, .ref x), (1, .int kx)]) hx hb dX0_addRow_11 rfl hl (by decide) rfl (fun ls hl => ?_)
  refine lv_aload_n hx hb dX0_addRow_12 rfl (lv_at hl 1 rfl) ?_
  refine fr_get (C := RX0) (T := TX0) (N := 3) (ci := 0) (v := .int (nI made)) hx hb hts in_X0 hown hK (hI.in m_x v_x) rfl 1 (by decide) q145 rfl dX0_addRow_13 ?_
  refine lv_iload_n hx hb dX0_addRow_16 rfl (lv_at hl 0 rfl) ?_
  refine lv_iadd hx hb dX0_addRow_17 ?_
  refine fr_topi (show ((nI made) + (nI (N j))) = nI (made + N j) from nI_add made (N j)) ?_
  refine lv_bipush (v := 96) hx hb dX0_addRow_18 (by decide) ?_
  refine lv_icmp_le (tgt := 25) hx hb dX0_addRow_20 (by decide) (fun c_1 => ?_) (fun c_1 => ?_)
  · have hc : made + N j ≤ 96 := (nI_leI (b := 96) (by omega) (by omega)).mp c_1
    have hf : fr_fit (made + N j) = 1 := if_pos (by omega)
    have hm : fr_mk made (N j) = made + N j := if_pos (by omega)
    refine lv_aload_n hx hb dX0_addRow_25 rfl (lv_at hl 1 rfl) ?_
    refine lv_dup hx hb dX0_addRow_26 rfl ?_
    refine fr_get (C := RX0) (T := TX0) (N := 3) (ci := 0) (v := .int (nI made)) hx hb hts in_X0 hown hK (hI.in m_x v_x) rfl 1 (by decide) q145 rfl dX0_addRow_27 ?_
    refine lv_iload_n hx hb dX0_addRow_30 rfl (lv_at hl 0 rfl) ?_
    refine lv_iadd hx hb dX0_addRow_31 ?_
    refine fr_topi (show ((nI made) + (nI (N j))) = nI (made + N j) from nI_add made (N j)) ?_
    have v0_x := v_x
    refine fr_put (C := RX0) (T := TX0) (N := 3) (ci := 0) (v := .int (nI (made + N j))) hx hb hts in_X0 tyX0 tyX0_ok nmX0 hown hK hI hS m_x v_x rfl 1 (by decide) q145 rfl rfl rfl (Nat.le_of_ble_eq_true rfl) dX0_addRow_32 (fun H locs f_1 e_1 o_1 hI hS => ?_)
    have v_mk : f_1 mk = fO 2 [.ref ar, .int (nI made)] := (o_1 _ (fr_ne v_mk v_x (by simp))).trans v_mk
    have v_ar : f_1 ar = fL k cap v := (o_1 _ (fr_ne v_ar v_x (by simp))).trans v_ar
    have v_rw : f_1 rw = fQ k 4 g := (o_1 _ (fr_ne v_rw v_x (by simp))).trans v_rw
    have v_r : f_1 r = fO 1 [.ref a, .int (nI st), .int (nI (st + N j))] := (o_1 _ (fr_ne v_r v_x (by simp))).trans v_r
    have v_a : f_1 a = fL k ca va := (o_1 _ (fr_ne v_a v_x (by simp))).trans v_a
    have v_x : f_1 x = fO 0 [.ref mk, .int (nI (made + N j)), .ref rw] := e_1
    have h5 : ∀ j, j < 4 → ∃ r, g j = some r ∧ N j ≤ 96 ∧ fr_Row k L f_1 ar made r (N j) (Z j) := fun j hj => by
      obtain ⟨r, g1, g2, g3⟩ := h5 j hj
      exact ⟨r, g1, g2, g3.putx v0_x o_1⟩
    refine lv_aload_n hx hb dX0_addRow_35 rfl (lv_at hl 1 rfl) ?_
    refine fr_get (C := RX0) (T := TX0) (N := 3) (ci := 0) (v := .ref mk) hx hb hts in_X0 hown hK (hI.in m_x v_x) rfl 0 (by decide) q144 rfl dX0_addRow_36 ?_
    refine lv_aload_n hx hb dX0_addRow_39 rfl (lv_at hl 1 rfl) ?_
    refine fr_get (C := RX0) (T := TX0) (N := 3) (ci := 0) (v := .ref rw) hx hb hts in_X0 hown hK (hI.in m_x v_x) rfl 2 (by decide) q146 rfl dX0_addRow_40 ?_
    refine lv_iload_n hx hb dX0_addRow_43 rfl (lv_at hl 2 rfl) ?_
    refine lv_iconst (v := 3) hx hb dX0_addRow_44 (by decide) ?_
    refine lv_iand hx hb dX0_addRow_45 ?_
    refine fr_aldq (j := j) (n := 4) (g := g) (z := r) hx hb hK (hI.in m_rw v_rw) (ej) (hj) (by decide) (hg) dX0_addRow_46 ?_
    refine fr_cr (fr_runV (As := [.ref r]) (rest := []) (ci := 2) ⟨hx, hb, hml, hown, hts⟩ (metX3_addAll l D k A H.size L f_1 mk ar made cap v r a st (N j) ca va h1 h2 hc g1 g2 m_mk v_mk m_ar v_ar m_r v_r m_a v_a (fun q h => hA q (Nat.le_trans hS.1 h))) (cwV 1 hts (lw_V q222 q223 q224 q11 q225) rfl rfl rfl (by decide +kernel) ⟨Nat.le_of_ble_eq_true rfl, Nat.le_of_ble_eq_true rfl⟩) hK hI m_mk v_mk rfl rfl rfl hl.1 rfl (Nat.le_of_ble_eq_true rfl) dX0_addRow_47 ⟨Nat.le_of_ble_eq_true rfl, Nat.le_of_ble_eq_true rfl⟩) hS (fun z L_2 f_2 H locs hI hq hS => ?_)
    have hd2 := fr_Desk.app m_x v_x v_mk m_mk v_ar h4 m_rw v_rw h5 hq.2 hc
    have hd3 := hd2.mz (mz' := fr_ap made mz (Z j)) (fun t ht => by
      by_cases c : t < made
      · rw [fr_ap_lo c, fr_ap_lo c]
      · obtain ⟨d, rfl⟩ : ∃ d, t = made + d := ⟨t - made, by omega⟩
        rw [fr_ap_hi, fr_ap_hi]
        exact hz d (by omega))
    refine lv_pop hx hb dX0_addRow_50 rfl ?_
    refine lv_iconst (v := 1) hx hb dX0_addRow_51 (by decide) ?_
    exact fr_zret hx hb hr hlocks (Or.inr rfl) hI (⟨hf.symm, by rw [hm]; exact hd3⟩) hS (by omega) (by omega) dX0_addRow_52
  · have hc : ¬ made + N j ≤ 96 := fun h => c_1 ((nI_leI (b := 96) (by omega) (by omega)).mpr h)
    have hf : fr_fit (made + N j) = 0 := if_neg (by omega)
    have hm : fr_mk made (N j) = made := if_neg (by omega)
    refine lv_iconst (v := 0) hx hb dX0_addRow_23 (by decide) ?_
    exact fr_zret hx hb hr hlocks (Or.inl rfl) hI (⟨hf.symm, by rw [hm]; exact hd.mz (fun t ht => (fr_ap_lo ht).symm)⟩) hS (by omega) (by omega) dX0_addRow_24
set_option maxHeartbeats 4000000 in
set_option maxRecDepth 100000 in
/-- build(to) -/
theorem metX0_build (l : Launch) (D : va_G) (k : fr_k) (A : Nat → Prop) (sz : Nat) (L : List Nat) (f : Nat → va_E) (x made : Nat) (mz : Nat → Int64) (N : Nat → Nat) (Z : Nat → Nat → Int64) (hd : fr_Desk k L f x made mz N Z) (kx : Int32) (j : Nat) (hj : j < 4) (ej : kx &&& 3 = nI j) (hA : ∀ q, sz ≤ q → A q) : Met l yX0_build (ws_ yX0_build cX0_build 2 (some .int)) (fr_rm 5 2 3) (fr_W D k A [.ref x, .int kx] sz L f) (fr_Qi D A (fun L1 f1 r0 => r0 = (nI made) ∧ fr_Desk k L1 f1 x made mz (va_up N j made) (va_up Z j mz))) 2 3 A := by
  refine Met.ofW (cc := cX0_build) (maxL := 2) (ret := (some .int)) (by decide) rfl ?_
  intro p e s m args below meth c s₁ B hml hv
  obtain ⟨rfl, ⟨hsz, hI⟩, hK⟩ := hv
  have hx := B.exec
  have hb := B.bytes
  have hr := B.returns
  have hts := atoms_spec (ws := ws_ yX0_build cX0_build 2 (some .int)) B.pre
  have hts : ∀ w ∈ lw_all, w.before _ s = true := fun w h => hts w (List.mem_cons_of_mem _ h)
  have hown : s.vm.findClass RX0 = some m.cls := findClass_of_methodNamed B.named
  have hlocks := B.notSynchronized
  subst hsz
  have hS : va_S A s.heap s.heap [] := va_S.rf
  have hl := lv_entry ([.ref x, .int kx]) (n := 2) (Nat.le_of_ble_eq_true rfl)
  rw [lg_entry_eq]
  generalize (lg_sl ([.ref x, .int kx]) ++ List.replicate (2 - (lg_sl ([.ref x, .int kx])).length) Slot.unset).toArray = ls at hl ⊢
  have hl : lv_has ls 2 [(0, .ref x), (1, .int kx)] := hl
  obtain ⟨mk, ar, rw, cap, v, g, m_x, v_x, m_mk, v_mk, m_ar, v_ar, h1, h2, h3, h4, m_rw, v_rw, h5⟩ := id hd
  refine lv_aload_n hx hb dX0_build_0 rfl (lv_at hl 0 rfl) ?_
  refine fr_get (C := RX0) (T := TX0) (N := 3) (ci := 0) (v := .ref rw) hx hb hts in_X0 hown hK (hI.in m_x v_x) rfl 2 (by decide) q146 rfl dX0_build_1 ?_
  refine lv_iload_n hx hb dX0_build_4 rfl (lv_at hl 1 rfl) ?_
  refine lv_iconst (v := 3) hx hb dX0_build_5 (by decide) ?_
  refine lv_iand hx hb dX0_build_6 ?_
  refine lv_aload_n hx hb dX0_build_7 rfl (lv_at hl 0 rfl) ?_
  refine fr_get (C := RX0) (T := TX0) (N := 3) (ci := 0) (v := .ref mk) hx hb hts in_X0 hown hK (hI.in m_x v_x) rfl 0 (by decide) q144 rfl dX0_build_8 ?_
  have m0_x := m_x
  have v0_x := v_x
  have m0_mk := m_mk
  have v0_mk := v_mk
  have m0_ar := m_ar
  have v0_ar := v_ar
  have m0_rw := m_rw
  have v0_rw := v_rw
  refine fr_cr (fr_runV (As := []) (rest := [.int (kx &&& 3), .ref rw]) (ci := 2) ⟨hx, hb, hml, hown, hts⟩ (metX3_build l D k A s.heap.size L f mk ar made cap v h1 h2 m_mk v_mk m_ar v_ar (fun q h => hA q (Nat.le_trans hS.1 h))) (cwV 0 hts (lw_V q232 q233 q234 q11 q235) rfl rfl rfl (by decide +kernel) ⟨Nat.le_of_ble_eq_true rfl, Nat.le_of_ble_eq_true rfl⟩) hK hI m_mk v_mk rfl rfl rfl hl.1 rfl (Nat.le_of_ble_eq_true rfl) dX0_build_11 ⟨Nat.le_of_ble_eq_true rfl, Nat.le_of_ble_eq_true rfl⟩) hS (fun z L_1 f_1 H locs hI hq hS => ?_)
  obtain ⟨x_1, a1, st1, ca1, va1, ⟨m_z, v_z, m_a1, v_a1, g11, g21⟩, hA1, hy1⟩ := id hq
  have v_x := x_1.v m_x v_x
  have m_x := x_1.m m_x
  have v_mk := x_1.v m_mk v_mk
  have m_mk := x_1.m m_mk
  have v_ar := x_1.v m_ar v_ar
  have m_ar := x_1.m m_ar
  have v_rw := x_1.v m_rw v_rw
  have m_rw := x_1.m m_rw
  refine W.widen (k := 2) (n := 3) (by omega) (by omega) ?_
  refine fr_astq (j := j) (n := 4) (g := g) hx hb hK hI hS m_rw v_rw m_z v_z (ej) (hj) (by decide) dX0_build_14 (fun H locs f_2 e_2 o_2 hI hS => ?_)
  have v_x : f_2 x = fO 0 [.ref mk, .int (nI made), .ref rw] := (o_2 _ (fr_ne v_x v_rw (by simp))).trans v_x
  have v_mk : f_2 mk = fO 2 [.ref ar, .int (nI made)] := (o_2 _ (fr_ne v_mk v_rw (by simp))).trans v_mk
  have v_ar : f_2 ar = fL k cap v := (o_2 _ (fr_ne v_ar v_rw (by simp))).trans v_ar
  have v_z : f_2 z = fO 1 [.ref a1, .int (nI st1), .int (nI (st1 + made))] := (o_2 _ (fr_ne v_z v_rw (by simp))).trans v_z
  have v_rw : f_2 rw = fQ k 4 (va_up g j (some z)) := e_2
  refine lv_aload_n hx hb dX0_build_15 rfl (lv_at hl 0 rfl) ?_
  refine fr_get (C := RX0) (T := TX0) (N := 3) (ci := 0) (v := .ref rw) hx hb hts in_X0 hown hK (hI.in m_x v_x) rfl 2 (by decide) q146 rfl dX0_build_16 ?_
  refine lv_iload_n hx hb dX0_build_19 rfl (lv_at hl 1 rfl) ?_
  refine lv_iconst (v := 3) hx hb dX0_build_20 (by decide) ?_
  refine lv_iand hx hb dX0_build_21 ?_
  refine fr_aldq (j := j) (n := 4) (g := (va_up g j (some z))) (z := z) hx hb hK (hI.in m_rw v_rw) (ej) (hj) (by decide) (va_up_self _ _ _) dX0_build_22 ?_
  refine fr_rV (As := []) (rest := []) (ci := 1) ⟨hx, hb, hml, hown, hts⟩ (metX1_length l D k z a1 st1 made) (cwV 0 hts (lw_V q218 q219 q220 q5 q221) rfl rfl rfl (by decide +kernel) ⟨Nat.le_of_ble_eq_true rfl, Nat.le_of_ble_eq_true rfl⟩) hK (hI.in m_z v_z) rfl rfl rfl rfl hl.1 rfl (Nat.le_of_ble_eq_true rfl) dX0_build_23 ⟨Nat.le_of_ble_eq_true rfl, Nat.le_of_ble_eq_true rfl⟩ ?_
  exact fr_iret hx hb hr hlocks hI (⟨rfl, fr_Desk.lay m0_x v0_x m0_mk v0_mk m0_ar v0_ar h1 h2 h3 h4 m0_rw v0_rw h5 (hq.congr h4) (fun st0 h => by have := h.2; omega) h3 v_rw o_2⟩) hS (by omega) (by omega) dX0_build_26
set_option maxHeartbeats 4000000 in
set_option maxRecDepth 100000 in
/-- part(to, k, from, n) -/
theorem metX0_part (l : Launch) (D : va_G) (k : fr_k) (A : Nat → Prop) (sz : Nat) (L : List Nat) (f : Nat → va_E) (x made : Nat) (mz : Nat → Int64) (N : Nat → Nat) (Z : Nat → Nat → Int64) (hd : fr_Desk k L f x made mz N Z) (ty kx fm cn : Int32) (i j : Nat) (hi : i < 4) (ei : ty &&& 3 = nI i) (hj : j < 4) (ej : kx &&& 3 = nI j) (hA : ∀ q, sz ≤ q → A q) : Met l yX0_part (ws_ yX0_part cX0_part 8 (some .int)) (fr_rm 5 2 3) (fr_W D k A [.ref x, .int ty, .int kx, .int fm, .int cn] sz L f) (fr_Qi D A (fun L1 f1 r0 => r0 = (nI (fr_C (N j) (fr_F (N j) fm) cn)) ∧ fr_Desk k L1 f1 x made mz (va_up N i (fr_C (N j) (fr_F (N j) fm) cn)) (va_up Z i (fun t => Z j (fr_F (N j) fm + t))))) 2 3 A := by
  refine Met.ofW (cc := cX0_part) (maxL := 8) (ret := (some .int)) (by decide) rfl ?_
  intro p e s m args below meth c s₁ B hml hv
  obtain ⟨rfl, ⟨hsz, hI⟩, hK⟩ := hv
  have hx := B.exec
  have hb := B.bytes
  have hr := B.returns
  have hts := atoms_spec (ws := ws_ yX0_part cX0_part 8 (some .int)) B.pre
  have hts : ∀ w ∈ lw_all, w.before _ s = true := fun w h => hts w (List.mem_cons_of_mem _ h)
  have hown : s.vm.findClass RX0 = some m.cls := findClass_of_methodNamed B.named
  have hlocks := B.notSynchronized
  subst hsz
  have hS : va_S A s.heap s.heap [] := va_S.rf
  have hl := lv_entry ([.ref x, .int ty, .int kx, .int fm, .int cn]) (n := 8) (Nat.le_of_ble_eq_true rfl)
  rw [lg_entry_eq]
  generalize (lg_sl ([.ref x, .int ty, .int kx, .int fm, .int cn]) ++ List.replicate (8 - (lg_sl ([.ref x, .int ty, .int kx, .int fm, .int cn])).length) Slot.unset).toArray = ls at hl ⊢
  have hl : lv_has ls 8 [(0, .ref x), (1, .int ty), (2, .int kx), (3, .int fm), (4, .int cn)] := hl
  obtain ⟨mk, ar, rw, cap, v, g, m_x, v_x, m_mk, v_mk, m_ar, v_ar, h1, h2, h3, h4, m_rw, v_rw, h5⟩ := id hd
  have hF := fr_F_le (N j) fm
  have hC := fr_C_le (N j) (fr_F (N j) fm) cn hF
  generalize eF : fr_F (N j) fm = F at hF hC ⊢
  generalize eC : fr_C (N j) F cn = C at hC ⊢
  obtain ⟨r, hg, hN, a, st, ca, va, m_r, v_r, m_a, v_a, g1, g2, g3, hz⟩ := h5 j hj
  refine lv_aload_n hx hb dX0_part_0 rfl (lv_at hl 0 rfl) ?_
  refine fr_get (C := RX0) (T := TX0) (N := 3) (ci := 0) (v := .ref rw) hx hb hts in_X0 hown hK (hI.in m_x v_x) rfl 2 (by decide) q146 rfl dX0_part_1 ?_
  refine lv_iload_n hx hb dX0_part_4 rfl (lv_at hl 2 rfl) ?_
  refine lv_iconst (v := 3) hx hb dX0_part_5 (by decide) ?_
  refine lv_iand hx hb dX0_part_6 ?_
  refine fr_aldq (j := j) (n := 4) (g := g) (z := r) hx hb hK (hI.in m_rw v_rw) (ej) (hj) (by decide) (hg) dX0_part_7 ?_
  refine lv_astore (lv' := [(5, .ref r), (0, .ref x), (1, .int ty), (2, .int kx), (3, .int fm), (4, .int cn)]) hx hb dX0_part_8 hl (by decide) rfl (fun ls hl => ?_)
  refine lv_iload_n hx hb dX0_part_10 rfl (lv_at hl 4 rfl) ?_
  refine lv_ldc (v := 2147483647) hx hb hown (hts _ q247) dX0_part_11 ?_
  refine lv_iand hx hb dX0_part_13 ?_
  refine fr_topi (show (fm &&& 2147483647) = nI (fr_pos fm) from fr_pos_and fm) ?_
  refine lv_aload hx hb dX0_part_14 (lv_at hl 0 rfl) ?_
  refine fr_rV (As := []) (rest := [.int (nI (fr_pos fm))]) (ci := 1) ⟨hx, hb, hml, hown, hts⟩ (metX1_length l D k r a st (N j)) (cwV 0 hts (lw_V q218 q219 q220 q5 q221) rfl rfl rfl (by decide +kernel) ⟨Nat.le_of_ble_eq_true rfl, Nat.le_of_ble_eq_true rfl⟩) hK (hI.in m_r v_r) rfl rfl rfl rfl hl.1 rfl (Nat.le_of_ble_eq_true rfl) dX0_part_16 ⟨Nat.zero_le _, Nat.zero_le _⟩ ?_
  refine lv_iconst (v := 1) hx hb dX0_part_19 (by decide) ?_
  refine lv_iadd hx hb dX0_part_20 ?_
  refine fr_topi (show ((nI (N j)) + 1) = nI (N j + 1) from nI_1 (N j)) ?_
  refine lv_irem hx hb dX0_part_21 (nI_ne0 (by omega) (by omega)) ?_
  refine fr_topi (show ((nI (fr_pos fm)) - (nI (fr_pos fm)) / (nI (N j + 1)) * (nI (N j + 1))) = nI F from (pk_rem (fr_pos_lt fm) (by omega) (by omega)).trans (congrArg nI eF)) ?_
  refine lv_istore (lv' := [(6, .int (nI F)), (5, .ref r), (0, .ref x), (1, .int ty), (2, .int kx), (3, .int fm), (4, .int cn)]) hx hb dX0_part_22 hl (by decide) rfl (fun ls hl => ?_)
  refine lv_iload hx hb dX0_part_24 (lv_at hl 6 rfl) ?_
  refine lv_ldc (v := 2147483647) hx hb hown (hts _ q247) dX0_part_26 ?_
  refine lv_iand hx hb dX0_part_28 ?_
  refine fr_topi (show (cn &&& 2147483647) = nI (fr_pos cn) from fr_pos_and cn) ?_
  refine lv_aload hx hb dX0_part_29 (lv_at hl 1 rfl) ?_
  refine fr_rV (As := []) (rest := [.int (nI (fr_pos cn))]) (ci := 1) ⟨hx, hb, hml, hown, hts⟩ (metX1_length l D k r a st (N j)) (cwV 0 hts (lw_V q218 q219 q220 q5 q221) rfl rfl rfl (by decide +kernel) ⟨Nat.le_of_ble_eq_true rfl, Nat.le_of_ble_eq_true rfl⟩) hK (hI.in m_r v_r) rfl rfl rfl rfl hl.1 rfl (Nat.le_of_ble_eq_true rfl) dX0_part_31 ⟨Nat.zero_le _, Nat.zero_le _⟩ ?_
  refine lv_iload hx hb dX0_part_34 (lv_at hl 0 rfl) ?_
  refine lv_isub hx hb dX0_part_36 ?_
  refine fr_topi (show ((nI (N j)) - (nI F)) = nI (N j - F) from pk_sub hF) ?_
  refine lv_iconst (v := 1) hx hb dX0_part_37 (by decide) ?_
  refine lv_iadd hx hb dX0_part_38 ?_
  refine fr_topi (show ((nI (N j - F)) + 1) = nI (N j - F + 1) from nI_1 (N j - F)) ?_
  refine lv_irem hx hb dX0_part_39 (nI_ne0 (by omega) (by omega)) ?_
  refine fr_topi (show ((nI (fr_pos cn)) - (nI (fr_pos cn)) / (nI (N j - F + 1)) * (nI (N j - F + 1))) = nI C from (pk_rem (fr_pos_lt cn) (by omega) (by omega)).trans (congrArg nI eC)) ?_
  refine lv_istore (lv' := [(7, .int (nI C)), (6, .int (nI F)), (5, .ref r), (0, .ref x), (1, .int ty), (2, .int kx), (3, .int fm), (4, .int cn)]) hx hb dX0_part_40 hl (by decide) rfl (fun ls hl => ?_)
  refine lv_aload_n hx hb dX0_part_42 rfl (lv_at hl 3 rfl) ?_
  refine fr_get (C := RX0) (T := TX0) (N := 3) (ci := 0) (v := .ref rw) hx hb hts in_X0 hown hK (hI.in m_x v_x) rfl 2 (by decide) q146 rfl dX0_part_43 ?_
  refine lv_iload_n hx hb dX0_part_46 rfl (lv_at hl 4 rfl) ?_
  refine lv_iconst (v := 3) hx hb dX0_part_47 (by decide) ?_
  refine lv_iand hx hb dX0_part_48 ?_
  refine lv_aload hx hb dX0_part_49 (lv_at hl 2 rfl) ?_
  refine lv_iload hx hb dX0_part_51 (lv_at hl 1 rfl) ?_
  refine lv_iload hx hb dX0_part_53 (lv_at hl 1 rfl) ?_
  refine lv_iload hx hb dX0_part_55 (lv_at hl 0 rfl) ?_
  refine lv_iadd hx hb dX0_part_57 ?_
  refine fr_topi (show ((nI F) + (nI C)) = nI (F + C) from nI_add F C) ?_
  have m0_x := m_x
  have v0_x := v_x
  have m0_mk := m_mk
  have v0_mk := v_mk
  have m0_ar := m_ar
  have v0_ar := v_ar
  have m0_rw := m_rw
  have v0_rw := v_rw
  have m0_r := m_r
  have v0_r := v_r
  have m0_a := m_a
  have v0_a := v_a
  refine fr_cr (fr_runV (As := [.int (nI F), .int (nI (F + C))]) (rest := [.int (ty &&& 3), .ref rw]) (ci := 1) ⟨hx, hb, hml, hown, hts⟩ (metX1_subArray l D k A s.heap.size L f r a st (N j) ca F (F + C) va g1 g2 (Nat.le_add_right F C) hC m_r v_r m_a v_a (fun q h => hA q (Nat.le_trans hS.1 h))) (cwV 2 hts (lw_V q248 q249 q250 q5 q251) rfl rfl rfl (by decide +kernel) ⟨Nat.le_of_ble_eq_true rfl, Nat.le_of_ble_eq_true rfl⟩) hK hI m_r v_r rfl rfl rfl hl.1 rfl (Nat.le_of_ble_eq_true rfl) dX0_part_58 ⟨Nat.le_of_ble_eq_true rfl, Nat.le_of_ble_eq_true rfl⟩) hS (fun z L_1 f_1 H locs hI hq hS => ?_)
  rw [Nat.add_sub_cancel_left] at hq
  obtain ⟨x_1, a1, st1, ca1, va1, ⟨m_z, v_z, m_a1, v_a1, g11, g21⟩, hA1, hy1⟩ := id hq
  have v_x := x_1.v m_x v_x
  have m_x := x_1.m m_x
  have v_mk := x_1.v m_mk v_mk
  have m_mk := x_1.m m_mk
  have v_ar := x_1.v m_ar v_ar
  have m_ar := x_1.m m_ar
  have v_rw := x_1.v m_rw v_rw
  have m_rw := x_1.m m_rw
  have v_r := x_1.v m_r v_r
  have m_r := x_1.m m_r
  have v_a := x_1.v m_a v_a
  have m_a := x_1.m m_a
  refine W.widen (k := 2) (n := 3) (by omega) (by omega) ?_
  refine fr_astq (j := i) (n := 4) (g := g) hx hb hK hI hS m_rw v_rw m_z v_z (ei) (hi) (by decide) dX0_part_61 (fun H locs f_2 e_2 o_2 hI hS => ?_)
  have v_x : f_2 x = fO 0 [.ref mk, .int (nI made), .ref rw] := (o_2 _ (fr_ne v_x v_rw (by simp))).trans v_x
  have v_mk : f_2 mk = fO 2 [.ref ar, .int (nI made)] := (o_2 _ (fr_ne v_mk v_rw (by simp))).trans v_mk
  have v_ar : f_2 ar = fL k cap v := (o_2 _ (fr_ne v_ar v_rw (by simp))).trans v_ar
  have v_r : f_2 r = fO 1 [.ref a, .int (nI st), .int (nI (st + N j))] := (o_2 _ (fr_ne v_r v_rw (by simp))).trans v_r
  have v_a : f_2 a = fL k ca va := (o_2 _ (fr_ne v_a v_rw (by simp))).trans v_a
  have v_z : f_2 z = fO 1 [.ref a1, .int (nI st1), .int (nI (st1 + C))] := (o_2 _ (fr_ne v_z v_rw (by simp))).trans v_z
  have v_rw : f_2 rw = fQ k 4 (va_up g i (some z)) := e_2
  refine lv_iload hx hb dX0_part_62 (lv_at hl 0 rfl) ?_
  exact fr_iret hx hb hr hlocks hI (⟨rfl, fr_Desk.lay m0_x v0_x m0_mk v0_mk m0_ar v0_ar h1 h2 h3 h4 m0_rw v0_rw h5 (hq.congr (y' := fun t => Z j (F + t)) (fun t ht => by rw [Nat.add_assoc]; exact hz (F + t) (by omega))) (fun st0 h => by have e1 := h.2; have e2 := g3 h.1.symm; omega) (by omega) v_rw o_2⟩) hS (by omega) (by omega) dX0_part_64
set_option maxHeartbeats 4000000 in
set_option maxRecDepth 100000 in
/-- trim(k) -/
theorem metX0_trim (l : Launch) (D : va_G) (k : fr_k) (A : Nat → Prop) (sz : Nat) (L : List Nat) (f : Nat → va_E) (x made : Nat) (mz : Nat → Int64) (N : Nat → Nat) (Z : Nat → Nat → Int64) (hd : fr_Desk k L f x made mz N Z) (kx : Int32) (j : Nat) (hj : j < 4) (ej : kx &&& 3 = nI j) (hA : ∀ q, sz ≤ q → A q) : Met l yX0_trim (ws_ yX0_trim cX0_trim 2 none) (fr_rm 5 2 203) (fr_W D k A [.ref x, .int kx] sz L f) (fr_Qv D A (fun L1 f1 => fr_Desk k L1 f1 x made mz N Z)) 2 203 A := by
  refine Met.ofW (cc := cX0_trim) (maxL := 2) (ret := none) (by decide) rfl ?_
  intro p e s m args below meth c s₁ B hml hv
  obtain ⟨rfl, ⟨hsz, hI⟩, hK⟩ := hv
  have hx := B.exec
  have hb := B.bytes
  have hr := B.returns
  have hts := atoms_spec (ws := ws_ yX0_trim cX0_trim 2 none) B.pre
  have hts : ∀ w ∈ lw_all, w.before _ s = true := fun w h => hts w (List.mem_cons_of_mem _ h)
  have hown : s.vm.findClass RX0 = some m.cls := findClass_of_methodNamed B.named
  have hlocks := B.notSynchronized
  subst hsz
  have hS : va_S A s.heap s.heap [] := va_S.rf
  have hl := lv_entry ([.ref x, .int kx]) (n := 2) (Nat.le_of_ble_eq_true rfl)
  rw [lg_entry_eq]
  generalize (lg_sl ([.ref x, .int kx]) ++ List.replicate (2 - (lg_sl ([.ref x, .int kx])).length) Slot.unset).toArray = ls at hl ⊢
  have hl : lv_has ls 2 [(0, .ref x), (1, .int kx)] := hl
  obtain ⟨mk, ar, rw, cap, v, g, m_x, v_x, m_mk, v_mk, m_ar, v_ar, h1, h2, h3, h4, m_rw, v_rw, h5⟩ := id hd
  obtain ⟨r, hg, hN, a, st, ca, va, m_r, v_r, m_a, v_a, g1, g2, g3, hz⟩ := h5 j hj
  refine lv_aload_n hx hb dX0_trim_0 rfl (lv_at hl 0 rfl) ?_
  refine fr_get (C := RX0) (T := TX0) (N := 3) (ci := 0) (v := .ref rw) hx hb hts in_X0 hown hK (hI.in m_x v_x) rfl 2 (by decide) q146 rfl dX0_trim_1 ?_
  refine lv_iload_n hx hb dX0_trim_4 rfl (lv_at hl 1 rfl) ?_
  refine lv_iconst (v := 3) hx hb dX0_trim_5 (by decide) ?_
  refine lv_iand hx hb dX0_trim_6 ?_
  refine lv_aload_n hx hb dX0_trim_7 rfl (lv_at hl 0 rfl) ?_
  refine fr_get (C := RX0) (T := TX0) (N := 3) (ci := 0) (v := .ref rw) hx hb hts in_X0 hown hK (hI.in m_x v_x) rfl 2 (by decide) q146 rfl dX0_trim_8 ?_
  refine lv_iload_n hx hb dX0_trim_11 rfl (lv_at hl 1 rfl) ?_
  refine lv_iconst (v := 3) hx hb dX0_trim_12 (by decide) ?_
  refine lv_iand hx hb dX0_trim_13 ?_
  refine fr_aldq (j := j) (n := 4) (g := g) (z := r) hx hb hK (hI.in m_rw v_rw) (ej) (hj) (by decide) (hg) dX0_trim_14 ?_
  have m0_x := m_x
  have v0_x := v_x
  have m0_mk := m_mk
  have v0_mk := v_mk
  have m0_ar := m_ar
  have v0_ar := v_ar
  have m0_rw := m_rw
  have v0_rw := v_rw
  have m0_r := m_r
  have v0_r := v_r
  have m0_a := m_a
  have v0_a := v_a
  refine fr_cr (fr_runV (As := []) (rest := [.int (kx &&& 3), .ref rw]) (ci := 1) ⟨hx, hb, hml, hown, hts⟩ (metX1_trimmed l D k A s.heap.size L f r a st (N j) ca va g1 g2 m_r v_r m_a v_a (fun q h => hA q (Nat.le_trans hS.1 h))) (cwV 0 hts (lw_V q275 q276 q277 q5 q278) rfl rfl rfl (by decide +kernel) ⟨Nat.le_of_ble_eq_true rfl, Nat.le_of_ble_eq_true rfl⟩) hK hI m_r v_r rfl rfl rfl hl.1 rfl (Nat.le_of_ble_eq_true rfl) dX0_trim_15 ⟨Nat.le_of_ble_eq_true rfl, Nat.le_of_ble_eq_true rfl⟩) hS (fun z L_1 f_1 H locs hI hq hS => ?_)
  obtain ⟨x_1, a1, st1, ca1, va1, ⟨m_z, v_z, m_a1, v_a1, g11, g21⟩, hA1, hy1⟩ := id hq
  have v_x := x_1.v m_x v_x
  have m_x := x_1.m m_x
  have v_mk := x_1.v m_mk v_mk
  have m_mk := x_1.m m_mk
  have v_ar := x_1.v m_ar v_ar
  have m_ar := x_1.m m_ar
  have v_rw := x_1.v m_rw v_rw
  have m_rw := x_1.m m_rw
  have v_r := x_1.v m_r v_r
  have m_r := x_1.m m_r
  have v_a := x_1.v m_a v_a
  have m_a := x_1.m m_a
  refine W.widen (k := 2) (n := 203) (by omega) (by omega) ?_
  refine fr_astq (j := j) (n := 4) (g := g) hx hb hK hI hS m_rw v_rw m_z v_z (ej) (hj) (by decide) dX0_trim_18 (fun H locs f_2 e_2 o_2 hI hS => ?_)
  have v_x : f_2 x = fO 0 [.ref mk, .int (nI made), .ref rw] := (o_2 _ (fr_ne v_x v_rw (by simp))).trans v_x
  have v_mk : f_2 mk = fO 2 [.ref ar, .int (nI made)] := (o_2 _ (fr_ne v_mk v_rw (by simp))).trans v_mk
  have v_ar : f_2 ar = fL k cap v := (o_2 _ (fr_ne v_ar v_rw (by simp))).trans v_ar
  have v_r : f_2 r = fO 1 [.ref a, .int (nI st), .int (nI (st + N j))] := (o_2 _ (fr_ne v_r v_rw (by simp))).trans v_r
  have v_a : f_2 a = fL k ca va := (o_2 _ (fr_ne v_a v_rw (by simp))).trans v_a
  have v_z : f_2 z = fO 1 [.ref a1, .int (nI st1), .int (nI (st1 + N j))] := (o_2 _ (fr_ne v_z v_rw (by simp))).trans v_z
  have v_rw : f_2 rw = fQ k 4 (va_up g j (some z)) := e_2
  have hd2 := fr_Desk.lay m0_x v0_x m0_mk v0_mk m0_ar v0_ar h1 h2 h3 h4 m0_rw v0_rw h5 (hq.congr hz) (fun st0 h => by have e1 := h.2; have e2 := g3 h.1.symm; omega) hN v_rw o_2
  rw [fr_up_eq, fr_up_eq] at hd2
  exact fr_vret hx hb hr hlocks hI (hd2) hS (by omega) (by omega) dX0_trim_19
set_option maxHeartbeats 4000000 in
set_option maxRecDepth 100000 in
/-- anew(room) -/
theorem metX0_anew (l : Launch) (D : va_G) (k : fr_k) (A : Nat → Prop) (sz : Nat) (L : List Nat) (f : Nat → va_E) (x made : Nat) (mz : Nat → Int64) (N : Nat → Nat) (Z : Nat → Nat → Int64) (hd : fr_Desk k L f x made mz N Z) (rm : Int32) (hA : ∀ q, sz ≤ q → A q) : Met l yX0_anew (ws_ yX0_anew cX0_anew 2 none) (fr_rm 5 2 202) (fr_W D k A [.ref x, .int rm] sz L f) (fr_Qv D A (fun L1 f1 => fr_Desk k L1 f1 x 0 mz N Z)) 2 202 A := by
  refine Met.ofW (cc := cX0_anew) (maxL := 2) (ret := none) (by decide) rfl ?_
  intro p e s m args below meth c s₁ B hml hv
  obtain ⟨rfl, ⟨hsz, hI⟩, hK⟩ := hv
  have hx := B.exec
  have hb := B.bytes
  have hr := B.returns
  have hts := atoms_spec (ws := ws_ yX0_anew cX0_anew 2 none) B.pre
  have hts : ∀ w ∈ lw_all, w.before _ s = true := fun w h => hts w (List.mem_cons_of_mem _ h)
  have hown : s.vm.findClass RX0 = some m.cls := findClass_of_methodNamed B.named
  have hlocks := B.notSynchronized
  subst hsz
  have hS : va_S A s.heap s.heap [] := va_S.rf
  have hl := lv_entry ([.ref x, .int rm]) (n := 2) (Nat.le_of_ble_eq_true rfl)
  rw [lg_entry_eq]
  generalize (lg_sl ([.ref x, .int rm]) ++ List.replicate (2 - (lg_sl ([.ref x, .int rm])).length) Slot.unset).toArray = ls at hl ⊢
  have hl : lv_has ls 2 [(0, .ref x), (1, .int rm)] := hl
  obtain ⟨mk, ar, rw, cap, v, g, m_x, v_x, m_mk, v_mk, m_ar, v_ar, h1, h2, h3, h4, m_rw, v_rw, h5⟩ := id hd
  obtain ⟨M, eM⟩ : ∃ M, M = rm.toBitVec.toNat % 32 := ⟨_, rfl⟩
  have hM : M < 32 := by rw [eM]; exact Nat.mod_lt _ (by decide)
  refine lv_aload_n hx hb dX0_anew_0 rfl (lv_at hl 0 rfl) ?_
  refine lv_iload_n hx hb dX0_anew_1 rfl (lv_at hl 1 rfl) ?_
  refine lv_bipush (v := 31) hx hb dX0_anew_2 (by decide) ?_
  refine lv_iand hx hb dX0_anew_4 ?_
  refine fr_topi (show (rm &&& 31) = nI M from (fr_31 rm).trans (by rw [eM])) ?_
  refine fr_cr (fr_runS (As := [.int (nI M)]) (rest := [.ref x]) ⟨hx, hb, hml, hown, hts⟩ (metX1_builder l D k A s.heap.size L f M (by omega) (fun q h => hA q (Nat.le_trans hS.1 h))) (va_cwS 1 hts (lw_S q29 q30 q5 q31) rfl rfl rfl (by decide +kernel) ⟨Nat.le_of_ble_eq_true rfl, Nat.le_of_ble_eq_true rfl⟩) hK hI rfl hl.1 rfl (Nat.le_of_ble_eq_true rfl) dX0_anew_5 ⟨Nat.le_of_ble_eq_true rfl, Nat.le_of_ble_eq_true rfl⟩) hS (fun z L_1 f_1 H locs hI hq hS => ?_)
  obtain ⟨x_1, q_1, m_z, q, q_2, m_q, v_q, v_z⟩ := hq
  have v0_x := v_x
  have v_x := x_1.v m_x v_x
  have m_x := x_1.m m_x
  have v_rw := x_1.v m_rw v_rw
  have m_rw := x_1.m m_rw
  have v1_x := v_x
  refine W.widen (k := 2) (n := 202) (by omega) (by omega) ?_
  refine fr_put (C := RX0) (T := TX0) (N := 3) (ci := 0) (v := .ref z) hx hb hts in_X0 tyX0 tyX0_ok nmX0 hown hK hI hS m_x v_x rfl 0 (by decide) q144 rfl rfl rfl (Nat.le_of_ble_eq_true rfl) dX0_anew_8 (fun H locs f_2 e_2 o_2 hI hS => ?_)
  have v_rw : f_2 rw = fQ k 4 g := (o_2 _ (fr_ne v_rw v_x (by simp))).trans v_rw
  have v_z : f_2 z = fO 2 [.ref q, .int (nI 0)] := (o_2 _ (fr_ne v_z v_x (by simp))).trans v_z
  have v_q : f_2 q = fL k M (fun _ => 0) := (o_2 _ (fr_ne v_q v_x (by simp))).trans v_q
  have v_x : f_2 x = fO 0 [.ref z, .int (nI made), .ref rw] := e_2
  have v2_x := v_x
  refine lv_aload_n hx hb dX0_anew_11 rfl (lv_at hl 0 rfl) ?_
  refine lv_iconst (v := 0) hx hb dX0_anew_12 (by decide) ?_
  refine fr_put (C := RX0) (T := TX0) (N := 3) (ci := 0) (v := .int 0) hx hb hts in_X0 tyX0 tyX0_ok nmX0 hown hK hI hS m_x v_x rfl 1 (by decide) q145 rfl rfl rfl (Nat.le_of_ble_eq_true rfl) dX0_anew_13 (fun H locs f_3 e_3 o_3 hI hS => ?_)
  have v_rw : f_3 rw = fQ k 4 g := (o_3 _ (fr_ne v_rw v_x (by simp))).trans v_rw
  have v_z : f_3 z = fO 2 [.ref q, .int (nI 0)] := (o_3 _ (fr_ne v_z v_x (by simp))).trans v_z
  have v_q : f_3 q = fL k M (fun _ => 0) := (o_3 _ (fr_ne v_q v_x (by simp))).trans v_q
  have v_x : f_3 x = fO 0 [.ref z, .int 0, .ref rw] := e_3
  exact fr_vret hx hb hr hlocks hI (⟨z, q, rw, M, fun _ => 0, g, m_x, v_x, m_z, v_z, m_q, v_q, by omega, by omega, by omega, fun t ht => absurd ht (by omega), m_rw, v_rw, fun j hj => by
      obtain ⟨r, g1, g2, g3⟩ := h5 j hj
      exact ⟨r, g1, g2, g3.keep (fun b hb => x_1.m hb) (fun b hb _ e => (o_3 b (fr_ne e v0_x (by simp))).trans ((o_2 b (fr_ne e v0_x (by simp))).trans (x_1 b hb).2)) (fun b hb _ _ e => (o_3 b (fr_ne e v0_x (by simp))).trans ((o_2 b (fr_ne e v0_x (by simp))).trans (x_1 b hb).2)) (fun a st hb h e => absurd (e ▸ hb) q_2)⟩⟩) hS (by omega) (by omega) dX0_anew_16
set_option maxHeartbeats 4000000 in
set_option maxRecDepth 100000 in
/-- FixedRowDesk() -/
theorem metX0_init (l : Launch) (D : va_G) (k : fr_k) (A : Nat → Prop) (sz : Nat) (L : List Nat) (f : Nat → va_E) (x : Nat) (m_x : x ∈ L) (v_x : f x = fO 0 [.null, .int 0, .null]) (hA : ∀ q, sz ≤ q → A q) : Met l yX0_init (ws_ yX0_init cX0_init 2 none) (fr_rm 5 11 222) (fr_W D k A [.ref x] sz L f) (fr_Qv D A (fun L1 f1 => fr_Desk k L1 f1 x 0 (fun _ => 0) (fun _ => 1) (fun j _ => (nI j).toInt64))) 11 222 A := by
  refine Met.ofW (cc := cX0_init) (maxL := 2) (ret := none) (by decide) rfl ?_
  intro p e s m args below meth c s₁ B hml hv
  obtain ⟨rfl, ⟨hsz, hI⟩, hK⟩ := hv
  have hx := B.exec
  have hb := B.bytes
  have hr := B.returns
  have hts := atoms_spec (ws := ws_ yX0_init cX0_init 2 none) B.pre
  have hts : ∀ w ∈ lw_all, w.before _ s = true := fun w h => hts w (List.mem_cons_of_mem _ h)
  have hown : s.vm.findClass RX0 = some m.cls := findClass_of_methodNamed B.named
  have hlocks := B.notSynchronized
  have hin : meth.name = "<init>" := (name_of_methodNamed B.named B.method).1
  subst hsz
  have hS : va_S A s.heap s.heap [] := va_S.rf
  have hl := lv_entry ([.ref x]) (n := 2) (Nat.le_of_ble_eq_true rfl)
  rw [lg_entry_eq]
  generalize (lg_sl ([.ref x]) ++ List.replicate (2 - (lg_sl ([.ref x])).length) Slot.unset).toArray = ls at hl ⊢
  have hl : lv_has ls 2 [(0, .ref x)] := hl
  refine lv_aload_n hx hb dX0_init_0 rfl (lv_at hl 0 rfl) ?_
  refine W.objInit hx hb hown (hts _ q26) (hts _ q27) (hts _ q28) rfl (by rw [hml]; exact hl.1) rfl dX0_init_1 (Nat.le_of_ble_eq_true rfl) (Nat.le_of_ble_eq_true rfl) ?_
  refine W.eq (g2 := F0 m 4 ls []) rfl ?_
  refine lv_aload_n hx hb dX0_init_4 rfl (lv_at hl 0 rfl) ?_
  refine lv_iconst (v := 4) hx hb dX0_init_5 (by decide) ?_
  refine fr_cr (fr_runS (As := [.int 4]) (rest := [.ref x]) ⟨hx, hb, hml, hown, hts⟩ (metX1_builder l D k A s.heap.size L f 4 (by decide) (fun q h => hA q (Nat.le_trans hS.1 h))) (va_cwS 1 hts (lw_S q29 q30 q5 q31) rfl rfl rfl (by decide +kernel) ⟨Nat.le_of_ble_eq_true rfl, Nat.le_of_ble_eq_true rfl⟩) hK hI rfl hl.1 rfl (Nat.le_of_ble_eq_true rfl) dX0_init_6 ⟨Nat.le_of_ble_eq_true rfl, Nat.le_of_ble_eq_true rfl⟩) hS (fun mk L_1 f_1 H locs hI hq hS => ?_)
  obtain ⟨x_1, q_1, m_mk, ar, q_ar, m_ar, v_ar, v_mk⟩ := hq
  have v_x := x_1.v m_x v_x
  have m_x := x_1.m m_x
  refine W.widen (k := 2) (n := 202) (by omega) (by omega) ?_
  refine fr_put (C := RX0) (T := TX0) (N := 3) (ci := 0) (v := .ref mk) hx hb hts in_X0 tyX0 tyX0_ok nmX0 hown hK hI hS m_x v_x rfl 0 (by decide) q144 rfl rfl rfl (Nat.le_of_ble_eq_true rfl) dX0_init_9 (fun H locs f_2 e_2 o_2 hI hS => ?_)
  have v_mk : f_2 mk = fO 2 [.ref ar, .int (nI 0)] := (o_2 _ (fr_ne v_mk v_x (by simp))).trans v_mk
  have v_ar : f_2 ar = fL k 4 (fun _ => 0) := (o_2 _ (fr_ne v_ar v_x (by simp))).trans v_ar
  have v_x : f_2 x = fO 0 [.ref mk, .int 0, .null] := e_2
  refine lv_aload_n hx hb dX0_init_12 rfl (lv_at hl 0 rfl) ?_
  refine lv_iconst (v := 4) hx hb dX0_init_13 (by decide) ?_
  refine fr_newq (N := 4) hx hb hts hown q118 hK hI hS hA rfl (by decide) (Nat.le_of_ble_eq_true rfl) (Nat.le_of_ble_eq_true rfl) dX0_init_14 (fun rw H L_3 f_3 q_3 m_rw v_rw x_3 hI hS => ?_)
  have p_x_rw := fr_neq m_x q_3
  have p_mk_rw := fr_neq m_mk q_3
  have p_ar_rw := fr_neq m_ar q_3
  have v_x := x_3.v m_x v_x
  have m_x := x_3.m m_x
  have v_mk := x_3.v m_mk v_mk
  have m_mk := x_3.m m_mk
  have v_ar := x_3.v m_ar v_ar
  have m_ar := x_3.m m_ar
  refine W.widen (k := 3) (n := 206) (by omega) (by omega) ?_
  refine fr_putF (C := RX0) (T := TX0) (N := 3) (ci := 0) (v := .ref rw) hx hb hts in_X0 tyX0 tyX0_ok nmX0 hown hK hI hS m_x v_x rfl 2 (by decide) q146 rfl hin rfl rfl rfl (Nat.le_of_ble_eq_true rfl) dX0_init_17 (fun H locs f_4 e_4 o_4 hI hS => ?_)
  have v_mk : f_4 mk = fO 2 [.ref ar, .int (nI 0)] := (o_4 _ (fr_ne v_mk v_x (by simp))).trans v_mk
  have v_ar : f_4 ar = fL k 4 (fun _ => 0) := (o_4 _ (fr_ne v_ar v_x (by simp))).trans v_ar
  have v_rw : f_4 rw = fQ k 4 (fun _ => none) := (o_4 _ (p_x_rw.symm)).trans v_rw
  have v_x : f_4 x = fO 0 [.ref mk, .int 0, .ref rw] := e_4
  refine lv_iconst (v := 0) hx hb dX0_init_20 (by decide) ?_
  refine fr_topi (show 0 = nI 0 from rfl) ?_
  refine lv_istore_n (lv' := [(1, .int (nI 0)), (0, .ref x)]) hx hb dX0_init_21 rfl hl (by decide) rfl (fun ls hl => ?_)
  refine lv_iload_n hx hb dX0_init_22 rfl (lv_at hl 0 rfl) ?_
  refine lv_iconst (v := 4) hx hb dX0_init_23 (by decide) ?_
  refine lv_icmp_ge (tgt := 44) hx hb dX0_init_24 (by decide) (fun c_9 => absurd c_9 (show ¬ 4 ≤ (nI 0) from by decide)) (fun _ => ?_)
  refine lv_aload_n hx hb dX0_init_27 rfl (lv_at hl 1 rfl) ?_
  refine fr_get (C := RX0) (T := TX0) (N := 3) (ci := 0) (v := .ref rw) hx hb hts in_X0 hown hK (hI.in m_x v_x) rfl 2 (by decide) q146 rfl dX0_init_28 ?_
  refine lv_iload_n hx hb dX0_init_31 rfl (lv_at hl 0 rfl) ?_
  refine lv_iload_n hx hb dX0_init_32 rfl (lv_at hl 0 rfl) ?_
  refine lv_i2l (v := (nI 0).toInt64) hx hb dX0_init_33 rfl ?_
  refine fr_cr (fr_runS (As := [.long (nI 0).toInt64]) (rest := [.int (nI 0), .ref rw]) ⟨hx, hb, hml, hown, hts⟩ (metX1_of l D k A H.size L_3 f_4 (nI 0).toInt64 (fun q h => hA q (Nat.le_trans hS.1 h))) (va_cwS 1 hts (lw_S q120 q121 q5 q122) rfl rfl rfl (by decide +kernel) ⟨Nat.le_of_ble_eq_true rfl, Nat.le_of_ble_eq_true rfl⟩) hK hI rfl hl.1 rfl (Nat.le_of_ble_eq_true rfl) dX0_init_34 ⟨Nat.le_of_ble_eq_true rfl, Nat.le_of_ble_eq_true rfl⟩) hS (fun r0 L_5 f_5 H locs hI hq hS => ?_)
  have w_0 := hq.row (ar := ar) (cnt := 0) m_ar
  obtain ⟨x_5, a1, st1, ca1, va1, ⟨m_r0, v_r0, m_a1, v_a1, g11, g21⟩, hA1, hy1⟩ := hq
  have v_x := x_5.v m_x v_x
  have m_x := x_5.m m_x
  have v_mk := x_5.v m_mk v_mk
  have m_mk := x_5.m m_mk
  have v_ar := x_5.v m_ar v_ar
  have m_ar := x_5.m m_ar
  have v_rw := x_5.v m_rw v_rw
  have m_rw := x_5.m m_rw
  refine W.widen (k := 5) (n := 210) (by omega) (by omega) ?_
  have u_rw := v_rw
  refine fr_astq (j := 0) (n := 4) (g := (fun _ => none)) hx hb hK hI hS m_rw v_rw m_r0 v_r0 (rfl) (by decide) (by decide) dX0_init_37 (fun H locs f_6 e_6 o_6 hI hS => ?_)
  have v_x : f_6 x = fO 0 [.ref mk, .int 0, .ref rw] := (o_6 _ (p_x_rw)).trans v_x
  have v_mk : f_6 mk = fO 2 [.ref ar, .int (nI 0)] := (o_6 _ (p_mk_rw)).trans v_mk
  have v_ar : f_6 ar = fL k 4 (fun _ => 0) := (o_6 _ (p_ar_rw)).trans v_ar
  have v_r0 : f_6 r0 = fO 1 [.ref a1, .int (nI st1), .int (nI (st1 + 1))] := (o_6 _ (fr_ne v_r0 v_rw (by simp))).trans v_r0
  have v_rw : f_6 rw = fQ k 4 (va_up (fun _ => none) 0 (some r0)) := e_6
  have w_0 := w_0.putq u_rw o_6
  refine lv_iinc (v := nI 1) (lv' := [(1, .int (nI 1)), (0, .ref x)]) hx hb dX0_init_38 hl (k := 0) rfl (show (nI 0) + Int32.ofInt 1 = nI 1 from by decide) (by decide) rfl (fun ls hl => ?_)
  refine lv_goto (tgt := 22) hx hb dX0_init_41 (by decide) ?_
  refine lv_iload_n hx hb dX0_init_22 rfl (lv_at hl 0 rfl) ?_
  refine lv_iconst (v := 4) hx hb dX0_init_23 (by decide) ?_
  refine lv_icmp_ge (tgt := 44) hx hb dX0_init_24 (by decide) (fun c_9 => absurd c_9 (show ¬ 4 ≤ (nI 1) from by decide)) (fun _ => ?_)
  refine lv_aload_n hx hb dX0_init_27 rfl (lv_at hl 1 rfl) ?_
  refine fr_get (C := RX0) (T := TX0) (N := 3) (ci := 0) (v := .ref rw) hx hb hts in_X0 hown hK (hI.in m_x v_x) rfl 2 (by decide) q146 rfl dX0_init_28 ?_
  refine lv_iload_n hx hb dX0_init_31 rfl (lv_at hl 0 rfl) ?_
  refine lv_iload_n hx hb dX0_init_32 rfl (lv_at hl 0 rfl) ?_
  refine lv_i2l (v := (nI 1).toInt64) hx hb dX0_init_33 rfl ?_
  refine fr_cr (fr_runS (As := [.long (nI 1).toInt64]) (rest := [.int (nI 1), .ref rw]) ⟨hx, hb, hml, hown, hts⟩ (metX1_of l D k A H.size L_5 f_6 (nI 1).toInt64 (fun q h => hA q (Nat.le_trans hS.1 h))) (va_cwS 1 hts (lw_S q120 q121 q5 q122) rfl rfl rfl (by decide +kernel) ⟨Nat.le_of_ble_eq_true rfl, Nat.le_of_ble_eq_true rfl⟩) hK hI rfl hl.1 rfl (Nat.le_of_ble_eq_true rfl) dX0_init_34 ⟨Nat.le_of_ble_eq_true rfl, Nat.le_of_ble_eq_true rfl⟩) hS (fun r1 L_7 f_7 H locs hI hq hS => ?_)
  have w_1 := hq.row (ar := ar) (cnt := 0) m_ar
  obtain ⟨x_7, a1, st1, ca1, va1, ⟨m_r1, v_r1, m_a1, v_a1, g11, g21⟩, hA1, hy1⟩ := hq
  have w_0 := w_0.ext x_7
  have v_x := x_7.v m_x v_x
  have m_x := x_7.m m_x
  have v_mk := x_7.v m_mk v_mk
  have m_mk := x_7.m m_mk
  have v_ar := x_7.v m_ar v_ar
  have m_ar := x_7.m m_ar
  have v_rw := x_7.v m_rw v_rw
  have m_rw := x_7.m m_rw
  refine W.widen (k := 7) (n := 214) (by omega) (by omega) ?_
  have u_rw := v_rw
  refine fr_astq (j := 1) (n := 4) (g := (va_up (fun _ => none) 0 (some r0))) hx hb hK hI hS m_rw v_rw m_r1 v_r1 (rfl) (by decide) (by decide) dX0_init_37 (fun H locs f_8 e_8 o_8 hI hS => ?_)
  have v_x : f_8 x = fO 0 [.ref mk, .int 0, .ref rw] := (o_8 _ (p_x_rw)).trans v_x
  have v_mk : f_8 mk = fO 2 [.ref ar, .int (nI 0)] := (o_8 _ (p_mk_rw)).trans v_mk
  have v_ar : f_8 ar = fL k 4 (fun _ => 0) := (o_8 _ (p_ar_rw)).trans v_ar
  have v_r1 : f_8 r1 = fO 1 [.ref a1, .int (nI st1), .int (nI (st1 + 1))] := (o_8 _ (fr_ne v_r1 v_rw (by simp))).trans v_r1
  have v_rw : f_8 rw = fQ k 4 (va_up (va_up (fun _ => none) 0 (some r0)) 1 (some r1)) := e_8
  have w_0 := w_0.putq u_rw o_8
  have w_1 := w_1.putq u_rw o_8
  refine lv_iinc (v := nI 2) (lv' := [(1, .int (nI 2)), (0, .ref x)]) hx hb dX0_init_38 hl (k := 0) rfl (show (nI 1) + Int32.ofInt 1 = nI 2 from by decide) (by decide) rfl (fun ls hl => ?_)
  refine lv_goto (tgt := 22) hx hb dX0_init_41 (by decide) ?_
  refine lv_iload_n hx hb dX0_init_22 rfl (lv_at hl 0 rfl) ?_
  refine lv_iconst (v := 4) hx hb dX0_init_23 (by decide) ?_
  refine lv_icmp_ge (tgt := 44) hx hb dX0_init_24 (by decide) (fun c_9 => absurd c_9 (show ¬ 4 ≤ (nI 2) from by decide)) (fun _ => ?_)
  refine lv_aload_n hx hb dX0_init_27 rfl (lv_at hl 1 rfl) ?_
  refine fr_get (C := RX0) (T := TX0) (N := 3) (ci := 0) (v := .ref rw) hx hb hts in_X0 hown hK (hI.in m_x v_x) rfl 2 (by decide) q146 rfl dX0_init_28 ?_
  refine lv_iload_n hx hb dX0_init_31 rfl (lv_at hl 0 rfl) ?_
  refine lv_iload_n hx hb dX0_init_32 rfl (lv_at hl 0 rfl) ?_
  refine lv_i2l (v := (nI 2).toInt64) hx hb dX0_init_33 rfl ?_
  refine fr_cr (fr_runS (As := [.long (nI 2).toInt64]) (rest := [.int (nI 2), .ref rw]) ⟨hx, hb, hml, hown, hts⟩ (metX1_of l D k A H.size L_7 f_8 (nI 2).toInt64 (fun q h => hA q (Nat.le_trans hS.1 h))) (va_cwS 1 hts (lw_S q120 q121 q5 q122) rfl rfl rfl (by decide +kernel) ⟨Nat.le_of_ble_eq_true rfl, Nat.le_of_ble_eq_true rfl⟩) hK hI rfl hl.1 rfl (Nat.le_of_ble_eq_true rfl) dX0_init_34 ⟨Nat.le_of_ble_eq_true rfl, Nat.le_of_ble_eq_true rfl⟩) hS (fun r2 L_9 f_9 H locs hI hq hS => ?_)
  have w_2 := hq.row (ar := ar) (cnt := 0) m_ar
  obtain ⟨x_9, a1, st1, ca1, va1, ⟨m_r2, v_r2, m_a1, v_a1, g11, g21⟩, hA1, hy1⟩ := hq
  have w_0 := w_0.ext x_9
  have w_1 := w_1.ext x_9
  have v_x := x_9.v m_x v_x
  have m_x := x_9.m m_x
  have v_mk := x_9.v m_mk v_mk
  have m_mk := x_9.m m_mk
  have v_ar := x_9.v m_ar v_ar
  have m_ar := x_9.m m_ar
  have v_rw := x_9.v m_rw v_rw
  have m_rw := x_9.m m_rw
  refine W.widen (k := 9) (n := 218) (by omega) (by omega) ?_
  have u_rw := v_rw
  refine fr_astq (j := 2) (n := 4) (g := (va_up (va_up (fun _ => none) 0 (some r0)) 1 (some r1))) hx hb hK hI hS m_rw v_rw m_r2 v_r2 (rfl) (by decide) (by decide) dX0_init_37 (fun H locs f_10 e_10 o_10 hI hS => ?_)
  have v_x : f_10 x = fO 0 [.ref mk, .int 0, .ref rw] := (o_10 _ (p_x_rw)).trans v_x
  have v_mk : f_10 mk = fO 2 [.ref ar, .int (nI 0)] := (o_10 _ (p_mk_rw)).trans v_mk
  have v_ar : f_10 ar = fL k 4 (fun _ => 0) := (o_10 _ (p_ar_rw)).trans v_ar
  have v_r2 : f_10 r2 = fO 1 [.ref a1, .int (nI st1), .int (nI (st1 + 1))] := (o_10 _ (fr_ne v_r2 v_rw (by simp))).trans v_r2
  have v_rw : f_10 rw = fQ k 4 (va_up (va_up (va_up (fun _ => none) 0 (some r0)) 1 (some r1)) 2 (some r2)) := e_10
  have w_0 := w_0.putq u_rw o_10
  have w_1 := w_1.putq u_rw o_10
  have w_2 := w_2.putq u_rw o_10
  refine lv_iinc (v := nI 3) (lv' := [(1, .int (nI 3)), (0, .ref x)]) hx hb dX0_init_38 hl (k := 0) rfl (show (nI 2) + Int32.ofInt 1 = nI 3 from by decide) (by decide) rfl (fun ls hl => ?_)
  refine lv_goto (tgt := 22) hx hb dX0_init_41 (by decide) ?_
  refine lv_iload_n hx hb dX0_init_22 rfl (lv_at hl 0 rfl) ?_
  refine lv_iconst (v := 4) hx hb dX0_init_23 (by decide) ?_
  refine lv_icmp_ge (tgt := 44) hx hb dX0_init_24 (by decide) (fun c_9 => absurd c_9 (show ¬ 4 ≤ (nI 3) from by decide)) (fun _ => ?_)
  refine lv_aload_n hx hb dX0_init_27 rfl (lv_at hl 1 rfl) ?_
  refine fr_get (C := RX0) (T := TX0) (N := 3) (ci := 0) (v := .ref rw) hx hb hts in_X0 hown hK (hI.in m_x v_x) rfl 2 (by decide) q146 rfl dX0_init_28 ?_
  refine lv_iload_n hx hb dX0_init_31 rfl (lv_at hl 0 rfl) ?_
  refine lv_iload_n hx hb dX0_init_32 rfl (lv_at hl 0 rfl) ?_
  refine lv_i2l (v := (nI 3).toInt64) hx hb dX0_init_33 rfl ?_
  refine fr_cr (fr_runS (As := [.long (nI 3).toInt64]) (rest := [.int (nI 3), .ref rw]) ⟨hx, hb, hml, hown, hts⟩ (metX1_of l D k A H.size L_9 f_10 (nI 3).toInt64 (fun q h => hA q (Nat.le_trans hS.1 h))) (va_cwS 1 hts (lw_S q120 q121 q5 q122) rfl rfl rfl (by decide +kernel) ⟨Nat.le_of_ble_eq_true rfl, Nat.le_of_ble_eq_true rfl⟩) hK hI rfl hl.1 rfl (Nat.le_of_ble_eq_true rfl) dX0_init_34 ⟨Nat.le_of_ble_eq_true rfl, Nat.le_of_ble_eq_true rfl⟩) hS (fun r3 L_11 f_11 H locs hI hq hS => ?_)
  have w_3 := hq.row (ar := ar) (cnt := 0) m_ar
  obtain ⟨x_11, a1, st1, ca1, va1, ⟨m_r3, v_r3, m_a1, v_a1, g11, g21⟩, hA1, hy1⟩ := hq
  have w_0 := w_0.ext x_11
  have w_1 := w_1.ext x_11
  have w_2 := w_2.ext x_11
  have v_x := x_11.v m_x v_x
  have m_x := x_11.m m_x
  have v_mk := x_11.v m_mk v_mk
  have m_mk := x_11.m m_mk
  have v_ar := x_11.v m_ar v_ar
  have m_ar := x_11.m m_ar
  have v_rw := x_11.v m_rw v_rw
  have m_rw := x_11.m m_rw
  refine W.widen (k := 11) (n := 222) (by omega) (by omega) ?_
  have u_rw := v_rw
  refine fr_astq (j := 3) (n := 4) (g := (va_up (va_up (va_up (fun _ => none) 0 (some r0)) 1 (some r1)) 2 (some r2))) hx hb hK hI hS m_rw v_rw m_r3 v_r3 (rfl) (by decide) (by decide) dX0_init_37 (fun H locs f_12 e_12 o_12 hI hS => ?_)
  have v_x : f_12 x = fO 0 [.ref mk, .int 0, .ref rw] := (o_12 _ (p_x_rw)).trans v_x
  have v_mk : f_12 mk = fO 2 [.ref ar, .int (nI 0)] := (o_12 _ (p_mk_rw)).trans v_mk
  have v_ar : f_12 ar = fL k 4 (fun _ => 0) := (o_12 _ (p_ar_rw)).trans v_ar
  have v_r3 : f_12 r3 = fO 1 [.ref a1, .int (nI st1), .int (nI (st1 + 1))] := (o_12 _ (fr_ne v_r3 v_rw (by simp))).trans v_r3
  have v_rw : f_12 rw = fQ k 4 (va_up (va_up (va_up (va_up (fun _ => none) 0 (some r0)) 1 (some r1)) 2 (some r2)) 3 (some r3)) := e_12
  have w_0 := w_0.putq u_rw o_12
  have w_1 := w_1.putq u_rw o_12
  have w_2 := w_2.putq u_rw o_12
  have w_3 := w_3.putq u_rw o_12
  refine lv_iinc (v := nI 4) (lv' := [(1, .int (nI 4)), (0, .ref x)]) hx hb dX0_init_38 hl (k := 0) rfl (show (nI 3) + Int32.ofInt 1 = nI 4 from by decide) (by decide) rfl (fun ls hl => ?_)
  refine lv_goto (tgt := 22) hx hb dX0_init_41 (by decide) ?_
  refine lv_iload_n hx hb dX0_init_22 rfl (lv_at hl 0 rfl) ?_
  refine lv_iconst (v := 4) hx hb dX0_init_23 (by decide) ?_
  refine lv_icmp_ge (tgt := 44) hx hb dX0_init_24 (by decide) (fun _ => ?_) (fun c_9 => absurd (show 4 ≤ (nI 4) from by decide) c_9)
  exact fr_vret hx hb hr hlocks hI (⟨mk, ar, rw, 4, fun _ => 0, _, m_x, v_x, m_mk, v_mk, m_ar, v_ar, by decide, by decide, by decide, fun t ht => rfl, m_rw, v_rw, fun j hj => by
      match j, hj with
      | 0, _ => exact ⟨r0, rfl, by decide, w_0⟩
      | 1, _ => exact ⟨r1, rfl, by decide, w_1⟩
      | 2, _ => exact ⟨r2, rfl, by decide, w_2⟩
      | 3, _ => exact ⟨r3, rfl, by decide, w_3⟩
      | j + 4, h => exact absurd h (by omega)⟩) hS (by omega) (by omega) dX0_init_44
end
section
set_option maxRecDepth 100000
/-! the reference's state in the same words -/
def fr_MRow (k : fr_k) (L : List Nat) (f : Nat → va_E) (b n : Nat) (z : Nat → Int64) : Prop := ∃ w : Nat → Int64, b ∈ L ∧ f b = fL k n w ∧ ∀ t, t < n → w t = z t
def fr_Mod (k : fr_k) (L : List Nat) (f : Nat → va_E) (x made : Nat) (mz : Nat → Int64) (N : Nat → Nat) (Z : Nat → Nat → Int64) : Prop :=
  ∃ (mm rw : Nat) (v : Nat → Int64) (g : Nat → Option Nat), x ∈ L ∧ f x = fO 3 [.ref mm, .int (nI made), .ref rw] ∧ mm ∈ L ∧ f mm = fL k 96 v ∧ made ≤ 96 ∧ (∀ t, t < made → v t = mz t) ∧ rw ∈ L ∧ f rw = fG k 4 g ∧
  ∀ j, j < 4 → ∃ b, g j = some b ∧ N j ≤ 96 ∧ b ≠ mm ∧ fr_MRow k L f b (N j) (Z j)
theorem fr_MRow.keep {k : fr_k} {L L1 : List Nat} {f f1 : Nat → va_E} {b n : Nat} {z : Nat → Int64} (h : fr_MRow k L f b n z) (hL : ∀ b ∈ L, b ∈ L1) (h2 : ∀ w, f b = fL k n w → f1 b = f b) : fr_MRow k L1 f1 b n z := by
  obtain ⟨w, m_b, v_b, g4⟩ := h
  exact ⟨w, hL b m_b, (h2 w v_b).trans v_b, g4⟩
theorem fr_MRow.ext {k : fr_k} {L L1 : List Nat} {f f1 : Nat → va_E} {b n : Nat} {z : Nat → Int64} (h : fr_MRow k L f b n z) (hx : wX L f L1 f1) : fr_MRow k L1 f1 b n z := by
  obtain ⟨w, m_b, v_b, g4⟩ := h
  exact ⟨w, hx.m m_b, hx.v m_b v_b, g4⟩
theorem fr_MRow.putg {k : fr_k} {L : List Nat} {f f1 : Nat → va_E} {b n rw N : Nat} {z : Nat → Int64} {g : Nat → Option Nat} (h : fr_MRow k L f b n z) (v_rw : f rw = fG k N g) (o : ∀ b, b ≠ rw → f1 b = f b) : fr_MRow k L f1 b n z :=
  h.keep (fun _ hb => hb) (fun _ e => o _ (fr_ne e v_rw (by simp)))
theorem fr_MRow.putl {k : fr_k} {L : List Nat} {f f1 : Nat → va_E} {b n q : Nat} {z : Nat → Int64} (h : fr_MRow k L f b n z) (hq : b ≠ q) (o : ∀ b, b ≠ q → f1 b = f b) : fr_MRow k L f1 b n z :=
  h.keep (fun _ hb => hb) (fun _ _ => o _ hq)
theorem fr_MRow.mem {k : fr_k} {L : List Nat} {f : Nat → va_E} {b n : Nat} {z : Nat → Int64} (h : fr_MRow k L f b n z) : b ∈ L := by
  obtain ⟨w, m_b, -⟩ := h
  exact m_b
theorem fr_Mod.mz {k : fr_k} {L : List Nat} {f : Nat → va_E} {x made : Nat} {mz mz' : Nat → Int64} {N : Nat → Nat} {Z : Nat → Nat → Int64} (h : fr_Mod k L f x made mz N Z) (e : ∀ t, t < made → mz t = mz' t) : fr_Mod k L f x made mz' N Z := by
  obtain ⟨mm, rw, v, g, m_x, v_x, m_mm, v_mm, h3, h4, h5⟩ := h
  exact ⟨mm, rw, v, g, m_x, v_x, m_mm, v_mm, h3, fun t ht => (h4 t ht).trans (e t ht), h5⟩
theorem fr_Mod.lay {k : fr_k} {L L1 : List Nat} {f f1 f2 : Nat → va_E} {x made mm rw z n j : Nat} {v y : Nat → Int64} {g : Nat → Option Nat} {mz : Nat → Int64} {N : Nat → Nat} {Z : Nat → Nat → Int64}
    (m_x : x ∈ L) (v_x : f x = fO 3 [.ref mm, .int (nI made), .ref rw]) (m_mm : mm ∈ L) (v_mm : f mm = fL k 96 v) (h3 : made ≤ 96) (h4 : ∀ t, t < made → v t = mz t) (m_rw : rw ∈ L) (v_rw : f rw = fG k 4 g)
    (h5 : ∀ j, j < 4 → ∃ b, g j = some b ∧ N j ≤ 96 ∧ b ≠ mm ∧ fr_MRow k L f b (N j) (Z j)) (hn : fr_NewL k L f L1 f1 z n n y) (hn96 : n ≤ 96) (e2 : f2 rw = fG k 4 (va_up g j (some z))) (o2 : ∀ b, b ≠ rw → f2 b = f1 b) :
    fr_Mod k L1 f2 x made mz (va_up N j n) (va_up Z j y) := by
  obtain ⟨hx, q_z, m_z, vz, v_z, hy⟩ := hn
  have w_rw := hx.v m_rw v_rw
  have w_x := hx.v m_x v_x
  have w_mm := hx.v m_mm v_mm
  refine ⟨mm, rw, v, _, hx.m m_x, (o2 _ (fr_ne w_x w_rw (by simp))).trans w_x, hx.m m_mm, (o2 _ (fr_ne w_mm w_rw (by simp))).trans w_mm, h3, h4, hx.m m_rw, e2, fun i hi => ?_⟩
  by_cases c : i = j
  · rw [c, va_up_self, va_up_self, va_up_self]
    exact ⟨z, rfl, hn96, fun e => q_z (e ▸ m_mm), vz, m_z, (o2 _ (fr_ne v_z w_rw (by simp))).trans v_z, hy⟩
  · rw [va_up_ne _ _ c, va_up_ne _ _ c, va_up_ne _ _ c]
    obtain ⟨b, g3, g4, g5, g6⟩ := h5 i hi
    exact ⟨b, g3, g4, g5, (g6.ext hx).putg w_rw o2⟩
theorem fr_NewL.congr {k : fr_k} {L L1 : List Nat} {f f1 : Nat → va_E} {z N n : Nat} {y y' : Nat → Int64} (h : fr_NewL k L f L1 f1 z N n y) (e : ∀ t, t < n → y t = y' t) : fr_NewL k L f L1 f1 z N n y' := by
  obtain ⟨hx, q_z, m_z, vz, v_z, hy⟩ := h
  exact ⟨hx, q_z, m_z, vz, v_z, fun t ht => (hy t ht).trans (e t ht)⟩
set_option maxHeartbeats 4000000 in
set_option maxRecDepth 100000 in
/-- length(k) -/
theorem metX4_length (l : Launch) (D : va_G) (k : fr_k) (A : Nat → Prop) (sz : Nat) (L : List Nat) (f : Nat → va_E) (x made : Nat) (mz : Nat → Int64) (N : Nat → Nat) (Z : Nat → Nat → Int64) (hd : fr_Mod k L f x made mz N Z) (kx : Int32) (j : Nat) (hj : j < 4) (ej : kx &&& 3 = nI j) : Met l yX4_length (ws_ yX4_length cX4_length 2 (some .int)) (fr_rm 4 0 0) (fr_W D k A [.ref x, .int kx] sz L f) (fr_Qi D A (fun L1 f1 r0 => r0 = (nI (N j)) ∧ fr_Mod k L1 f1 x made mz N Z)) 0 0 A := by
  refine Met.ofW (cc := cX4_length) (maxL := 2) (ret := (some .int)) (by decide) rfl ?_
  intro p e s m args below meth c s₁ B hml hv
  obtain ⟨rfl, ⟨hsz, hI⟩, hK⟩ := hv
  have hx := B.exec
  have hb := B.bytes
  have hr := B.returns
  have hts := atoms_spec (ws := ws_ yX4_length cX4_length 2 (some .int)) B.pre
  have hts : ∀ w ∈ lw_all, w.before _ s = true := fun w h => hts w (List.mem_cons_of_mem _ h)
  have hown : s.vm.findClass RX4 = some m.cls := findClass_of_methodNamed B.named
  have hlocks := B.notSynchronized
  subst hsz
  have hS : va_S A s.heap s.heap [] := va_S.rf
  have hl := lv_entry ([.ref x, .int kx]) (n := 2) (Nat.le_of_ble_eq_true rfl)
  rw [lg_entry_eq]
  generalize (lg_sl ([.ref x, .int kx]) ++ List.replicate (2 - (lg_sl ([.ref x, .int kx])).length) Slot.unset).toArray = ls at hl ⊢
  have hl : lv_has ls 2 [(0, .ref x), (1, .int kx)] := hl
  obtain ⟨mm, rw, v, g, m_x, v_x, m_mm, v_mm, h3, h4, m_rw, v_rw, h5⟩ := id hd
  obtain ⟨b, hg, hN, hbm, w, m_b, v_b, hz⟩ := h5 j hj
  refine lv_aload_n hx hb dX4_length_0 rfl (lv_at hl 0 rfl) ?_
  refine fr_get (C := RX4) (T := TX4) (N := 3) (ci := 3) (v := .ref rw) hx hb hts in_X4 hown hK (hI.in m_x v_x) rfl 2 (by decide) q380 rfl dX4_length_1 ?_
  refine lv_iload_n hx hb dX4_length_4 rfl (lv_at hl 1 rfl) ?_
  refine lv_iconst (v := 3) hx hb dX4_length_5 (by decide) ?_
  refine lv_iand hx hb dX4_length_6 ?_
  refine fr_aldg (j := j) (n := 4) (g := g) (z := b) hx hb hK (hI.in m_rw v_rw) (ej) (hj) (by decide) (hg) dX4_length_7 ?_
  refine fr_alen (n := (N j)) hx hb hK (hI.in m_b v_b) dX4_length_8 ?_
  exact fr_iret hx hb hr hlocks hI (⟨rfl, hd⟩) hS (by omega) (by omega) dX4_length_9
set_option maxHeartbeats 4000000 in
set_option maxRecDepth 100000 in
/-- get(k, ix) -/
theorem metX4_get (l : Launch) (D : va_G) (k : fr_k) (A : Nat → Prop) (sz : Nat) (L : List Nat) (f : Nat → va_E) (x made : Nat) (mz : Nat → Int64) (N : Nat → Nat) (Z : Nat → Nat → Int64) (hd : fr_Mod k L f x made mz N Z) (kx : Int32) (j : Nat) (hj : j < 4) (ej : kx &&& 3 = nI j) (ix : Int32) : Met l yX4_get (ws_ yX4_get cX4_get 4 (some .long)) (fr_rm 4 0 0) (fr_W D k A [.ref x, .int kx, .int ix] sz L f) (fr_Ql D A (fun L1 f1 r0 => r0 = (fr_gt (Z j) (N j) ix) ∧ fr_Mod k L1 f1 x made mz N Z)) 0 0 A := by
  refine Met.ofW (cc := cX4_get) (maxL := 4) (ret := (some .long)) (by decide) rfl ?_
  intro p e s m args below meth c s₁ B hml hv
  obtain ⟨rfl, ⟨hsz, hI⟩, hK⟩ := hv
  have hx := B.exec
  have hb := B.bytes
  have hr := B.returns
  have hts := atoms_spec (ws := ws_ yX4_get cX4_get 4 (some .long)) B.pre
  have hts : ∀ w ∈ lw_all, w.before _ s = true := fun w h => hts w (List.mem_cons_of_mem _ h)
  have hown : s.vm.findClass RX4 = some m.cls := findClass_of_methodNamed B.named
  have hlocks := B.notSynchronized
  subst hsz
  have hS : va_S A s.heap s.heap [] := va_S.rf
  have hl := lv_entry ([.ref x, .int kx, .int ix]) (n := 4) (Nat.le_of_ble_eq_true rfl)
  rw [lg_entry_eq]
  generalize (lg_sl ([.ref x, .int kx, .int ix]) ++ List.replicate (4 - (lg_sl ([.ref x, .int kx, .int ix])).length) Slot.unset).toArray = ls at hl ⊢
  have hl : lv_has ls 4 [(0, .ref x), (1, .int kx), (2, .int ix)] := hl
  obtain ⟨mm, rw, v, g, m_x, v_x, m_mm, v_mm, h3, h4, m_rw, v_rw, h5⟩ := id hd
  obtain ⟨b, hg, hN, hbm, w, m_b, v_b, hz⟩ := h5 j hj
  refine lv_aload_n hx hb dX4_get_0 rfl (lv_at hl 0 rfl) ?_
  refine fr_get (C := RX4) (T := TX4) (N := 3) (ci := 3) (v := .ref rw) hx hb hts in_X4 hown hK (hI.in m_x v_x) rfl 2 (by decide) q380 rfl dX4_get_1 ?_
  refine lv_iload_n hx hb dX4_get_4 rfl (lv_at hl 1 rfl) ?_
  refine lv_iconst (v := 3) hx hb dX4_get_5 (by decide) ?_
  refine lv_iand hx hb dX4_get_6 ?_
  refine fr_aldg (j := j) (n := 4) (g := g) (z := b) hx hb hK (hI.in m_rw v_rw) (ej) (hj) (by decide) (hg) dX4_get_7 ?_
  refine lv_astore_n (lv' := [(3, .ref b), (0, .ref x), (1, .int kx), (2, .int ix)]) hx hb dX4_get_8 rfl hl (by decide) rfl (fun ls hl => ?_)
  refine lv_aload_n hx hb dX4_get_9 rfl (lv_at hl 0 rfl) ?_
  refine fr_alen (n := (N j)) hx hb hK (hI.in m_b v_b) dX4_get_10 ?_
  refine lv_if_ne (tgt := 18) hx hb dX4_get_11 (by decide) (fun c_1 => ?_) (fun c_1 => ?_)
  · have hn : ¬ N j = 0 := fun h => c_1 (by rw [h]; rfl)
    refine lv_aload_n hx hb dX4_get_18 rfl (lv_at hl 0 rfl) ?_
    refine lv_iload_n hx hb dX4_get_19 rfl (lv_at hl 3 rfl) ?_
    refine lv_ldc (v := 2147483647) hx hb hown (hts _ q415) dX4_get_20 ?_
    refine lv_iand hx hb dX4_get_22 ?_
    refine fr_topi (show (ix &&& 2147483647) = nI (fr_pos ix) from fr_pos_and ix) ?_
    refine lv_aload_n hx hb dX4_get_23 rfl (lv_at hl 0 rfl) ?_
    refine fr_alen (n := (N j)) hx hb hK (hI.in m_b v_b) dX4_get_24 ?_
    have hlt : fr_pos ix % N j < N j := Nat.mod_lt _ (by omega)
    have hp := fr_pos_lt ix
    refine lv_irem hx hb dX4_get_25 (nI_ne0 (by omega) (by omega)) ?_
    refine fr_topi (show ((nI (fr_pos ix)) - (nI (fr_pos ix)) / (nI (N j)) * (nI (N j))) = nI (fr_pos ix % N j) from pk_rem hp (by omega) (by omega)) ?_
    refine fr_lald (j := (fr_pos ix % N j)) (n := (N j)) (v := w) hx hb hK (hI.in m_b v_b) (rfl) (hlt) (by omega) dX4_get_26 ?_
    exact fr_lret hx hb hr hlocks hI (⟨by rw [hz _ hlt]; exact (if_neg hn).symm, hd⟩) hS (by omega) (by omega) dX4_get_27
  · have hn : N j = 0 := (nI_eq (b := 0) (by omega) (by omega)).mp c_1
    refine lv_lconst (v := 0) hx hb dX4_get_14 (by decide) ?_
    refine lv_goto (tgt := 27) hx hb dX4_get_15 (by decide) ?_
    exact fr_lret hx hb hr hlocks hI (⟨(if_pos hn).symm, hd⟩) hS (by omega) (by omega) dX4_get_27
set_option maxHeartbeats 4000000 in
set_option maxRecDepth 100000 in
/-- first(k, hi, lo) -/
theorem metX4_first (l : Launch) (D : va_G) (k : fr_k) (A : Nat → Prop) (sz : Nat) (L : List Nat) (f : Nat → va_E) (x made : Nat) (mz : Nat → Int64) (N : Nat → Nat) (Z : Nat → Nat → Int64) (hd : fr_Mod k L f x made mz N Z) (kx : Int32) (j : Nat) (hj : j < 4) (ej : kx &&& 3 = nI j) (hi lo : Int32) : Met l yX4_first (ws_ yX4_first cX4_first 6 (some .int)) (fr_rm 4 0 0) (fr_W D k A [.ref x, .int kx, .int hi, .int lo] sz L f) (fr_Qi D A (fun L1 f1 r0 => r0 = (fr_ff (Z j) (fr_J hi lo) (N j) 0) ∧ fr_Mod k L1 f1 x made mz N Z)) 0 0 A := by
  refine Met.ofW (cc := cX4_first) (maxL := 6) (ret := (some .int)) (by decide) rfl ?_
  intro p e s m args below meth c s₁ B hml hv
  obtain ⟨rfl, ⟨hsz, hI⟩, hK⟩ := hv
  have hx := B.exec
  have hb := B.bytes
  have hr := B.returns
  have hts := atoms_spec (ws := ws_ yX4_first cX4_first 6 (some .int)) B.pre
  have hts : ∀ w ∈ lw_all, w.before _ s = true := fun w h => hts w (List.mem_cons_of_mem _ h)
  have hown : s.vm.findClass RX4 = some m.cls := findClass_of_methodNamed B.named
  have hlocks := B.notSynchronized
  subst hsz
  have hS : va_S A s.heap s.heap [] := va_S.rf
  have hl := lv_entry ([.ref x, .int kx, .int hi, .int lo]) (n := 6) (Nat.le_of_ble_eq_true rfl)
  rw [lg_entry_eq]
  generalize (lg_sl ([.ref x, .int kx, .int hi, .int lo]) ++ List.replicate (6 - (lg_sl ([.ref x, .int kx, .int hi, .int lo])).length) Slot.unset).toArray = ls at hl ⊢
  have hl : lv_has ls 6 [(0, .ref x), (1, .int kx), (2, .int hi), (3, .int lo)] := hl
  obtain ⟨mm, rw, v, g, m_x, v_x, m_mm, v_mm, h3, h4, m_rw, v_rw, h5⟩ := id hd
  obtain ⟨b, hg, hN, hbm, w, m_b, v_b, hz⟩ := h5 j hj
  refine lv_aload_n hx hb dX4_first_0 rfl (lv_at hl 0 rfl) ?_
  refine fr_get (C := RX4) (T := TX4) (N := 3) (ci := 3) (v := .ref rw) hx hb hts in_X4 hown hK (hI.in m_x v_x) rfl 2 (by decide) q380 rfl dX4_first_1 ?_
  refine lv_iload_n hx hb dX4_first_4 rfl (lv_at hl 1 rfl) ?_
  refine lv_iconst (v := 3) hx hb dX4_first_5 (by decide) ?_
  refine lv_iand hx hb dX4_first_6 ?_
  refine fr_aldg (j := j) (n := 4) (g := g) (z := b) hx hb hK (hI.in m_rw v_rw) (ej) (hj) (by decide) (hg) dX4_first_7 ?_
  refine lv_astore (lv' := [(4, .ref b), (0, .ref x), (1, .int kx), (2, .int hi), (3, .int lo)]) hx hb dX4_first_8 hl (by decide) rfl (fun ls hl => ?_)
  refine lv_iconst (v := 0) hx hb dX4_first_10 (by decide) ?_
  refine lv_istore (lv' := [(5, .int 0), (4, .ref b), (0, .ref x), (1, .int kx), (2, .int hi), (3, .int lo)]) hx hb dX4_first_11 hl (by decide) rfl (fun ls hl => ?_)
  suffices loop : ∀ (d i : Nat), i + d = N j → fr_ff (Z j) (fr_J hi lo) d i = fr_ff (Z j) (fr_J hi lo) (N j) 0 → ∀ ls : Array Slot, lv_has ls 6 [(0, .ref x), (2, .int hi), (3, .int lo), (4, .ref b), (5, .int (nI i))] → W p l e (headSpec (ws_ yX4_first cX4_first 6 (some .int)) (fr_rm 4 0 0)).room s m ([.ref x, .int kx, .int hi, .int lo] : List Value).toArray below meth c s.heap [] 0 0 (MQ below (fr_Qi D A (fun L1 f1 r0 => r0 = (fr_ff (Z j) (fr_J hi lo) (N j) 0) ∧ fr_Mod k L1 f1 x made mz N Z)) ([.ref x, .int kx, .int hi, .int lo] : List Value).toArray s 0 0 A) (F0 m 13 ls []) from loop (N j) 0 (by omega) rfl ls (lv_sub hl [2, 4, 5, 1, 0] rfl)
  intro d
  induction d with
  | zero =>
    intro i hi0 hv ls hl
    refine lv_iload hx hb dX4_first_13 (lv_at hl 4 rfl) ?_
    refine lv_aload hx hb dX4_first_15 (lv_at hl 3 rfl) ?_
    refine fr_alen (n := (N j)) hx hb hK (hI.in m_b v_b) dX4_first_17 ?_
    refine lv_icmp_ge (tgt := 44) hx hb dX4_first_18 (by decide) (fun _ => ?_) (fun c_9 => absurd (show (nI (N j)) ≤ (nI i) from nI_le (by omega) (by omega)) c_9)
    refine lv_iconst (v := (-1)) hx hb dX4_first_44 (by decide) ?_
    exact fr_iret hx hb hr hlocks hI (⟨hv, hd⟩) hS (by omega) (by omega) dX4_first_45
  | succ d ih =>
    intro i hi0 hv ls hl
    refine lv_iload hx hb dX4_first_13 (lv_at hl 4 rfl) ?_
    refine lv_aload hx hb dX4_first_15 (lv_at hl 3 rfl) ?_
    refine fr_alen (n := (N j)) hx hb hK (hI.in m_b v_b) dX4_first_17 ?_
    refine lv_icmp_ge (tgt := 44) hx hb dX4_first_18 (by decide) (fun c_9 => absurd c_9 (show ¬ (nI (N j)) ≤ (nI i) from nI_ge (by omega) (by omega))) (fun _ => ?_)
    refine lv_aload hx hb dX4_first_21 (lv_at hl 3 rfl) ?_
    refine lv_iload hx hb dX4_first_23 (lv_at hl 4 rfl) ?_
    refine fr_lald (j := i) (n := (N j)) (v := w) hx hb hK (hI.in m_b v_b) (rfl) (by omega) (by omega) dX4_first_25 ?_
    refine fr_topl (show (w i) = Z j i from hz i (by omega)) ?_
    refine lv_iload_n hx hb dX4_first_26 rfl (lv_at hl 1 rfl) ?_
    refine lv_iload_n hx hb dX4_first_27 rfl (lv_at hl 2 rfl) ?_
    refine fr_rS (As := [.int hi, .int lo]) (rest := [.long (Z j i)]) ⟨hx, hb, hml, hown, hts⟩ (metX4_joined l D k hi lo) (va_cwS 2 hts (lw_S q392 q393 q12 q394) rfl rfl rfl (by decide +kernel) ⟨Nat.le_of_ble_eq_true rfl, Nat.le_of_ble_eq_true rfl⟩) hK (fr_nil) rfl hl.1 rfl (Nat.le_of_ble_eq_true rfl) dX4_first_28 ⟨Nat.zero_le _, Nat.zero_le _⟩ ?_
    refine W.lcmp hx hb dX4_first_31 ?_
    refine lv_if_ne (tgt := 38) hx hb dX4_first_32 (by decide) (fun c_1 => ?_) (fun c_1 => ?_)
    · have hq : ¬ Z j i = fr_J hi lo := fun h => c_1 ((lg_cmp_eq _ _).mpr h)
      refine lv_iinc (v := nI (i + 1)) (lv' := [(5, .int (nI (i + 1))), (0, .ref x), (2, .int hi), (3, .int lo), (4, .ref b)]) hx hb dX4_first_38 hl (k := 4) rfl (show (nI i) + Int32.ofInt 1 = nI (i + 1) from nI_1 i) (by decide) rfl (fun ls hl => ?_)
      refine lv_goto (tgt := 13) hx hb dX4_first_41 (by decide) ?_
      exact ih (i + 1) (by omega) ((fr_ff_f hq).symm.trans hv) ls (lv_sub hl [1, 2, 3, 4, 0] rfl)
    · have hq : Z j i = fr_J hi lo := (lg_cmp_eq _ _).mp c_1
      refine lv_iload hx hb dX4_first_35 (lv_at hl 4 rfl) ?_
      exact fr_iret hx hb hr hlocks hI (⟨(fr_ff_t hq).symm.trans hv, hd⟩) hS (by omega) (by omega) dX4_first_37
set_option maxHeartbeats 4000000 in
set_option maxRecDepth 100000 in
/-- last(k, hi, lo) -/
theorem metX4_last (l : Launch) (D : va_G) (k : fr_k) (A : Nat → Prop) (sz : Nat) (L : List Nat) (f : Nat → va_E) (x made : Nat) (mz : Nat → Int64) (N : Nat → Nat) (Z : Nat → Nat → Int64) (hd : fr_Mod k L f x made mz N Z) (kx : Int32) (j : Nat) (hj : j < 4) (ej : kx &&& 3 = nI j) (hi lo : Int32) : Met l yX4_last (ws_ yX4_last cX4_last 6 (some .int)) (fr_rm 4 0 0) (fr_W D k A [.ref x, .int kx, .int hi, .int lo] sz L f) (fr_Qi D A (fun L1 f1 r0 => r0 = (fr_fl (Z j) (fr_J hi lo) (N j)) ∧ fr_Mod k L1 f1 x made mz N Z)) 0 0 A := by
  refine Met.ofW (cc := cX4_last) (maxL := 6) (ret := (some .int)) (by decide) rfl ?_
  intro p e s m args below meth c s₁ B hml hv
  obtain ⟨rfl, ⟨hsz, hI⟩, hK⟩ := hv
  have hx := B.exec
  have hb := B.bytes
  have hr := B.returns
  have hts := atoms_spec (ws := ws_ yX4_last cX4_last 6 (some .int)) B.pre
  have hts : ∀ w ∈ lw_all, w.before _ s = true := fun w h => hts w (List.mem_cons_of_mem _ h)
  have hown : s.vm.findClass RX4 = some m.cls := findClass_of_methodNamed B.named
  have hlocks := B.notSynchronized
  subst hsz
  have hS : va_S A s.heap s.heap [] := va_S.rf
  have hl := lv_entry ([.ref x, .int kx, .int hi, .int lo]) (n := 6) (Nat.le_of_ble_eq_true rfl)
  rw [lg_entry_eq]
  generalize (lg_sl ([.ref x, .int kx, .int hi, .int lo]) ++ List.replicate (6 - (lg_sl ([.ref x, .int kx, .int hi, .int lo])).length) Slot.unset).toArray = ls at hl ⊢
  have hl : lv_has ls 6 [(0, .ref x), (1, .int kx), (2, .int hi), (3, .int lo)] := hl
  obtain ⟨mm, rw, v, g, m_x, v_x, m_mm, v_mm, h3, h4, m_rw, v_rw, h5⟩ := id hd
  obtain ⟨b, hg, hN, hbm, w, m_b, v_b, hz⟩ := h5 j hj
  refine lv_aload_n hx hb dX4_last_0 rfl (lv_at hl 0 rfl) ?_
  refine fr_get (C := RX4) (T := TX4) (N := 3) (ci := 3) (v := .ref rw) hx hb hts in_X4 hown hK (hI.in m_x v_x) rfl 2 (by decide) q380 rfl dX4_last_1 ?_
  refine lv_iload_n hx hb dX4_last_4 rfl (lv_at hl 1 rfl) ?_
  refine lv_iconst (v := 3) hx hb dX4_last_5 (by decide) ?_
  refine lv_iand hx hb dX4_last_6 ?_
  refine fr_aldg (j := j) (n := 4) (g := g) (z := b) hx hb hK (hI.in m_rw v_rw) (ej) (hj) (by decide) (hg) dX4_last_7 ?_
  refine lv_astore (lv' := [(4, .ref b), (0, .ref x), (1, .int kx), (2, .int hi), (3, .int lo)]) hx hb dX4_last_8 hl (by decide) rfl (fun ls hl => ?_)
  refine lv_aload hx hb dX4_last_10 (lv_at hl 0 rfl) ?_
  refine fr_alen (n := (N j)) hx hb hK (hI.in m_b v_b) dX4_last_12 ?_
  refine lv_iconst (v := 1) hx hb dX4_last_13 (by decide) ?_
  refine lv_isub hx hb dX4_last_14 ?_
  refine lv_istore (lv' := [(5, .int ((nI (N j)) - 1)), (4, .ref b), (0, .ref x), (1, .int kx), (2, .int hi), (3, .int lo)]) hx hb dX4_last_15 hl (by decide) rfl (fun ls hl => ?_)
  suffices loop : ∀ (d : Nat), d ≤ N j → fr_fl (Z j) (fr_J hi lo) d = fr_fl (Z j) (fr_J hi lo) (N j) → ∀ ls : Array Slot, lv_has ls 6 [(0, .ref x), (2, .int hi), (3, .int lo), (4, .ref b), (5, .int (nI d - 1))] → W p l e (headSpec (ws_ yX4_last cX4_last 6 (some .int)) (fr_rm 4 0 0)).room s m ([.ref x, .int kx, .int hi, .int lo] : List Value).toArray below meth c s.heap [] 0 0 (MQ below (fr_Qi D A (fun L1 f1 r0 => r0 = (fr_fl (Z j) (fr_J hi lo) (N j)) ∧ fr_Mod k L1 f1 x made mz N Z)) ([.ref x, .int kx, .int hi, .int lo] : List Value).toArray s 0 0 A) (F0 m 17 ls []) from loop (N j) (Nat.le_refl _) rfl ls (lv_sub hl [2, 4, 5, 1, 0] rfl)
  intro d
  induction d with
  | zero =>
    intro hi0 hv ls hl
    refine lv_iload hx hb dX4_last_17 (lv_at hl 4 rfl) ?_
    refine lv_if_lt (tgt := 45) hx hb dX4_last_19 (by decide) (fun _ => ?_) (fun c_9 => absurd (show (nI 0 - 1) < 0 from fr_m1lt (t := 0) (by decide)) c_9)
    refine lv_iconst (v := (-1)) hx hb dX4_last_45 (by decide) ?_
    exact fr_iret hx hb hr hlocks hI (⟨hv, hd⟩) hS (by omega) (by omega) dX4_last_46
  | succ d ih =>
    intro hi0 hv ls hl
    refine lv_iload hx hb dX4_last_17 (lv_at hl 4 rfl) ?_
    refine fr_topi (show (nI (d + 1) - 1) = nI d from nI_pred d) ?_
    refine lv_if_lt (tgt := 45) hx hb dX4_last_19 (by decide) (fun c_9 => absurd c_9 (show ¬ (nI d) < 0 from nI_pos (by omega))) (fun _ => ?_)
    refine lv_aload hx hb dX4_last_22 (lv_at hl 3 rfl) ?_
    refine lv_iload hx hb dX4_last_24 (lv_at hl 4 rfl) ?_
    refine fr_lald (j := d) (n := (N j)) (v := w) hx hb hK (hI.in m_b v_b) (nI_pred d) (by omega) (by omega) dX4_last_26 ?_
    refine fr_topl (show (w d) = Z j d from hz d (by omega)) ?_
    refine lv_iload_n hx hb dX4_last_27 rfl (lv_at hl 1 rfl) ?_
    refine lv_iload_n hx hb dX4_last_28 rfl (lv_at hl 2 rfl) ?_
    refine fr_rS (As := [.int hi, .int lo]) (rest := [.long (Z j d)]) ⟨hx, hb, hml, hown, hts⟩ (metX4_joined l D k hi lo) (va_cwS 2 hts (lw_S q392 q393 q12 q394) rfl rfl rfl (by decide +kernel) ⟨Nat.le_of_ble_eq_true rfl, Nat.le_of_ble_eq_true rfl⟩) hK (fr_nil) rfl hl.1 rfl (Nat.le_of_ble_eq_true rfl) dX4_last_29 ⟨Nat.zero_le _, Nat.zero_le _⟩ ?_
    refine W.lcmp hx hb dX4_last_32 ?_
    refine lv_if_ne (tgt := 39) hx hb dX4_last_33 (by decide) (fun c_1 => ?_) (fun c_1 => ?_)
    · have hq : ¬ Z j d = fr_J hi lo := fun h => c_1 ((lg_cmp_eq _ _).mpr h)
      refine lv_iinc (v := nI d - 1) (lv' := [(5, .int (nI d - 1)), (0, .ref x), (2, .int hi), (3, .int lo), (4, .ref b)]) hx hb dX4_last_39 hl (k := 4) rfl (show (nI (d + 1) - 1) + Int32.ofInt (-1) = nI d - 1 from by rw [fr_dec]; exact congrArg (fun q => q - 1) (nI_pred d)) (by decide) rfl (fun ls hl => ?_)
      refine lv_goto (tgt := 17) hx hb dX4_last_42 (by decide) ?_
      exact ih (by omega) ((fr_fl_f hq).symm.trans hv) ls (lv_sub hl [1, 2, 3, 4, 0] rfl)
    · have hq : Z j d = fr_J hi lo := (lg_cmp_eq _ _).mp c_1
      refine lv_iload hx hb dX4_last_36 (lv_at hl 4 rfl) ?_
      refine fr_topi (show (nI (d + 1) - 1) = nI d from nI_pred d) ?_
      exact fr_iret hx hb hr hlocks hI (⟨(fr_fl_t hq).symm.trans hv, hd⟩) hS (by omega) (by omega) dX4_last_38
set_option maxHeartbeats 4000000 in
set_option maxRecDepth 100000 in
/-- holds(k, hi, lo) -/
theorem metX4_holds (l : Launch) (D : va_G) (k : fr_k) (A : Nat → Prop) (sz : Nat) (L : List Nat) (f : Nat → va_E) (x made : Nat) (mz : Nat → Int64) (N : Nat → Nat) (Z : Nat → Nat → Int64) (hd : fr_Mod k L f x made mz N Z) (kx : Int32) (j : Nat) (hj : j < 4) (ej : kx &&& 3 = nI j) (hi lo : Int32) : Met l yX4_holds (ws_ yX4_holds cX4_holds 4 (some .boolean)) (fr_rm 5 0 0) (fr_W D k A [.ref x, .int kx, .int hi, .int lo] sz L f) (fr_Qi D A (fun L1 f1 r0 => r0 = (fr_ct (fr_ff (Z j) (fr_J hi lo) (N j) 0)) ∧ fr_Mod k L1 f1 x made mz N Z)) 0 0 A := by
  refine Met.ofW (cc := cX4_holds) (maxL := 4) (ret := (some .boolean)) (by decide) rfl ?_
  intro p e s m args below meth c s₁ B hml hv
  obtain ⟨rfl, ⟨hsz, hI⟩, hK⟩ := hv
  have hx := B.exec
  have hb := B.bytes
  have hr := B.returns
  have hts := atoms_spec (ws := ws_ yX4_holds cX4_holds 4 (some .boolean)) B.pre
  have hts : ∀ w ∈ lw_all, w.before _ s = true := fun w h => hts w (List.mem_cons_of_mem _ h)
  have hown : s.vm.findClass RX4 = some m.cls := findClass_of_methodNamed B.named
  have hlocks := B.notSynchronized
  subst hsz
  have hS : va_S A s.heap s.heap [] := va_S.rf
  have hl := lv_entry ([.ref x, .int kx, .int hi, .int lo]) (n := 4) (Nat.le_of_ble_eq_true rfl)
  rw [lg_entry_eq]
  generalize (lg_sl ([.ref x, .int kx, .int hi, .int lo]) ++ List.replicate (4 - (lg_sl ([.ref x, .int kx, .int hi, .int lo])).length) Slot.unset).toArray = ls at hl ⊢
  have hl : lv_has ls 4 [(0, .ref x), (1, .int kx), (2, .int hi), (3, .int lo)] := hl
  obtain ⟨mm, rw, v, g, m_x, v_x, m_mm, v_mm, h3, h4, m_rw, v_rw, h5⟩ := id hd
  refine lv_aload_n hx hb dX4_holds_0 rfl (lv_at hl 0 rfl) ?_
  refine lv_iload_n hx hb dX4_holds_1 rfl (lv_at hl 1 rfl) ?_
  refine lv_iload_n hx hb dX4_holds_2 rfl (lv_at hl 2 rfl) ?_
  refine lv_iload_n hx hb dX4_holds_3 rfl (lv_at hl 3 rfl) ?_
  refine fr_ci (fr_runV (As := [.int kx, .int hi, .int lo]) (rest := []) (ci := 3) ⟨hx, hb, hml, hown, hts⟩ (metX4_first l D k A s.heap.size L f x made mz N Z hd kx j hj ej hi lo) (cwV 3 hts (lw_V q436 q425 q426 q12 q427) rfl rfl rfl (by decide +kernel) ⟨Nat.le_of_ble_eq_true rfl, Nat.le_of_ble_eq_true rfl⟩) hK hI m_x v_x rfl rfl rfl hl.1 rfl (Nat.le_of_ble_eq_true rfl) dX4_holds_4 ⟨Nat.le_of_ble_eq_true rfl, Nat.le_of_ble_eq_true rfl⟩) hS (fun r0 L_1 f_1 H locs hI hq hS => ?_)
  obtain ⟨rfl, hd1⟩ := hq
  refine lv_if_lt (tgt := 14) hx hb dX4_holds_7 (by decide) (fun c_1 => ?_) (fun c_1 => ?_)
  · refine lv_iconst (v := 0) hx hb dX4_holds_14 (by decide) ?_
    exact fr_zret hx hb hr hlocks (Or.inl rfl) hI (⟨(if_pos c_1).symm, hd1⟩) hS (by omega) (by omega) dX4_holds_15
  · refine lv_iconst (v := 1) hx hb dX4_holds_10 (by decide) ?_
    refine lv_goto (tgt := 15) hx hb dX4_holds_11 (by decide) ?_
    exact fr_zret hx hb hr hlocks (Or.inr rfl) hI (⟨(if_neg c_1).symm, hd1⟩) hS (by omega) (by omega) dX4_holds_15
set_option maxHeartbeats 4000000 in
set_option maxRecDepth 100000 in
/-- same(j, k) -/
theorem metX4_same (l : Launch) (D : va_G) (k : fr_k) (A : Nat → Prop) (sz : Nat) (L : List Nat) (f : Nat → va_E) (x made : Nat) (mz : Nat → Int64) (N : Nat → Nat) (Z : Nat → Nat → Int64) (hd : fr_Mod k L f x made mz N Z) (kx ky : Int32) (j i : Nat) (hj : j < 4) (ej : kx &&& 3 = nI j) (hi : i < 4) (ei : ky &&& 3 = nI i) : Met l yX4_same (ws_ yX4_same cX4_same 6 (some .boolean)) (fr_rm 4 0 0) (fr_W D k A [.ref x, .int kx, .int ky] sz L f) (fr_Qi D A (fun L1 f1 r0 => r0 = (if N j = N i then fr_eqb (Z j) (Z i) (N j) 0 else 0) ∧ fr_Mod k L1 f1 x made mz N Z)) 0 0 A := by
  refine Met.ofW (cc := cX4_same) (maxL := 6) (ret := (some .boolean)) (by decide) rfl ?_
  intro p e s m args below meth c s₁ B hml hv
  obtain ⟨rfl, ⟨hsz, hI⟩, hK⟩ := hv
  have hx := B.exec
  have hb := B.bytes
  have hr := B.returns
  have hts := atoms_spec (ws := ws_ yX4_same cX4_same 6 (some .boolean)) B.pre
  have hts : ∀ w ∈ lw_all, w.before _ s = true := fun w h => hts w (List.mem_cons_of_mem _ h)
  have hown : s.vm.findClass RX4 = some m.cls := findClass_of_methodNamed B.named
  have hlocks := B.notSynchronized
  subst hsz
  have hS : va_S A s.heap s.heap [] := va_S.rf
  have hl := lv_entry ([.ref x, .int kx, .int ky]) (n := 6) (Nat.le_of_ble_eq_true rfl)
  rw [lg_entry_eq]
  generalize (lg_sl ([.ref x, .int kx, .int ky]) ++ List.replicate (6 - (lg_sl ([.ref x, .int kx, .int ky])).length) Slot.unset).toArray = ls at hl ⊢
  have hl : lv_has ls 6 [(0, .ref x), (1, .int kx), (2, .int ky)] := hl
  obtain ⟨mm, rw, v, g, m_x, v_x, m_mm, v_mm, h3, h4, m_rw, v_rw, h5⟩ := id hd
  obtain ⟨b, hg, hN, hbm, w, m_b, v_b, hz⟩ := h5 j hj
  obtain ⟨b2, hg2, hN2, hbm2, w2, m_b2, v_b2, hz2⟩ := h5 i hi
  refine lv_aload_n hx hb dX4_same_0 rfl (lv_at hl 0 rfl) ?_
  refine fr_get (C := RX4) (T := TX4) (N := 3) (ci := 3) (v := .ref rw) hx hb hts in_X4 hown hK (hI.in m_x v_x) rfl 2 (by decide) q380 rfl dX4_same_1 ?_
  refine lv_iload_n hx hb dX4_same_4 rfl (lv_at hl 1 rfl) ?_
  refine lv_iconst (v := 3) hx hb dX4_same_5 (by decide) ?_
  refine lv_iand hx hb dX4_same_6 ?_
  refine fr_aldg (j := j) (n := 4) (g := g) (z := b) hx hb hK (hI.in m_rw v_rw) (ej) (hj) (by decide) (hg) dX4_same_7 ?_
  refine lv_astore_n (lv' := [(3, .ref b), (0, .ref x), (1, .int kx), (2, .int ky)]) hx hb dX4_same_8 rfl hl (by decide) rfl (fun ls hl => ?_)
  refine lv_aload_n hx hb dX4_same_9 rfl (lv_at hl 1 rfl) ?_
  refine fr_get (C := RX4) (T := TX4) (N := 3) (ci := 3) (v := .ref rw) hx hb hts in_X4 hown hK (hI.in m_x v_x) rfl 2 (by decide) q380 rfl dX4_same_10 ?_
  refine lv_iload_n hx hb dX4_same_13 rfl (lv_at hl 3 rfl) ?_
  refine lv_iconst (v := 3) hx hb dX4_same_14 (by decide) ?_
  refine lv_iand hx hb dX4_same_15 ?_
  refine fr_aldg (j := i) (n := 4) (g := g) (z := b2) hx hb hK (hI.in m_rw v_rw) (ei) (hi) (by decide) (hg2) dX4_same_16 ?_
  refine lv_astore (lv' := [(4, .ref b2), (3, .ref b), (0, .ref x), (1, .int kx), (2, .int ky)]) hx hb dX4_same_17 hl (by decide) rfl (fun ls hl => ?_)
  refine lv_aload_n hx hb dX4_same_19 rfl (lv_at hl 1 rfl) ?_
  refine fr_alen (n := (N j)) hx hb hK (hI.in m_b v_b) dX4_same_20 ?_
  refine lv_aload hx hb dX4_same_21 (lv_at hl 0 rfl) ?_
  refine fr_alen (n := (N i)) hx hb hK (hI.in m_b2 v_b2) dX4_same_23 ?_
  refine lv_icmp_eq (tgt := 29) hx hb dX4_same_24 (by decide) (fun c_1 => ?_) (fun c_1 => ?_)
  · have hn : N j = N i := (nI_eq (by omega) (by omega)).mp c_1
    refine lv_iconst (v := 0) hx hb dX4_same_29 (by decide) ?_
    refine lv_istore (lv' := [(5, .int 0), (4, .ref b2), (3, .ref b), (0, .ref x), (1, .int kx), (2, .int ky)]) hx hb dX4_same_30 hl (by decide) rfl (fun ls hl => ?_)
    suffices loop : ∀ (d t : Nat), t + d = N j → fr_eqb (Z j) (Z i) d t = fr_eqb (Z j) (Z i) (N j) 0 → ∀ ls : Array Slot, lv_has ls 6 [(0, .ref x), (3, .ref b), (4, .ref b2), (5, .int (nI t))] → W p l e (headSpec (ws_ yX4_same cX4_same 6 (some .boolean)) (fr_rm 4 0 0)).room s m ([.ref x, .int kx, .int ky] : List Value).toArray below meth c s.heap [] 0 0 (MQ below (fr_Qi D A (fun L1 f1 r0 => r0 = (if N j = N i then fr_eqb (Z j) (Z i) (N j) 0 else 0) ∧ fr_Mod k L1 f1 x made mz N Z)) ([.ref x, .int kx, .int ky] : List Value).toArray s 0 0 A) (F0 m 32 ls []) from loop (N j) 0 (by omega) rfl ls (lv_sub hl [3, 2, 1, 0] rfl)
    intro d
    induction d with
    | zero =>
      intro t ht hv ls hl
      refine lv_iload hx hb dX4_same_32 (lv_at hl 3 rfl) ?_
      refine lv_aload_n hx hb dX4_same_34 rfl (lv_at hl 1 rfl) ?_
      refine fr_alen (n := (N j)) hx hb hK (hI.in m_b v_b) dX4_same_35 ?_
      refine lv_icmp_ge (tgt := 60) hx hb dX4_same_36 (by decide) (fun _ => ?_) (fun c_9 => absurd (show (nI (N j)) ≤ (nI t) from nI_le (by omega) (by omega)) c_9)
      refine lv_iconst (v := 1) hx hb dX4_same_60 (by decide) ?_
      exact fr_zret hx hb hr hlocks (Or.inr rfl) hI (⟨by rw [if_pos hn]; exact hv, hd⟩) hS (by omega) (by omega) dX4_same_61
    | succ d ih =>
      intro t ht hv ls hl
      refine lv_iload hx hb dX4_same_32 (lv_at hl 3 rfl) ?_
      refine lv_aload_n hx hb dX4_same_34 rfl (lv_at hl 1 rfl) ?_
      refine fr_alen (n := (N j)) hx hb hK (hI.in m_b v_b) dX4_same_35 ?_
      refine lv_icmp_ge (tgt := 60) hx hb dX4_same_36 (by decide) (fun c_9 => absurd c_9 (show ¬ (nI (N j)) ≤ (nI t) from nI_ge (by omega) (by omega))) (fun _ => ?_)
      refine lv_aload_n hx hb dX4_same_39 rfl (lv_at hl 1 rfl) ?_
      refine lv_iload hx hb dX4_same_40 (lv_at hl 3 rfl) ?_
      refine fr_lald (j := t) (n := (N j)) (v := w) hx hb hK (hI.in m_b v_b) (rfl) (by omega) (by omega) dX4_same_42 ?_
      refine fr_topl (show (w t) = Z j t from hz t (by omega)) ?_
      refine lv_aload hx hb dX4_same_43 (lv_at hl 2 rfl) ?_
      refine lv_iload hx hb dX4_same_45 (lv_at hl 3 rfl) ?_
      refine fr_lald (j := t) (n := (N i)) (v := w2) hx hb hK (hI.in m_b2 v_b2) (rfl) (by omega) (by omega) dX4_same_47 ?_
      refine fr_topl (show (w2 t) = Z i t from hz2 t (by omega)) ?_
      refine W.lcmp hx hb dX4_same_48 ?_
      refine lv_if_eq (tgt := 54) hx hb dX4_same_49 (by decide) (fun c_2 => ?_) (fun c_2 => ?_)
      · have hq : Z j t = Z i t := (lg_cmp_eq _ _).mp c_2
        refine lv_iinc (v := nI (t + 1)) (lv' := [(5, .int (nI (t + 1))), (0, .ref x), (3, .ref b), (4, .ref b2)]) hx hb dX4_same_54 hl (k := 3) rfl (show (nI t) + Int32.ofInt 1 = nI (t + 1) from nI_1 t) (by decide) rfl (fun ls hl => ?_)
        refine lv_goto (tgt := 32) hx hb dX4_same_57 (by decide) ?_
        exact ih (t + 1) (by omega) ((fr_eqb_t hq).symm.trans hv) ls (lv_sub hl [1, 2, 3, 0] rfl)
      · have hq : ¬ Z j t = Z i t := fun h => c_2 ((lg_cmp_eq _ _).mpr h)
        refine lv_iconst (v := 0) hx hb dX4_same_52 (by decide) ?_
        exact fr_zret hx hb hr hlocks (Or.inl rfl) hI (⟨by rw [if_pos hn]; exact (fr_eqb_f hq).symm.trans hv, hd⟩) hS (by omega) (by omega) dX4_same_53
  · have hn : ¬ N j = N i := fun h => c_1 (by rw [h])
    refine lv_iconst (v := 0) hx hb dX4_same_27 (by decide) ?_
    exact fr_zret hx hb hr hlocks (Or.inl rfl) hI (⟨(if_neg hn).symm, hd⟩) hS (by omega) (by omega) dX4_same_28
set_option maxHeartbeats 4000000 in
set_option maxRecDepth 100000 in
/-- hash(k) -/
theorem metX4_hash (l : Launch) (D : va_G) (k : fr_k) (A : Nat → Prop) (sz : Nat) (L : List Nat) (f : Nat → va_E) (x made : Nat) (mz : Nat → Int64) (N : Nat → Nat) (Z : Nat → Nat → Int64) (hd : fr_Mod k L f x made mz N Z) (kx : Int32) (j : Nat) (hj : j < 4) (ej : kx &&& 3 = nI j) : Met l yX4_hash (ws_ yX4_hash cX4_hash 8 (some .int)) (fr_rm 4 0 0) (fr_W D k A [.ref x, .int kx] sz L f) (fr_Qi D A (fun L1 f1 r0 => r0 = (fr_hs (Z j) (N j)) ∧ fr_Mod k L1 f1 x made mz N Z)) 0 0 A := by
  refine Met.ofW (cc := cX4_hash) (maxL := 8) (ret := (some .int)) (by decide) rfl ?_
  intro p e s m args below meth c s₁ B hml hv
  obtain ⟨rfl, ⟨hsz, hI⟩, hK⟩ := hv
  have hx := B.exec
  have hb := B.bytes
  have hr := B.returns
  have hts := atoms_spec (ws := ws_ yX4_hash cX4_hash 8 (some .int)) B.pre
  have hts : ∀ w ∈ lw_all, w.before _ s = true := fun w h => hts w (List.mem_cons_of_mem _ h)
  have hown : s.vm.findClass RX4 = some m.cls := findClass_of_methodNamed B.named
  have hlocks := B.notSynchronized
  subst hsz
  have hS : va_S A s.heap s.heap [] := va_S.rf
  have hl := lv_entry ([.ref x, .int kx]) (n := 8) (Nat.le_of_ble_eq_true rfl)
  rw [lg_entry_eq]
  generalize (lg_sl ([.ref x, .int kx]) ++ List.replicate (8 - (lg_sl ([.ref x, .int kx])).length) Slot.unset).toArray = ls at hl ⊢
  have hl : lv_has ls 8 [(0, .ref x), (1, .int kx)] := hl
  obtain ⟨mm, rw, v, g, m_x, v_x, m_mm, v_mm, h3, h4, m_rw, v_rw, h5⟩ := id hd
  obtain ⟨b, hg, hN, hbm, w, m_b, v_b, hz⟩ := h5 j hj
  refine lv_iconst (v := 1) hx hb dX4_hash_0 (by decide) ?_
  refine lv_istore_n (lv' := [(2, .int 1), (0, .ref x), (1, .int kx)]) hx hb dX4_hash_1 rfl hl (by decide) rfl (fun ls hl => ?_)
  refine lv_aload_n hx hb dX4_hash_2 rfl (lv_at hl 1 rfl) ?_
  refine fr_get (C := RX4) (T := TX4) (N := 3) (ci := 3) (v := .ref rw) hx hb hts in_X4 hown hK (hI.in m_x v_x) rfl 2 (by decide) q380 rfl dX4_hash_3 ?_
  refine lv_iload_n hx hb dX4_hash_6 rfl (lv_at hl 2 rfl) ?_
  refine lv_iconst (v := 3) hx hb dX4_hash_7 (by decide) ?_
  refine lv_iand hx hb dX4_hash_8 ?_
  refine fr_aldg (j := j) (n := 4) (g := g) (z := b) hx hb hK (hI.in m_rw v_rw) (ej) (hj) (by decide) (hg) dX4_hash_9 ?_
  refine lv_astore_n (lv' := [(3, .ref b), (2, .int 1), (0, .ref x), (1, .int kx)]) hx hb dX4_hash_10 rfl hl (by decide) rfl (fun ls hl => ?_)
  refine lv_aload_n hx hb dX4_hash_11 rfl (lv_at hl 0 rfl) ?_
  refine fr_alen (n := (N j)) hx hb hK (hI.in m_b v_b) dX4_hash_12 ?_
  refine lv_istore (lv' := [(4, .int (nI (N j))), (3, .ref b), (2, .int 1), (0, .ref x), (1, .int kx)]) hx hb dX4_hash_13 hl (by decide) rfl (fun ls hl => ?_)
  refine lv_iconst (v := 0) hx hb dX4_hash_15 (by decide) ?_
  refine lv_istore (lv' := [(5, .int 0), (4, .int (nI (N j))), (3, .ref b), (2, .int 1), (0, .ref x), (1, .int kx)]) hx hb dX4_hash_16 hl (by decide) rfl (fun ls hl => ?_)
  suffices loop : ∀ (d i : Nat), i + d = N j → ∀ ls : Array Slot, lv_has ls 8 [(0, .ref x), (2, .int (fr_hs (Z j) i)), (3, .ref b), (4, .int (nI (N j))), (5, .int (nI i))] → W p l e (headSpec (ws_ yX4_hash cX4_hash 8 (some .int)) (fr_rm 4 0 0)).room s m ([.ref x, .int kx] : List Value).toArray below meth c s.heap [] 0 0 (MQ below (fr_Qi D A (fun L1 f1 r0 => r0 = (fr_hs (Z j) (N j)) ∧ fr_Mod k L1 f1 x made mz N Z)) ([.ref x, .int kx] : List Value).toArray s 0 0 A) (F0 m 18 ls []) from loop (N j) 0 (by omega) ls (lv_sub hl [4, 3, 2, 1, 0] rfl)
  intro d
  induction d with
  | zero =>
    intro i hi ls hl
    refine lv_iload hx hb dX4_hash_18 (lv_at hl 4 rfl) ?_
    refine lv_iload hx hb dX4_hash_20 (lv_at hl 3 rfl) ?_
    refine lv_icmp_ge (tgt := 52) hx hb dX4_hash_22 (by decide) (fun _ => ?_) (fun c_9 => absurd (show (nI (N j)) ≤ (nI i) from nI_le (by omega) (by omega)) c_9)
    refine lv_iload_n hx hb dX4_hash_52 rfl (lv_at hl 1 rfl) ?_
    exact fr_iret hx hb hr hlocks hI (⟨by rw [show i = N j by omega], hd⟩) hS (by omega) (by omega) dX4_hash_53
  | succ d ih =>
    intro i hi ls hl
    refine lv_iload hx hb dX4_hash_18 (lv_at hl 4 rfl) ?_
    refine lv_iload hx hb dX4_hash_20 (lv_at hl 3 rfl) ?_
    refine lv_icmp_ge (tgt := 52) hx hb dX4_hash_22 (by decide) (fun c_9 => absurd c_9 (show ¬ (nI (N j)) ≤ (nI i) from nI_ge (by omega) (by omega))) (fun _ => ?_)
    refine lv_aload_n hx hb dX4_hash_25 rfl (lv_at hl 2 rfl) ?_
    refine lv_iload hx hb dX4_hash_26 (lv_at hl 4 rfl) ?_
    refine fr_lald (j := i) (n := (N j)) (v := w) hx hb hK (hI.in m_b v_b) (rfl) (by omega) (by omega) dX4_hash_28 ?_
    refine fr_topl (show (w i) = Z j i from hz i (by omega)) ?_
    refine lv_lstore (lv' := [(6, .long (Z j i)), (0, .ref x), (2, .int (fr_hs (Z j) i)), (3, .ref b), (4, .int (nI (N j))), (5, .int (nI i))]) hx hb dX4_hash_29 hl (by decide) rfl (fun ls hl => ?_)
    refine lv_bipush (v := 31) hx hb dX4_hash_31 (by decide) ?_
    refine lv_iload_n hx hb dX4_hash_33 rfl (lv_at hl 2 rfl) ?_
    refine lv_imul hx hb dX4_hash_34 ?_
    refine lv_lload hx hb dX4_hash_35 (lv_at hl 0 rfl) ?_
    refine lv_lload hx hb dX4_hash_37 (lv_at hl 0 rfl) ?_
    refine lv_bipush (v := 32) hx hb dX4_hash_39 (by decide) ?_
    refine lv_lushr (v := ((Z j i).toUInt64 >>> ((32 : Int32).toInt64.toUInt64 &&& Int64.toUInt64 63)).toInt64) hx hb dX4_hash_41 (rfl) ?_
    refine lv_lxor hx hb dX4_hash_42 ?_
    refine lv_l2i (v := ((Z j i) ^^^ (((Z j i).toUInt64 >>> ((32 : Int32).toInt64.toUInt64 &&& Int64.toUInt64 63)).toInt64)).toInt32) hx hb dX4_hash_43 rfl ?_
    refine lv_iadd hx hb dX4_hash_44 ?_
    refine fr_topi (show ((31 * (fr_hs (Z j) i)) + (((Z j i) ^^^ (((Z j i).toUInt64 >>> ((32 : Int32).toInt64.toUInt64 &&& Int64.toUInt64 63)).toInt64)).toInt32)) = fr_hs (Z j) (i + 1) from by rw [Int32.mul_comm]; rfl) ?_
    refine lv_istore_n (lv' := [(2, .int (fr_hs (Z j) (i + 1))), (6, .long (Z j i)), (0, .ref x), (3, .ref b), (4, .int (nI (N j))), (5, .int (nI i))]) hx hb dX4_hash_45 rfl hl (by decide) rfl (fun ls hl => ?_)
    refine lv_iinc (v := nI (i + 1)) (lv' := [(5, .int (nI (i + 1))), (2, .int (fr_hs (Z j) (i + 1))), (6, .long (Z j i)), (0, .ref x), (3, .ref b), (4, .int (nI (N j)))]) hx hb dX4_hash_46 hl (k := 5) rfl (show (nI i) + Int32.ofInt 1 = nI (i + 1) from nI_1 i) (by decide) rfl (fun ls hl => ?_)
    refine lv_goto (tgt := 18) hx hb dX4_hash_49 (by decide) ?_
    exact ih (i + 1) (by omega) ls (lv_sub hl [3, 1, 4, 5, 0] rfl)
set_option maxHeartbeats 4000000 in
set_option maxRecDepth 100000 in
/-- whole(k) -/
theorem metX4_whole (l : Launch) (D : va_G) (k : fr_k) (A : Nat → Prop) (sz : Nat) (L : List Nat) (f : Nat → va_E) (x made : Nat) (mz : Nat → Int64) (N : Nat → Nat) (Z : Nat → Nat → Int64) (hd : fr_Mod k L f x made mz N Z) (kx : Int32) (j : Nat) (hj : j < 4) (ej : kx &&& 3 = nI j) : Met l yX4_whole (ws_ yX4_whole cX4_whole 9 (some .long)) (fr_rm 4 0 0) (fr_W D k A [.ref x, .int kx] sz L f) (fr_Ql D A (fun L1 f1 r0 => r0 = (fr_wh (Z j) (N j)) ∧ fr_Mod k L1 f1 x made mz N Z)) 0 0 A := by
  refine Met.ofW (cc := cX4_whole) (maxL := 9) (ret := (some .long)) (by decide) rfl ?_
  intro p e s m args below meth c s₁ B hml hv
  obtain ⟨rfl, ⟨hsz, hI⟩, hK⟩ := hv
  have hx := B.exec
  have hb := B.bytes
  have hr := B.returns
  have hts := atoms_spec (ws := ws_ yX4_whole cX4_whole 9 (some .long)) B.pre
  have hts : ∀ w ∈ lw_all, w.before _ s = true := fun w h => hts w (List.mem_cons_of_mem _ h)
  have hown : s.vm.findClass RX4 = some m.cls := findClass_of_methodNamed B.named
  have hlocks := B.notSynchronized
  subst hsz
  have hS : va_S A s.heap s.heap [] := va_S.rf
  have hl := lv_entry ([.ref x, .int kx]) (n := 9) (Nat.le_of_ble_eq_true rfl)
  rw [lg_entry_eq]
  generalize (lg_sl ([.ref x, .int kx]) ++ List.replicate (9 - (lg_sl ([.ref x, .int kx])).length) Slot.unset).toArray = ls at hl ⊢
  have hl : lv_has ls 9 [(0, .ref x), (1, .int kx)] := hl
  obtain ⟨mm, rw, v, g, m_x, v_x, m_mm, v_mm, h3, h4, m_rw, v_rw, h5⟩ := id hd
  obtain ⟨b, hg, hN, hbm, w, m_b, v_b, hz⟩ := h5 j hj
  refine lv_lconst (v := 0) hx hb dX4_whole_0 (by decide) ?_
  refine lv_lstore_n (lv' := [(2, .long 0), (0, .ref x), (1, .int kx)]) hx hb dX4_whole_1 rfl hl (by decide) rfl (fun ls hl => ?_)
  refine lv_aload_n hx hb dX4_whole_2 rfl (lv_at hl 1 rfl) ?_
  refine fr_get (C := RX4) (T := TX4) (N := 3) (ci := 3) (v := .ref rw) hx hb hts in_X4 hown hK (hI.in m_x v_x) rfl 2 (by decide) q380 rfl dX4_whole_3 ?_
  refine lv_iload_n hx hb dX4_whole_6 rfl (lv_at hl 2 rfl) ?_
  refine lv_iconst (v := 3) hx hb dX4_whole_7 (by decide) ?_
  refine lv_iand hx hb dX4_whole_8 ?_
  refine fr_aldg (j := j) (n := 4) (g := g) (z := b) hx hb hK (hI.in m_rw v_rw) (ej) (hj) (by decide) (hg) dX4_whole_9 ?_
  refine lv_astore (lv' := [(4, .ref b), (2, .long 0), (0, .ref x), (1, .int kx)]) hx hb dX4_whole_10 hl (by decide) rfl (fun ls hl => ?_)
  refine lv_aload hx hb dX4_whole_12 (lv_at hl 0 rfl) ?_
  refine fr_alen (n := (N j)) hx hb hK (hI.in m_b v_b) dX4_whole_14 ?_
  refine lv_istore (lv' := [(5, .int (nI (N j))), (4, .ref b), (2, .long 0), (0, .ref x), (1, .int kx)]) hx hb dX4_whole_15 hl (by decide) rfl (fun ls hl => ?_)
  refine lv_iconst (v := 0) hx hb dX4_whole_17 (by decide) ?_
  refine lv_istore (lv' := [(6, .int 0), (5, .int (nI (N j))), (4, .ref b), (2, .long 0), (0, .ref x), (1, .int kx)]) hx hb dX4_whole_18 hl (by decide) rfl (fun ls hl => ?_)
  suffices loop : ∀ (d i : Nat), i + d = N j → ∀ ls : Array Slot, lv_has ls 9 [(0, .ref x), (2, .long (fr_wh (Z j) i)), (4, .ref b), (5, .int (nI (N j))), (6, .int (nI i))] → W p l e (headSpec (ws_ yX4_whole cX4_whole 9 (some .long)) (fr_rm 4 0 0)).room s m ([.ref x, .int kx] : List Value).toArray below meth c s.heap [] 0 0 (MQ below (fr_Ql D A (fun L1 f1 r0 => r0 = (fr_wh (Z j) (N j)) ∧ fr_Mod k L1 f1 x made mz N Z)) ([.ref x, .int kx] : List Value).toArray s 0 0 A) (F0 m 20 ls []) from loop (N j) 0 (by omega) ls (lv_sub hl [4, 3, 2, 1, 0] rfl)
  intro d
  induction d with
  | zero =>
    intro i hi ls hl
    refine lv_iload hx hb dX4_whole_20 (lv_at hl 4 rfl) ?_
    refine lv_iload hx hb dX4_whole_22 (lv_at hl 3 rfl) ?_
    refine lv_icmp_ge (tgt := 49) hx hb dX4_whole_24 (by decide) (fun _ => ?_) (fun c_9 => absurd (show (nI (N j)) ≤ (nI i) from nI_le (by omega) (by omega)) c_9)
    refine lv_lload_n hx hb dX4_whole_49 rfl (lv_at hl 1 rfl) ?_
    exact fr_lret hx hb hr hlocks hI (⟨by rw [show i = N j by omega], hd⟩) hS (by omega) (by omega) dX4_whole_50
  | succ d ih =>
    intro i hi ls hl
    refine lv_iload hx hb dX4_whole_20 (lv_at hl 4 rfl) ?_
    refine lv_iload hx hb dX4_whole_22 (lv_at hl 3 rfl) ?_
    refine lv_icmp_ge (tgt := 49) hx hb dX4_whole_24 (by decide) (fun c_9 => absurd c_9 (show ¬ (nI (N j)) ≤ (nI i) from nI_ge (by omega) (by omega))) (fun _ => ?_)
    refine lv_aload hx hb dX4_whole_27 (lv_at hl 2 rfl) ?_
    refine lv_iload hx hb dX4_whole_29 (lv_at hl 4 rfl) ?_
    refine fr_lald (j := i) (n := (N j)) (v := w) hx hb hK (hI.in m_b v_b) (rfl) (by omega) (by omega) dX4_whole_31 ?_
    refine fr_topl (show (w i) = Z j i from hz i (by omega)) ?_
    refine lv_lstore (lv' := [(7, .long (Z j i)), (0, .ref x), (2, .long (fr_wh (Z j) i)), (4, .ref b), (5, .int (nI (N j))), (6, .int (nI i))]) hx hb dX4_whole_32 hl (by decide) rfl (fun ls hl => ?_)
    refine lv_ldc2 (v := 31) hx hb hown (hts _ q453) dX4_whole_34 ?_
    refine lv_lload_n hx hb dX4_whole_37 rfl (lv_at hl 2 rfl) ?_
    refine lv_lmul hx hb dX4_whole_38 ?_
    refine lv_lload hx hb dX4_whole_39 (lv_at hl 0 rfl) ?_
    refine lv_ladd hx hb dX4_whole_41 ?_
    refine fr_topl (show ((31 * (fr_wh (Z j) i)) + (Z j i)) = fr_wh (Z j) (i + 1) from by rw [Int64.mul_comm]; rfl) ?_
    refine lv_lstore_n (lv' := [(2, .long (fr_wh (Z j) (i + 1))), (7, .long (Z j i)), (0, .ref x), (4, .ref b), (5, .int (nI (N j))), (6, .int (nI i))]) hx hb dX4_whole_42 rfl hl (by decide) rfl (fun ls hl => ?_)
    refine lv_iinc (v := nI (i + 1)) (lv' := [(6, .int (nI (i + 1))), (2, .long (fr_wh (Z j) (i + 1))), (7, .long (Z j i)), (0, .ref x), (4, .ref b), (5, .int (nI (N j)))]) hx hb dX4_whole_43 hl (k := 5) rfl (show (nI i) + Int32.ofInt 1 = nI (i + 1) from nI_1 i) (by decide) rfl (fun ls hl => ?_)
    refine lv_goto (tgt := 20) hx hb dX4_whole_46 (by decide) ?_
    exact ih (i + 1) (by omega) ls (lv_sub hl [3, 1, 4, 5, 0] rfl)
end
section
set_option maxRecDepth 100000
set_option maxHeartbeats 4000000 in
set_option maxRecDepth 100000 in
/-- cut(row, from, n) -/
theorem metX4_cut (l : Launch) (D : va_G) (k : fr_k) (A : Nat → Prop) (sz : Nat) (L : List Nat) (f : Nat → va_E) (a st n cap : Nat) (v : Nat → Int64) (h1 : st + n ≤ cap) (h2 : cap ≤ 200) (m_a : a ∈ L) (v_a : f a = fL k cap v) (hA : ∀ q, sz ≤ q → A q) : Met l yX4_cut (ws_ yX4_cut cX4_cut 5 (some (.array .long))) (fr_rm 0 1 200) (fr_W D k A [.ref a, .int (nI st), .int (nI n)] sz L f) (fr_Qr D A (fun L1 f1 q => fr_NewL k L f L1 f1 q n n (fun t => v (st + t)))) 1 200 A := by
  refine Met.ofW (cc := cX4_cut) (maxL := 5) (ret := (some (.array .long))) (by decide) rfl ?_
  intro p e s m args below meth c s₁ B hml hv
  obtain ⟨rfl, ⟨hsz, hI⟩, hK⟩ := hv
  have hx := B.exec
  have hb := B.bytes
  have hr := B.returns
  have hts := atoms_spec (ws := ws_ yX4_cut cX4_cut 5 (some (.array .long))) B.pre
  have hts : ∀ w ∈ lw_all, w.before _ s = true := fun w h => hts w (List.mem_cons_of_mem _ h)
  have hown : s.vm.findClass RX4 = some m.cls := findClass_of_methodNamed B.named
  have hlocks := B.notSynchronized
  subst hsz
  have hS : va_S A s.heap s.heap [] := va_S.rf
  have hl := lv_entry ([.ref a, .int (nI st), .int (nI n)]) (n := 5) (Nat.le_of_ble_eq_true rfl)
  rw [lg_entry_eq]
  generalize (lg_sl ([.ref a, .int (nI st), .int (nI n)]) ++ List.replicate (5 - (lg_sl ([.ref a, .int (nI st), .int (nI n)])).length) Slot.unset).toArray = ls at hl ⊢
  have hl : lv_has ls 5 [(0, .ref a), (1, .int (nI st)), (2, .int (nI n))] := hl
  refine lv_iload_n hx hb dX4_cut_0 rfl (lv_at hl 2 rfl) ?_
  refine fr_newl (N := n) hx hb hts hK hI hS hA (rfl) (by omega) (Nat.le_of_ble_eq_true rfl) (by show 0 + n ≤ 200; omega) dX4_cut_1 (fun q H L_1 f_1 q_1 m_q v_q x_1 hI hS => ?_)
  have p_a_q := fr_neq m_a q_1
  have v_a := x_1.v m_a v_a
  have m_a := x_1.m m_a
  refine W.widen (k := 1) (n := 200) (by omega) (by omega) ?_
  refine lv_astore_n (lv' := [(3, .ref q), (0, .ref a), (1, .int (nI st)), (2, .int (nI n))]) hx hb dX4_cut_3 rfl hl (by decide) rfl (fun ls hl => ?_)
  refine lv_iconst (v := 0) hx hb dX4_cut_4 (by decide) ?_
  refine lv_istore (lv' := [(4, .int 0), (3, .ref q), (0, .ref a), (1, .int (nI st)), (2, .int (nI n))]) hx hb dX4_cut_5 hl (by decide) rfl (fun ls hl => ?_)
  suffices loop : ∀ (d i : Nat), i + d = n → ∀ (H : Heap) (locs : List Loc) (f2 : Nat → va_E) (vq : Nat → Int64), wI D A L_1 f2 H → va_S A s.heap H locs → f2 q = fL k n vq → (∀ b, b ≠ q → f2 b = f_1 b) → (∀ t, t < i → vq t = v (st + t)) → ∀ ls : Array Slot, lv_has ls 5 [(0, .ref a), (1, .int (nI st)), (2, .int (nI n)), (3, .ref q), (4, .int (nI i))] → W p l e (headSpec (ws_ yX4_cut cX4_cut 5 (some (.array .long))) (fr_rm 0 1 200)).room s m ([.ref a, .int (nI st), .int (nI n)] : List Value).toArray below meth c H locs 1 200 (MQ below (fr_Qr D A (fun L1 f1 q => fr_NewL k L f L1 f1 q n n (fun t => v (st + t)))) ([.ref a, .int (nI st), .int (nI n)] : List Value).toArray s 1 200 A) (F0 m 7 ls []) from loop n 0 (by omega) H [] f_1 _ hI hS v_q (fun _ _ => rfl) (fun t ht => absurd ht (by omega)) ls (lv_sub hl [2, 3, 4, 1, 0] rfl)
  clear hI hS hl
  intro d
  induction d with
  | zero =>
    intro i hi H locs f2 vq hI hS v_q oq hvq ls hl
    have v_a : f2 a = fL k cap v := (oq a p_a_q).trans v_a
    refine lv_iload hx hb dX4_cut_7 (lv_at hl 4 rfl) ?_
    refine lv_iload_n hx hb dX4_cut_9 rfl (lv_at hl 2 rfl) ?_
    refine lv_icmp_ge (tgt := 29) hx hb dX4_cut_10 (by decide) (fun _ => ?_) (fun c_9 => absurd (show (nI n) ≤ (nI i) from nI_le (by omega) (by omega)) c_9)
    refine lv_aload_n hx hb dX4_cut_29 rfl (lv_at hl 3 rfl) ?_
    exact fr_aret hx hb hr (Or.inr ⟨_, rfl⟩) hlocks hI (⟨fun b hb => ⟨x_1.m hb, (oq b (fr_neq hb q_1)).trans (x_1 b hb).2⟩, q_1, m_q, vq, v_q, fun t ht => hvq t (by omega)⟩) hS (by omega) (by omega) dX4_cut_30
  | succ d ih =>
    intro i hi H locs f2 vq hI hS v_q oq hvq ls hl
    have v_a : f2 a = fL k cap v := (oq a p_a_q).trans v_a
    refine lv_iload hx hb dX4_cut_7 (lv_at hl 4 rfl) ?_
    refine lv_iload_n hx hb dX4_cut_9 rfl (lv_at hl 2 rfl) ?_
    refine lv_icmp_ge (tgt := 29) hx hb dX4_cut_10 (by decide) (fun c_9 => absurd c_9 (show ¬ (nI n) ≤ (nI i) from nI_ge (by omega) (by omega))) (fun _ => ?_)
    refine lv_aload_n hx hb dX4_cut_13 rfl (lv_at hl 3 rfl) ?_
    refine lv_iload hx hb dX4_cut_14 (lv_at hl 4 rfl) ?_
    refine lv_aload_n hx hb dX4_cut_16 rfl (lv_at hl 0 rfl) ?_
    refine lv_iload_n hx hb dX4_cut_17 rfl (lv_at hl 1 rfl) ?_
    refine lv_iload hx hb dX4_cut_18 (lv_at hl 4 rfl) ?_
    refine lv_iadd hx hb dX4_cut_20 ?_
    refine fr_topi (show ((nI st) + (nI i)) = nI (st + i) from nI_add st i) ?_
    refine fr_lald (j := (st + i)) (n := cap) (v := v) hx hb hK (hI.in m_a v_a) (rfl) (by omega) (by omega) dX4_cut_21 ?_
    refine fr_last (j := i) (n := n) (v := vq) (x := (v (st + i))) hx hb hK hI hS m_q v_q (rfl) (by omega) (by omega) dX4_cut_22 (fun H locs f_2 e_2 o_2 hI hS => ?_)
    have v_a : f_2 a = fL k cap v := (o_2 _ (p_a_q)).trans v_a
    have v_q : f_2 q = fL k n (vp_updL vq i (v (st + i))) := e_2
    refine lv_iinc (v := nI (i + 1)) (lv' := [(4, .int (nI (i + 1))), (0, .ref a), (1, .int (nI st)), (2, .int (nI n)), (3, .ref q)]) hx hb dX4_cut_23 hl (k := 4) rfl (show (nI i) + Int32.ofInt 1 = nI (i + 1) from nI_1 i) (by decide) rfl (fun ls hl => ?_)
    refine lv_goto (tgt := 7) hx hb dX4_cut_26 (by decide) ?_
    exact ih (i + 1) (by omega) H locs f_2 _ hI hS v_q (fun b hb => (o_2 b hb).trans (oq b hb)) (fun t ht => by
      by_cases c : t = i
      · rw [c]; exact pk_uLs
      · rw [pk_uLn c]; exact hvq t (by omega)) ls (lv_sub hl [1, 2, 3, 4, 0] rfl)
set_option maxHeartbeats 4000000 in
set_option maxRecDepth 100000 in
/-- add(hi, lo) -/
theorem metX4_add (l : Launch) (D : va_G) (k : fr_k) (A : Nat → Prop) (sz : Nat) (L : List Nat) (f : Nat → va_E) (x made : Nat) (mz : Nat → Int64) (N : Nat → Nat) (Z : Nat → Nat → Int64) (hd : fr_Mod k L f x made mz N Z) (hi lo : Int32) : Met l yX4_add (ws_ yX4_add cX4_add 3 (some .boolean)) (fr_rm 4 0 0) (fr_W D k A [.ref x, .int hi, .int lo] sz L f) (fr_Qi D A (fun L1 f1 r0 => r0 = (fr_fit (made + 1)) ∧ fr_Mod k L1 f1 x (fr_mk made 1) (fr_ap made mz (fun _ => fr_J hi lo)) N Z)) 0 0 A := by
  refine Met.ofW (cc := cX4_add) (maxL := 3) (ret := (some .boolean)) (by decide) rfl ?_
  intro p e s m args below meth c s₁ B hml hv
  obtain ⟨rfl, ⟨hsz, hI⟩, hK⟩ := hv
  have hx := B.exec
  have hb := B.bytes
  have hr := B.returns
  have hts := atoms_spec (ws := ws_ yX4_add cX4_add 3 (some .boolean)) B.pre
  have hts : ∀ w ∈ lw_all, w.before _ s = true := fun w h => hts w (List.mem_cons_of_mem _ h)
  have hown : s.vm.findClass RX4 = some m.cls := findClass_of_methodNamed B.named
  have hlocks := B.notSynchronized
  subst hsz
  have hS : va_S A s.heap s.heap [] := va_S.rf
  have hl := lv_entry ([.ref x, .int hi, .int lo]) (n := 3) (Nat.le_of_ble_eq_true rfl)
  rw [lg_entry_eq]
  generalize (lg_sl ([.ref x, .int hi, .int lo]) ++ List.replicate (3 - (lg_sl ([.ref x, .int hi, .int lo])).length) Slot.unset).toArray = ls at hl ⊢
  have hl : lv_has ls 3 [(0, .ref x), (1, .int hi), (2, .int lo)] := hl
  obtain ⟨mm, rw, v, g, m_x, v_x, m_mm, v_mm, h3, h4, m_rw, v_rw, h5⟩ := id hd
  refine lv_aload_n hx hb dX4_add_0 rfl (lv_at hl 0 rfl) ?_
  refine fr_get (C := RX4) (T := TX4) (N := 3) (ci := 3) (v := .int (nI made)) hx hb hts in_X4 hown hK (hI.in m_x v_x) rfl 1 (by decide) q379 rfl dX4_add_1 ?_
  refine lv_bipush (v := 96) hx hb dX4_add_4 (by decide) ?_
  refine lv_icmp_ne (tgt := 11) hx hb dX4_add_6 (by decide) (fun c_1 => ?_) (fun c_1 => ?_)
  · have hc : made < 96 := by
      rcases Nat.lt_or_ge made 96 with h | h
      · exact h
      · exact absurd (by rw [show made = 96 by omega]; rfl) c_1
    have hf : fr_fit (made + 1) = 1 := if_pos (by omega)
    have hm : fr_mk made 1 = made + 1 := if_pos (by omega)
    refine lv_aload_n hx hb dX4_add_11 rfl (lv_at hl 0 rfl) ?_
    refine fr_get (C := RX4) (T := TX4) (N := 3) (ci := 3) (v := .ref mm) hx hb hts in_X4 hown hK (hI.in m_x v_x) rfl 0 (by decide) q378 rfl dX4_add_12 ?_
    refine lv_aload_n hx hb dX4_add_15 rfl (lv_at hl 0 rfl) ?_
    refine fr_get (C := RX4) (T := TX4) (N := 3) (ci := 3) (v := .int (nI made)) hx hb hts in_X4 hown hK (hI.in m_x v_x) rfl 1 (by decide) q379 rfl dX4_add_16 ?_
    refine lv_iload_n hx hb dX4_add_19 rfl (lv_at hl 1 rfl) ?_
    refine lv_iload_n hx hb dX4_add_20 rfl (lv_at hl 2 rfl) ?_
    refine fr_rS (As := [.int hi, .int lo]) (rest := [.int (nI made), .ref mm]) ⟨hx, hb, hml, hown, hts⟩ (metX4_joined l D k hi lo) (va_cwS 2 hts (lw_S q392 q393 q12 q394) rfl rfl rfl (by decide +kernel) ⟨Nat.le_of_ble_eq_true rfl, Nat.le_of_ble_eq_true rfl⟩) hK (fr_nil) rfl hl.1 rfl (Nat.le_of_ble_eq_true rfl) dX4_add_21 ⟨Nat.zero_le _, Nat.zero_le _⟩ ?_
    have v0_x := v_x
    have v0_mm := v_mm
    refine fr_last (j := made) (n := 96) (v := v) (x := (fr_J hi lo)) hx hb hK hI hS m_mm v_mm (rfl) (hc) (by decide) dX4_add_24 (fun H locs f_1 e_1 o_1 hI hS => ?_)
    have v_x : f_1 x = fO 3 [.ref mm, .int (nI made), .ref rw] := (o_1 _ (fr_ne v_x v_mm (by simp))).trans v_x
    have v_rw : f_1 rw = fG k 4 g := (o_1 _ (fr_ne v_rw v_mm (by simp))).trans v_rw
    have v_mm : f_1 mm = fL k 96 (vp_updL v made (fr_J hi lo)) := e_1
    refine lv_aload_n hx hb dX4_add_25 rfl (lv_at hl 0 rfl) ?_
    refine lv_dup hx hb dX4_add_26 rfl ?_
    refine fr_get (C := RX4) (T := TX4) (N := 3) (ci := 3) (v := .int (nI made)) hx hb hts in_X4 hown hK (hI.in m_x v_x) rfl 1 (by decide) q379 rfl dX4_add_27 ?_
    refine lv_iconst (v := 1) hx hb dX4_add_30 (by decide) ?_
    refine lv_iadd hx hb dX4_add_31 ?_
    refine fr_topi (show ((nI made) + 1) = nI (made + 1) from nI_1 made) ?_
    refine fr_put (C := RX4) (T := TX4) (N := 3) (ci := 3) (v := .int (nI (made + 1))) hx hb hts in_X4 tyX4 tyX4_ok nmX4 hown hK hI hS m_x v_x rfl 1 (by decide) q379 rfl rfl rfl (Nat.le_of_ble_eq_true rfl) dX4_add_32 (fun H locs f_2 e_2 o_2 hI hS => ?_)
    have v_mm : f_2 mm = fL k 96 (vp_updL v made (fr_J hi lo)) := (o_2 _ (fr_ne v_mm v_x (by simp))).trans v_mm
    have v_rw : f_2 rw = fG k 4 g := (o_2 _ (fr_ne v_rw v_x (by simp))).trans v_rw
    have v_x : f_2 x = fO 3 [.ref mm, .int (nI (made + 1)), .ref rw] := e_2
    refine lv_iconst (v := 1) hx hb dX4_add_35 (by decide) ?_
    exact fr_zret hx hb hr hlocks (Or.inr rfl) hI (⟨hf.symm, by
        rw [hm]
        refine ⟨mm, rw, _, g, m_x, v_x, m_mm, v_mm, by omega, fun t ht => by
          by_cases c : t < made
          · rw [fr_ap_lo c, pk_uLn (by omega)]; exact h4 t c
          · rw [show t = made + 0 by omega, fr_ap_hi]; exact pk_uLs, m_rw, v_rw, fun j hj => ?_⟩
        obtain ⟨b, g1, g2, g3, w, m_b, v_b, g4⟩ := h5 j hj
        exact ⟨b, g1, g2, g3, w, m_b, ((o_2 b (fr_ne v_b v0_x (by simp))).trans (o_1 b g3)).trans v_b, g4⟩⟩) hS (by omega) (by omega) dX4_add_36
  · have hc : made = 96 := (nI_eq (b := 96) (by omega) (by decide)).mp c_1
    have hf : fr_fit (made + 1) = 0 := if_neg (by omega)
    have hm : fr_mk made 1 = made := if_neg (by omega)
    refine lv_iconst (v := 0) hx hb dX4_add_9 (by decide) ?_
    exact fr_zret hx hb hr hlocks (Or.inl rfl) hI (⟨hf.symm, by rw [hm]; exact hd.mz (fun t ht => (fr_ap_lo ht).symm)⟩) hS (by omega) (by omega) dX4_add_10
set_option maxHeartbeats 4000000 in
set_option maxRecDepth 100000 in
/-- addRow(k) -/
theorem metX4_addRow (l : Launch) (D : va_G) (k : fr_k) (A : Nat → Prop) (sz : Nat) (L : List Nat) (f : Nat → va_E) (x made : Nat) (mz : Nat → Int64) (N : Nat → Nat) (Z : Nat → Nat → Int64) (hd : fr_Mod k L f x made mz N Z) (kx : Int32) (j : Nat) (hj : j < 4) (ej : kx &&& 3 = nI j) : Met l yX4_addRow (ws_ yX4_addRow cX4_addRow 4 (some .boolean)) (fr_rm 4 0 0) (fr_W D k A [.ref x, .int kx] sz L f) (fr_Qi D A (fun L1 f1 r0 => r0 = (fr_fit (made + N j)) ∧ fr_Mod k L1 f1 x (fr_mk made (N j)) (fr_ap made mz (Z j)) N Z)) 0 0 A := by
  refine Met.ofW (cc := cX4_addRow) (maxL := 4) (ret := (some .boolean)) (by decide) rfl ?_
  intro p e s m args below meth c s₁ B hml hv
  obtain ⟨rfl, ⟨hsz, hI⟩, hK⟩ := hv
  have hx := B.exec
  have hb := B.bytes
  have hr := B.returns
  have hts := atoms_spec (ws := ws_ yX4_addRow cX4_addRow 4 (some .boolean)) B.pre
  have hts : ∀ w ∈ lw_all, w.before _ s = true := fun w h => hts w (List.mem_cons_of_mem _ h)
  have hown : s.vm.findClass RX4 = some m.cls := findClass_of_methodNamed B.named
  have hlocks := B.notSynchronized
  subst hsz
  have hS : va_S A s.heap s.heap [] := va_S.rf
  have hl := lv_entry ([.ref x, .int kx]) (n := 4) (Nat.le_of_ble_eq_true rfl)
  rw [lg_entry_eq]
  generalize (lg_sl ([.ref x, .int kx]) ++ List.replicate (4 - (lg_sl ([.ref x, .int kx])).length) Slot.unset).toArray = ls at hl ⊢
  have hl : lv_has ls 4 [(0, .ref x), (1, .int kx)] := hl
  obtain ⟨mm, rw, v, g, m_x, v_x, m_mm, v_mm, h3, h4, m_rw, v_rw, h5⟩ := id hd
  obtain ⟨b, hg, hN, hbm, w, m_b, v_b, hz⟩ := h5 j hj
  refine lv_aload_n hx hb dX4_addRow_0 rfl (lv_at hl 0 rfl) ?_
  refine fr_get (C := RX4) (T := TX4) (N := 3) (ci := 3) (v := .ref rw) hx hb hts in_X4 hown hK (hI.in m_x v_x) rfl 2 (by decide) q380 rfl dX4_addRow_1 ?_
  refine lv_iload_n hx hb dX4_addRow_4 rfl (lv_at hl 1 rfl) ?_
  refine lv_iconst (v := 3) hx hb dX4_addRow_5 (by decide) ?_
  refine lv_iand hx hb dX4_addRow_6 ?_
  refine fr_aldg (j := j) (n := 4) (g := g) (z := b) hx hb hK (hI.in m_rw v_rw) (ej) (hj) (by decide) (hg) dX4_addRow_7 ?_
  refine lv_astore_n (lv' := [(2, .ref b), (0, .ref x), (1, .int kx)]) hx hb dX4_addRow_8 rfl hl (by decide) rfl (fun ls hl => ?_)
  refine lv_aload_n hx hb dX4_addRow_9 rfl (lv_at hl 1 rfl) ?_
  refine fr_get (C := RX4) (T := TX4) (N := 3) (ci := 3) (v := .int (nI made)) hx hb hts in_X4 hown hK (hI.in m_x v_x) rfl 1 (by decide) q379 rfl dX4_addRow_10 ?_
  refine lv_aload_n hx hb dX4_addRow_13 rfl (lv_at hl 0 rfl) ?_
  refine fr_alen (n := (N j)) hx hb hK (hI.in m_b v_b) dX4_addRow_14 ?_
  refine lv_iadd hx hb dX4_addRow_15 ?_
  refine fr_topi (show ((nI made) + (nI (N j))) = nI (made + N j) from nI_add made (N j)) ?_
  refine lv_bipush (v := 96) hx hb dX4_addRow_16 (by decide) ?_
  refine lv_icmp_le (tgt := 23) hx hb dX4_addRow_18 (by decide) (fun c_1 => ?_) (fun c_1 => ?_)
  · have hc : made + N j ≤ 96 := (nI_leI (b := 96) (by omega) (by omega)).mp c_1
    have hf : fr_fit (made + N j) = 1 := if_pos (by omega)
    have hm : fr_mk made (N j) = made + N j := if_pos (by omega)
    refine lv_iconst (v := 0) hx hb dX4_addRow_23 (by decide) ?_
    refine lv_istore_n (lv' := [(3, .int 0), (2, .ref b), (0, .ref x), (1, .int kx)]) hx hb dX4_addRow_24 rfl hl (by decide) rfl (fun ls hl => ?_)
    suffices loop : ∀ (d i : Nat), i + d = N j → ∀ (H : Heap) (locs : List Loc) (f2 : Nat → va_E) (v2 : Nat → Int64), wI D A L f2 H → va_S A s.heap H locs → f2 mm = fL k 96 v2 → (∀ q, q ≠ mm → f2 q = f q) → (∀ t, t < made → v2 t = mz t) → (∀ t, t < i → v2 (made + t) = Z j t) → ∀ ls : Array Slot, lv_has ls 4 [(0, .ref x), (2, .ref b), (3, .int (nI i))] → W p l e (headSpec (ws_ yX4_addRow cX4_addRow 4 (some .boolean)) (fr_rm 4 0 0)).room s m ([.ref x, .int kx] : List Value).toArray below meth c H locs 0 0 (MQ below (fr_Qi D A (fun L1 f1 r0 => r0 = (fr_fit (made + N j)) ∧ fr_Mod k L1 f1 x (fr_mk made (N j)) (fr_ap made mz (Z j)) N Z)) ([.ref x, .int kx] : List Value).toArray s 0 0 A) (F0 m 25 ls []) from loop (N j) 0 (by omega) s.heap [] f v hI hS v_mm (fun _ _ => rfl) h4 (fun t ht => absurd ht (by omega)) ls (lv_sub hl [2, 1, 0] rfl)
    clear hI hS hl
    intro d
    induction d with
    | zero =>
      have u_x := v_x
      have u_mm := v_mm
      have u_b := v_b
      intro i hi H locs f2 v2 hI hS w_mm oq hv1 hv2 ls hl
      have n_x : x ≠ mm := fr_ne v_x v_mm (by simp)
      have n_rw : rw ≠ mm := fr_ne v_rw v_mm (by simp)
      have v_x := (oq x n_x).trans v_x
      have v_rw := (oq rw n_rw).trans v_rw
      have v_b := (oq b hbm).trans v_b
      have v_mm := w_mm
      refine lv_iload_n hx hb dX4_addRow_25 rfl (lv_at hl 2 rfl) ?_
      refine lv_aload_n hx hb dX4_addRow_26 rfl (lv_at hl 1 rfl) ?_
      refine fr_alen (n := (N j)) hx hb hK (hI.in m_b v_b) dX4_addRow_27 ?_
      refine lv_icmp_ge (tgt := 51) hx hb dX4_addRow_28 (by decide) (fun _ => ?_) (fun c_9 => absurd (show (nI (N j)) ≤ (nI i) from nI_le (by omega) (by omega)) c_9)
      refine lv_aload_n hx hb dX4_addRow_51 rfl (lv_at hl 0 rfl) ?_
      refine lv_dup hx hb dX4_addRow_52 rfl ?_
      refine fr_get (C := RX4) (T := TX4) (N := 3) (ci := 3) (v := .int (nI made)) hx hb hts in_X4 hown hK (hI.in m_x v_x) rfl 1 (by decide) q379 rfl dX4_addRow_53 ?_
      refine lv_aload_n hx hb dX4_addRow_56 rfl (lv_at hl 1 rfl) ?_
      refine fr_alen (n := (N j)) hx hb hK (hI.in m_b v_b) dX4_addRow_57 ?_
      refine lv_iadd hx hb dX4_addRow_58 ?_
      refine fr_topi (show ((nI made) + (nI (N j))) = nI (made + N j) from nI_add made (N j)) ?_
      refine fr_put (C := RX4) (T := TX4) (N := 3) (ci := 3) (v := .int (nI (made + N j))) hx hb hts in_X4 tyX4 tyX4_ok nmX4 hown hK hI hS m_x v_x rfl 1 (by decide) q379 rfl rfl rfl (Nat.le_of_ble_eq_true rfl) dX4_addRow_59 (fun H locs f_1 e_1 o_1 hI hS => ?_)
      have v_mm : f_1 mm = fL k 96 v2 := (o_1 _ (fr_ne v_mm v_x (by simp))).trans v_mm
      have v_rw : f_1 rw = fG k 4 g := (o_1 _ (fr_ne v_rw v_x (by simp))).trans v_rw
      have v_b : f_1 b = fL k (N j) w := (o_1 _ (fr_ne v_b v_x (by simp))).trans v_b
      have v_x : f_1 x = fO 3 [.ref mm, .int (nI (made + N j)), .ref rw] := e_1
      refine lv_iconst (v := 1) hx hb dX4_addRow_62 (by decide) ?_
      exact fr_zret hx hb hr hlocks (Or.inr rfl) hI (⟨hf.symm, by
          rw [hm]
          refine ⟨mm, rw, _, g, m_x, v_x, m_mm, v_mm, by omega, fun t ht => by
            by_cases c : t < made
            · rw [fr_ap_lo c]; exact hv1 t c
            · obtain ⟨e, rfl⟩ : ∃ e, t = made + e := ⟨t - made, by omega⟩
              rw [fr_ap_hi]; exact hv2 e (by omega), m_rw, v_rw, fun j hj => ?_⟩
          obtain ⟨b, g1, g2, g3, w, m_b, v_b, g4⟩ := h5 j hj
          exact ⟨b, g1, g2, g3, w, m_b, ((o_1 b (fr_ne v_b u_x (by simp))).trans (oq b g3)).trans v_b, g4⟩⟩) hS (by omega) (by omega) dX4_addRow_63
    | succ d ih =>
      intro i hi H locs f2 v2 hI hS w_mm oq hv1 hv2 ls hl
      have n_x : x ≠ mm := fr_ne v_x v_mm (by simp)
      have n_rw : rw ≠ mm := fr_ne v_rw v_mm (by simp)
      have v_x := (oq x n_x).trans v_x
      have v_rw := (oq rw n_rw).trans v_rw
      have v_b := (oq b hbm).trans v_b
      have v_mm := w_mm
      refine lv_iload_n hx hb dX4_addRow_25 rfl (lv_at hl 2 rfl) ?_
      refine lv_aload_n hx hb dX4_addRow_26 rfl (lv_at hl 1 rfl) ?_
      refine fr_alen (n := (N j)) hx hb hK (hI.in m_b v_b) dX4_addRow_27 ?_
      refine lv_icmp_ge (tgt := 51) hx hb dX4_addRow_28 (by decide) (fun c_9 => absurd c_9 (show ¬ (nI (N j)) ≤ (nI i) from nI_ge (by omega) (by omega))) (fun _ => ?_)
      refine lv_aload_n hx hb dX4_addRow_31 rfl (lv_at hl 0 rfl) ?_
      refine fr_get (C := RX4) (T := TX4) (N := 3) (ci := 3) (v := .ref mm) hx hb hts in_X4 hown hK (hI.in m_x v_x) rfl 0 (by decide) q378 rfl dX4_addRow_32 ?_
      refine lv_aload_n hx hb dX4_addRow_35 rfl (lv_at hl 0 rfl) ?_
      refine fr_get (C := RX4) (T := TX4) (N := 3) (ci := 3) (v := .int (nI made)) hx hb hts in_X4 hown hK (hI.in m_x v_x) rfl 1 (by decide) q379 rfl dX4_addRow_36 ?_
      refine lv_iload_n hx hb dX4_addRow_39 rfl (lv_at hl 2 rfl) ?_
      refine lv_iadd hx hb dX4_addRow_40 ?_
      refine fr_topi (show ((nI made) + (nI i)) = nI (made + i) from nI_add made i) ?_
      refine lv_aload_n hx hb dX4_addRow_41 rfl (lv_at hl 1 rfl) ?_
      refine lv_iload_n hx hb dX4_addRow_42 rfl (lv_at hl 2 rfl) ?_
      refine fr_lald (j := i) (n := (N j)) (v := w) hx hb hK (hI.in m_b v_b) (rfl) (by omega) (by omega) dX4_addRow_43 ?_
      refine fr_topl (show (w i) = Z j i from hz i (by omega)) ?_
      refine fr_last (j := (made + i)) (n := 96) (v := v2) (x := (Z j i)) hx hb hK hI hS m_mm v_mm (rfl) (by omega) (by decide) dX4_addRow_44 (fun H locs f_1 e_1 o_1 hI hS => ?_)
      have v_x : f_1 x = fO 3 [.ref mm, .int (nI made), .ref rw] := (o_1 _ (fr_ne v_x v_mm (by simp))).trans v_x
      have v_rw : f_1 rw = fG k 4 g := (o_1 _ (fr_ne v_rw v_mm (by simp))).trans v_rw
      have v_b : f_1 b = fL k (N j) w := (o_1 _ (hbm)).trans v_b
      have v_mm : f_1 mm = fL k 96 (vp_updL v2 (made + i) (Z j i)) := e_1
      refine lv_iinc (v := nI (i + 1)) (lv' := [(3, .int (nI (i + 1))), (0, .ref x), (2, .ref b)]) hx hb dX4_addRow_45 hl (k := 2) rfl (show (nI i) + Int32.ofInt 1 = nI (i + 1) from nI_1 i) (by decide) rfl (fun ls hl => ?_)
      refine lv_goto (tgt := 25) hx hb dX4_addRow_48 (by decide) ?_
      exact ih (i + 1) (by omega) H locs f_1 _ hI hS v_mm (fun q hq => (o_1 q hq).trans (oq q hq)) (fun t ht => by rw [pk_uLn (by omega)]; exact hv1 t ht) (fun t ht => by
        by_cases c : t = i
        · rw [c]; exact pk_uLs
        · rw [pk_uLn (by omega)]; exact hv2 t (by omega)) ls (lv_sub hl [1, 2, 0] rfl)
  · have hc : ¬ made + N j ≤ 96 := fun h => c_1 ((nI_leI (b := 96) (by omega) (by omega)).mpr h)
    have hf : fr_fit (made + N j) = 0 := if_neg (by omega)
    have hm : fr_mk made (N j) = made := if_neg (by omega)
    refine lv_iconst (v := 0) hx hb dX4_addRow_21 (by decide) ?_
    exact fr_zret hx hb hr hlocks (Or.inl rfl) hI (⟨hf.symm, by rw [hm]; exact hd.mz (fun t ht => (fr_ap_lo ht).symm)⟩) hS (by omega) (by omega) dX4_addRow_22
set_option maxHeartbeats 4000000 in
set_option maxRecDepth 100000 in
/-- build(to) -/
theorem metX4_build (l : Launch) (D : va_G) (k : fr_k) (A : Nat → Prop) (sz : Nat) (L : List Nat) (f : Nat → va_E) (x made : Nat) (mz : Nat → Int64) (N : Nat → Nat) (Z : Nat → Nat → Int64) (hd : fr_Mod k L f x made mz N Z) (kx : Int32) (j : Nat) (hj : j < 4) (ej : kx &&& 3 = nI j) (hA : ∀ q, sz ≤ q → A q) : Met l yX4_build (ws_ yX4_build cX4_build 2 (some .int)) (fr_rm 4 1 200) (fr_W D k A [.ref x, .int kx] sz L f) (fr_Qi D A (fun L1 f1 r0 => r0 = (nI made) ∧ fr_Mod k L1 f1 x made mz (va_up N j made) (va_up Z j mz))) 1 200 A := by
  refine Met.ofW (cc := cX4_build) (maxL := 2) (ret := (some .int)) (by decide) rfl ?_
  intro p e s m args below meth c s₁ B hml hv
  obtain ⟨rfl, ⟨hsz, hI⟩, hK⟩ := hv
  have hx := B.exec
  have hb := B.bytes
  have hr := B.returns
  have hts := atoms_spec (ws := ws_ yX4_build cX4_build 2 (some .int)) B.pre
  have hts : ∀ w ∈ lw_all, w.before _ s = true := fun w h => hts w (List.mem_cons_of_mem _ h)
  have hown : s.vm.findClass RX4 = some m.cls := findClass_of_methodNamed B.named
  have hlocks := B.notSynchronized
  subst hsz
  have hS : va_S A s.heap s.heap [] := va_S.rf
  have hl := lv_entry ([.ref x, .int kx]) (n := 2) (Nat.le_of_ble_eq_true rfl)
  rw [lg_entry_eq]
  generalize (lg_sl ([.ref x, .int kx]) ++ List.replicate (2 - (lg_sl ([.ref x, .int kx])).length) Slot.unset).toArray = ls at hl ⊢
  have hl : lv_has ls 2 [(0, .ref x), (1, .int kx)] := hl
  obtain ⟨mm, rw, v, g, m_x, v_x, m_mm, v_mm, h3, h4, m_rw, v_rw, h5⟩ := id hd
  refine lv_aload_n hx hb dX4_build_0 rfl (lv_at hl 0 rfl) ?_
  refine fr_get (C := RX4) (T := TX4) (N := 3) (ci := 3) (v := .ref rw) hx hb hts in_X4 hown hK (hI.in m_x v_x) rfl 2 (by decide) q380 rfl dX4_build_1 ?_
  refine lv_iload_n hx hb dX4_build_4 rfl (lv_at hl 1 rfl) ?_
  refine lv_iconst (v := 3) hx hb dX4_build_5 (by decide) ?_
  refine lv_iand hx hb dX4_build_6 ?_
  refine lv_aload_n hx hb dX4_build_7 rfl (lv_at hl 0 rfl) ?_
  refine fr_get (C := RX4) (T := TX4) (N := 3) (ci := 3) (v := .ref mm) hx hb hts in_X4 hown hK (hI.in m_x v_x) rfl 0 (by decide) q378 rfl dX4_build_8 ?_
  refine lv_iconst (v := 0) hx hb dX4_build_11 (by decide) ?_
  refine lv_aload_n hx hb dX4_build_12 rfl (lv_at hl 0 rfl) ?_
  refine fr_get (C := RX4) (T := TX4) (N := 3) (ci := 3) (v := .int (nI made)) hx hb hts in_X4 hown hK (hI.in m_x v_x) rfl 1 (by decide) q379 rfl dX4_build_13 ?_
  have m0_x := m_x
  have v0_x := v_x
  have m0_mm := m_mm
  have v0_mm := v_mm
  have m0_rw := m_rw
  have v0_rw := v_rw
  refine fr_cr (fr_runS (As := [.ref mm, .int 0, .int (nI made)]) (rest := [.int (kx &&& 3), .ref rw]) ⟨hx, hb, hml, hown, hts⟩ (metX4_cut l D k A s.heap.size L f mm 0 made 96 v (by omega) (by decide) m_mm v_mm (fun q h => hA q (Nat.le_trans hS.1 h))) (va_cwS 3 hts (lw_S q404 q405 q12 q406) rfl rfl rfl (by decide +kernel) ⟨Nat.le_of_ble_eq_true rfl, Nat.le_of_ble_eq_true rfl⟩) hK hI rfl hl.1 rfl (Nat.le_of_ble_eq_true rfl) dX4_build_16 ⟨Nat.le_of_ble_eq_true rfl, Nat.le_of_ble_eq_true rfl⟩) hS (fun z L_1 f_1 H locs hI hq hS => ?_)
  obtain ⟨x_1, z_1, m_z, vz, v_z, hvz⟩ := id hq
  have p_x_z := fr_neq m_x z_1
  have p_mm_z := fr_neq m_mm z_1
  have p_rw_z := fr_neq m_rw z_1
  have v_x := x_1.v m_x v_x
  have m_x := x_1.m m_x
  have v_mm := x_1.v m_mm v_mm
  have m_mm := x_1.m m_mm
  have v_rw := x_1.v m_rw v_rw
  have m_rw := x_1.m m_rw
  refine W.widen (k := 1) (n := 200) (by omega) (by omega) ?_
  refine fr_astg (j := j) (n := 4) (g := g) hx hb hK hI hS m_rw v_rw m_z v_z (ej) (hj) (by decide) dX4_build_19 (fun H locs f_2 e_2 o_2 hI hS => ?_)
  have v_x : f_2 x = fO 3 [.ref mm, .int (nI made), .ref rw] := (o_2 _ (fr_ne v_x v_rw (by simp))).trans v_x
  have v_mm : f_2 mm = fL k 96 v := (o_2 _ (fr_ne v_mm v_rw (by simp))).trans v_mm
  have v_z : f_2 z = fL k made vz := (o_2 _ (p_rw_z.symm)).trans v_z
  have v_rw : f_2 rw = fG k 4 (va_up g j (some z)) := e_2
  refine lv_aload_n hx hb dX4_build_20 rfl (lv_at hl 0 rfl) ?_
  refine fr_get (C := RX4) (T := TX4) (N := 3) (ci := 3) (v := .int (nI made)) hx hb hts in_X4 hown hK (hI.in m_x v_x) rfl 1 (by decide) q379 rfl dX4_build_21 ?_
  exact fr_iret hx hb hr hlocks hI (⟨rfl, fr_Mod.lay m0_x v0_x m0_mm v0_mm h3 h4 m0_rw v0_rw h5 (hq.congr (fun t ht => by rw [Nat.zero_add]; exact h4 t ht)) h3 v_rw o_2⟩) hS (by omega) (by omega) dX4_build_24
set_option maxHeartbeats 4000000 in
set_option maxRecDepth 100000 in
/-- part(to, k, from, n) -/
theorem metX4_part (l : Launch) (D : va_G) (k : fr_k) (A : Nat → Prop) (sz : Nat) (L : List Nat) (f : Nat → va_E) (x made : Nat) (mz : Nat → Int64) (N : Nat → Nat) (Z : Nat → Nat → Int64) (hd : fr_Mod k L f x made mz N Z) (ty kx fm cn : Int32) (i j : Nat) (hi : i < 4) (ei : ty &&& 3 = nI i) (hj : j < 4) (ej : kx &&& 3 = nI j) (hA : ∀ q, sz ≤ q → A q) : Met l yX4_part (ws_ yX4_part cX4_part 8 (some .int)) (fr_rm 4 1 200) (fr_W D k A [.ref x, .int ty, .int kx, .int fm, .int cn] sz L f) (fr_Qi D A (fun L1 f1 r0 => r0 = (nI (fr_C (N j) (fr_F (N j) fm) cn)) ∧ fr_Mod k L1 f1 x made mz (va_up N i (fr_C (N j) (fr_F (N j) fm) cn)) (va_up Z i (fun t => Z j (fr_F (N j) fm + t))))) 1 200 A := by
  refine Met.ofW (cc := cX4_part) (maxL := 8) (ret := (some .int)) (by decide) rfl ?_
  intro p e s m args below meth c s₁ B hml hv
  obtain ⟨rfl, ⟨hsz, hI⟩, hK⟩ := hv
  have hx := B.exec
  have hb := B.bytes
  have hr := B.returns
  have hts := atoms_spec (ws := ws_ yX4_part cX4_part 8 (some .int)) B.pre
  have hts : ∀ w ∈ lw_all, w.before _ s = true := fun w h => hts w (List.mem_cons_of_mem _ h)
  have hown : s.vm.findClass RX4 = some m.cls := findClass_of_methodNamed B.named
  have hlocks := B.notSynchronized
  subst hsz
  have hS : va_S A s.heap s.heap [] := va_S.rf
  have hl := lv_entry ([.ref x, .int ty, .int kx, .int fm, .int cn]) (n := 8) (Nat.le_of_ble_eq_true rfl)
  rw [lg_entry_eq]
  generalize (lg_sl ([.ref x, .int ty, .int kx, .int fm, .int cn]) ++ List.replicate (8 - (lg_sl ([.ref x, .int ty, .int kx, .int fm, .int cn])).length) Slot.unset).toArray = ls at hl ⊢
  have hl : lv_has ls 8 [(0, .ref x), (1, .int ty), (2, .int kx), (3, .int fm), (4, .int cn)] := hl
  obtain ⟨mm, rw, v, g, m_x, v_x, m_mm, v_mm, h3, h4, m_rw, v_rw, h5⟩ := id hd
  have hF := fr_F_le (N j) fm
  have hC := fr_C_le (N j) (fr_F (N j) fm) cn hF
  generalize eF : fr_F (N j) fm = F at hF hC ⊢
  generalize eC : fr_C (N j) F cn = C at hC ⊢
  obtain ⟨b, hg, hN, hbm, w, m_b, v_b, hz⟩ := h5 j hj
  refine lv_aload_n hx hb dX4_part_0 rfl (lv_at hl 0 rfl) ?_
  refine fr_get (C := RX4) (T := TX4) (N := 3) (ci := 3) (v := .ref rw) hx hb hts in_X4 hown hK (hI.in m_x v_x) rfl 2 (by decide) q380 rfl dX4_part_1 ?_
  refine lv_iload_n hx hb dX4_part_4 rfl (lv_at hl 2 rfl) ?_
  refine lv_iconst (v := 3) hx hb dX4_part_5 (by decide) ?_
  refine lv_iand hx hb dX4_part_6 ?_
  refine fr_aldg (j := j) (n := 4) (g := g) (z := b) hx hb hK (hI.in m_rw v_rw) (ej) (hj) (by decide) (hg) dX4_part_7 ?_
  refine lv_astore (lv' := [(5, .ref b), (0, .ref x), (1, .int ty), (2, .int kx), (3, .int fm), (4, .int cn)]) hx hb dX4_part_8 hl (by decide) rfl (fun ls hl => ?_)
  refine lv_iload_n hx hb dX4_part_10 rfl (lv_at hl 4 rfl) ?_
  refine lv_ldc (v := 2147483647) hx hb hown (hts _ q415) dX4_part_11 ?_
  refine lv_iand hx hb dX4_part_13 ?_
  refine fr_topi (show (fm &&& 2147483647) = nI (fr_pos fm) from fr_pos_and fm) ?_
  refine lv_aload hx hb dX4_part_14 (lv_at hl 0 rfl) ?_
  refine fr_alen (n := (N j)) hx hb hK (hI.in m_b v_b) dX4_part_16 ?_
  refine lv_iconst (v := 1) hx hb dX4_part_17 (by decide) ?_
  refine lv_iadd hx hb dX4_part_18 ?_
  refine fr_topi (show ((nI (N j)) + 1) = nI (N j + 1) from nI_1 (N j)) ?_
  refine lv_irem hx hb dX4_part_19 (nI_ne0 (by omega) (by omega)) ?_
  refine fr_topi (show ((nI (fr_pos fm)) - (nI (fr_pos fm)) / (nI (N j + 1)) * (nI (N j + 1))) = nI F from (pk_rem (fr_pos_lt fm) (by omega) (by omega)).trans (congrArg nI eF)) ?_
  refine lv_istore (lv' := [(6, .int (nI F)), (5, .ref b), (0, .ref x), (1, .int ty), (2, .int kx), (3, .int fm), (4, .int cn)]) hx hb dX4_part_20 hl (by decide) rfl (fun ls hl => ?_)
  refine lv_iload hx hb dX4_part_22 (lv_at hl 6 rfl) ?_
  refine lv_ldc (v := 2147483647) hx hb hown (hts _ q415) dX4_part_24 ?_
  refine lv_iand hx hb dX4_part_26 ?_
  refine fr_topi (show (cn &&& 2147483647) = nI (fr_pos cn) from fr_pos_and cn) ?_
  refine lv_aload hx hb dX4_part_27 (lv_at hl 1 rfl) ?_
  refine fr_alen (n := (N j)) hx hb hK (hI.in m_b v_b) dX4_part_29 ?_
  refine lv_iload hx hb dX4_part_30 (lv_at hl 0 rfl) ?_
  refine lv_isub hx hb dX4_part_32 ?_
  refine fr_topi (show ((nI (N j)) - (nI F)) = nI (N j - F) from pk_sub hF) ?_
  refine lv_iconst (v := 1) hx hb dX4_part_33 (by decide) ?_
  refine lv_iadd hx hb dX4_part_34 ?_
  refine fr_topi (show ((nI (N j - F)) + 1) = nI (N j - F + 1) from nI_1 (N j - F)) ?_
  refine lv_irem hx hb dX4_part_35 (nI_ne0 (by omega) (by omega)) ?_
  refine fr_topi (show ((nI (fr_pos cn)) - (nI (fr_pos cn)) / (nI (N j - F + 1)) * (nI (N j - F + 1))) = nI C from (pk_rem (fr_pos_lt cn) (by omega) (by omega)).trans (congrArg nI eC)) ?_
  refine lv_istore (lv' := [(7, .int (nI C)), (6, .int (nI F)), (5, .ref b), (0, .ref x), (1, .int ty), (2, .int kx), (3, .int fm), (4, .int cn)]) hx hb dX4_part_36 hl (by decide) rfl (fun ls hl => ?_)
  refine lv_aload_n hx hb dX4_part_38 rfl (lv_at hl 3 rfl) ?_
  refine fr_get (C := RX4) (T := TX4) (N := 3) (ci := 3) (v := .ref rw) hx hb hts in_X4 hown hK (hI.in m_x v_x) rfl 2 (by decide) q380 rfl dX4_part_39 ?_
  refine lv_iload_n hx hb dX4_part_42 rfl (lv_at hl 4 rfl) ?_
  refine lv_iconst (v := 3) hx hb dX4_part_43 (by decide) ?_
  refine lv_iand hx hb dX4_part_44 ?_
  refine lv_aload hx hb dX4_part_45 (lv_at hl 2 rfl) ?_
  refine lv_iload hx hb dX4_part_47 (lv_at hl 1 rfl) ?_
  refine lv_iload hx hb dX4_part_49 (lv_at hl 0 rfl) ?_
  have m0_x := m_x
  have v0_x := v_x
  have m0_mm := m_mm
  have v0_mm := v_mm
  have m0_rw := m_rw
  have v0_rw := v_rw
  have m0_b := m_b
  have v0_b := v_b
  refine fr_cr (fr_runS (As := [.ref b, .int (nI F), .int (nI C)]) (rest := [.int (ty &&& 3), .ref rw]) ⟨hx, hb, hml, hown, hts⟩ (metX4_cut l D k A s.heap.size L f b F C (N j) w hC (by omega) m_b v_b (fun q h => hA q (Nat.le_trans hS.1 h))) (va_cwS 3 hts (lw_S q404 q405 q12 q406) rfl rfl rfl (by decide +kernel) ⟨Nat.le_of_ble_eq_true rfl, Nat.le_of_ble_eq_true rfl⟩) hK hI rfl hl.1 rfl (Nat.le_of_ble_eq_true rfl) dX4_part_51 ⟨Nat.le_of_ble_eq_true rfl, Nat.le_of_ble_eq_true rfl⟩) hS (fun z L_1 f_1 H locs hI hq hS => ?_)
  obtain ⟨x_1, z_1, m_z, vz, v_z, hvz⟩ := id hq
  have p_x_z := fr_neq m_x z_1
  have p_mm_z := fr_neq m_mm z_1
  have p_rw_z := fr_neq m_rw z_1
  have p_b_z := fr_neq m_b z_1
  have v_x := x_1.v m_x v_x
  have m_x := x_1.m m_x
  have v_mm := x_1.v m_mm v_mm
  have m_mm := x_1.m m_mm
  have v_rw := x_1.v m_rw v_rw
  have m_rw := x_1.m m_rw
  have v_b := x_1.v m_b v_b
  have m_b := x_1.m m_b
  refine W.widen (k := 1) (n := 200) (by omega) (by omega) ?_
  refine fr_astg (j := i) (n := 4) (g := g) hx hb hK hI hS m_rw v_rw m_z v_z (ei) (hi) (by decide) dX4_part_54 (fun H locs f_2 e_2 o_2 hI hS => ?_)
  have v_x : f_2 x = fO 3 [.ref mm, .int (nI made), .ref rw] := (o_2 _ (fr_ne v_x v_rw (by simp))).trans v_x
  have v_mm : f_2 mm = fL k 96 v := (o_2 _ (fr_ne v_mm v_rw (by simp))).trans v_mm
  have v_b : f_2 b = fL k (N j) w := (o_2 _ (fr_ne v_b v_rw (by simp))).trans v_b
  have v_z : f_2 z = fL k C vz := (o_2 _ (p_rw_z.symm)).trans v_z
  have v_rw : f_2 rw = fG k 4 (va_up g i (some z)) := e_2
  refine lv_iload hx hb dX4_part_55 (lv_at hl 0 rfl) ?_
  exact fr_iret hx hb hr hlocks hI (⟨rfl, fr_Mod.lay m0_x v0_x m0_mm v0_mm h3 h4 m0_rw v0_rw h5 (hq.congr (fun t ht => hz (F + t) (by omega))) (by omega) v_rw o_2⟩) hS (by omega) (by omega) dX4_part_57
set_option maxHeartbeats 4000000 in
set_option maxRecDepth 100000 in
/-- trim(k) -/
theorem metX4_trim (l : Launch) (D : va_G) (k : fr_k) (A : Nat → Prop) (sz : Nat) (L : List Nat) (f : Nat → va_E) (x made : Nat) (mz : Nat → Int64) (N : Nat → Nat) (Z : Nat → Nat → Int64) (hd : fr_Mod k L f x made mz N Z) (kx : Int32) (j : Nat) (hj : j < 4) (ej : kx &&& 3 = nI j) (hA : ∀ q, sz ≤ q → A q) : Met l yX4_trim (ws_ yX4_trim cX4_trim 2 none) (fr_rm 4 1 200) (fr_W D k A [.ref x, .int kx] sz L f) (fr_Qv D A (fun L1 f1 => fr_Mod k L1 f1 x made mz N Z)) 1 200 A := by
  refine Met.ofW (cc := cX4_trim) (maxL := 2) (ret := none) (by decide) rfl ?_
  intro p e s m args below meth c s₁ B hml hv
  obtain ⟨rfl, ⟨hsz, hI⟩, hK⟩ := hv
  have hx := B.exec
  have hb := B.bytes
  have hr := B.returns
  have hts := atoms_spec (ws := ws_ yX4_trim cX4_trim 2 none) B.pre
  have hts : ∀ w ∈ lw_all, w.before _ s = true := fun w h => hts w (List.mem_cons_of_mem _ h)
  have hown : s.vm.findClass RX4 = some m.cls := findClass_of_methodNamed B.named
  have hlocks := B.notSynchronized
  subst hsz
  have hS : va_S A s.heap s.heap [] := va_S.rf
  have hl := lv_entry ([.ref x, .int kx]) (n := 2) (Nat.le_of_ble_eq_true rfl)
  rw [lg_entry_eq]
  generalize (lg_sl ([.ref x, .int kx]) ++ List.replicate (2 - (lg_sl ([.ref x, .int kx])).length) Slot.unset).toArray = ls at hl ⊢
  have hl : lv_has ls 2 [(0, .ref x), (1, .int kx)] := hl
  obtain ⟨mm, rw, v, g, m_x, v_x, m_mm, v_mm, h3, h4, m_rw, v_rw, h5⟩ := id hd
  obtain ⟨b, hg, hN, hbm, w, m_b, v_b, hz⟩ := h5 j hj
  refine lv_aload_n hx hb dX4_trim_0 rfl (lv_at hl 0 rfl) ?_
  refine fr_get (C := RX4) (T := TX4) (N := 3) (ci := 3) (v := .ref rw) hx hb hts in_X4 hown hK (hI.in m_x v_x) rfl 2 (by decide) q380 rfl dX4_trim_1 ?_
  refine lv_iload_n hx hb dX4_trim_4 rfl (lv_at hl 1 rfl) ?_
  refine lv_iconst (v := 3) hx hb dX4_trim_5 (by decide) ?_
  refine lv_iand hx hb dX4_trim_6 ?_
  refine lv_aload_n hx hb dX4_trim_7 rfl (lv_at hl 0 rfl) ?_
  refine fr_get (C := RX4) (T := TX4) (N := 3) (ci := 3) (v := .ref rw) hx hb hts in_X4 hown hK (hI.in m_x v_x) rfl 2 (by decide) q380 rfl dX4_trim_8 ?_
  refine lv_iload_n hx hb dX4_trim_11 rfl (lv_at hl 1 rfl) ?_
  refine lv_iconst (v := 3) hx hb dX4_trim_12 (by decide) ?_
  refine lv_iand hx hb dX4_trim_13 ?_
  refine fr_aldg (j := j) (n := 4) (g := g) (z := b) hx hb hK (hI.in m_rw v_rw) (ej) (hj) (by decide) (hg) dX4_trim_14 ?_
  refine lv_iconst (v := 0) hx hb dX4_trim_15 (by decide) ?_
  refine lv_aload_n hx hb dX4_trim_16 rfl (lv_at hl 0 rfl) ?_
  refine fr_get (C := RX4) (T := TX4) (N := 3) (ci := 3) (v := .ref rw) hx hb hts in_X4 hown hK (hI.in m_x v_x) rfl 2 (by decide) q380 rfl dX4_trim_17 ?_
  refine lv_iload_n hx hb dX4_trim_20 rfl (lv_at hl 1 rfl) ?_
  refine lv_iconst (v := 3) hx hb dX4_trim_21 (by decide) ?_
  refine lv_iand hx hb dX4_trim_22 ?_
  refine fr_aldg (j := j) (n := 4) (g := g) (z := b) hx hb hK (hI.in m_rw v_rw) (ej) (hj) (by decide) (hg) dX4_trim_23 ?_
  refine fr_alen (n := (N j)) hx hb hK (hI.in m_b v_b) dX4_trim_24 ?_
  have m0_x := m_x
  have v0_x := v_x
  have m0_mm := m_mm
  have v0_mm := v_mm
  have m0_rw := m_rw
  have v0_rw := v_rw
  have m0_b := m_b
  have v0_b := v_b
  refine fr_cr (fr_runS (As := [.ref b, .int 0, .int (nI (N j))]) (rest := [.int (kx &&& 3), .ref rw]) ⟨hx, hb, hml, hown, hts⟩ (metX4_cut l D k A s.heap.size L f b 0 (N j) (N j) w (by omega) (by omega) m_b v_b (fun q h => hA q (Nat.le_trans hS.1 h))) (va_cwS 3 hts (lw_S q404 q405 q12 q406) rfl rfl rfl (by decide +kernel) ⟨Nat.le_of_ble_eq_true rfl, Nat.le_of_ble_eq_true rfl⟩) hK hI rfl hl.1 rfl (Nat.le_of_ble_eq_true rfl) dX4_trim_25 ⟨Nat.le_of_ble_eq_true rfl, Nat.le_of_ble_eq_true rfl⟩) hS (fun z L_1 f_1 H locs hI hq hS => ?_)
  obtain ⟨x_1, z_1, m_z, vz, v_z, hvz⟩ := id hq
  have p_x_z := fr_neq m_x z_1
  have p_mm_z := fr_neq m_mm z_1
  have p_rw_z := fr_neq m_rw z_1
  have p_b_z := fr_neq m_b z_1
  have v_x := x_1.v m_x v_x
  have m_x := x_1.m m_x
  have v_mm := x_1.v m_mm v_mm
  have m_mm := x_1.m m_mm
  have v_rw := x_1.v m_rw v_rw
  have m_rw := x_1.m m_rw
  have v_b := x_1.v m_b v_b
  have m_b := x_1.m m_b
  refine W.widen (k := 1) (n := 200) (by omega) (by omega) ?_
  refine fr_astg (j := j) (n := 4) (g := g) hx hb hK hI hS m_rw v_rw m_z v_z (ej) (hj) (by decide) dX4_trim_28 (fun H locs f_2 e_2 o_2 hI hS => ?_)
  have v_x : f_2 x = fO 3 [.ref mm, .int (nI made), .ref rw] := (o_2 _ (fr_ne v_x v_rw (by simp))).trans v_x
  have v_mm : f_2 mm = fL k 96 v := (o_2 _ (fr_ne v_mm v_rw (by simp))).trans v_mm
  have v_b : f_2 b = fL k (N j) w := (o_2 _ (fr_ne v_b v_rw (by simp))).trans v_b
  have v_z : f_2 z = fL k (N j) vz := (o_2 _ (p_rw_z.symm)).trans v_z
  have v_rw : f_2 rw = fG k 4 (va_up g j (some z)) := e_2
  have hd2 := fr_Mod.lay m0_x v0_x m0_mm v0_mm h3 h4 m0_rw v0_rw h5 (hq.congr (y' := Z j) (fun t ht => by rw [Nat.zero_add]; exact hz t ht)) hN v_rw o_2
  rw [fr_up_eq, fr_up_eq] at hd2
  exact fr_vret hx hb hr hlocks hI (hd2) hS (by omega) (by omega) dX4_trim_29
set_option maxHeartbeats 4000000 in
set_option maxRecDepth 100000 in
/-- anew(room) -/
theorem metX4_anew (l : Launch) (D : va_G) (k : fr_k) (A : Nat → Prop) (sz : Nat) (L : List Nat) (f : Nat → va_E) (x made : Nat) (mz : Nat → Int64) (N : Nat → Nat) (Z : Nat → Nat → Int64) (hd : fr_Mod k L f x made mz N Z) (rm : Int32) : Met l yX4_anew (ws_ yX4_anew cX4_anew 2 none) (fr_rm 4 0 0) (fr_W D k A [.ref x, .int rm] sz L f) (fr_Qv D A (fun L1 f1 => fr_Mod k L1 f1 x 0 mz N Z)) 0 0 A := by
  refine Met.ofW (cc := cX4_anew) (maxL := 2) (ret := none) (by decide) rfl ?_
  intro p e s m args below meth c s₁ B hml hv
  obtain ⟨rfl, ⟨hsz, hI⟩, hK⟩ := hv
  have hx := B.exec
  have hb := B.bytes
  have hr := B.returns
  have hts := atoms_spec (ws := ws_ yX4_anew cX4_anew 2 none) B.pre
  have hts : ∀ w ∈ lw_all, w.before _ s = true := fun w h => hts w (List.mem_cons_of_mem _ h)
  have hown : s.vm.findClass RX4 = some m.cls := findClass_of_methodNamed B.named
  have hlocks := B.notSynchronized
  subst hsz
  have hS : va_S A s.heap s.heap [] := va_S.rf
  have hl := lv_entry ([.ref x, .int rm]) (n := 2) (Nat.le_of_ble_eq_true rfl)
  rw [lg_entry_eq]
  generalize (lg_sl ([.ref x, .int rm]) ++ List.replicate (2 - (lg_sl ([.ref x, .int rm])).length) Slot.unset).toArray = ls at hl ⊢
  have hl : lv_has ls 2 [(0, .ref x), (1, .int rm)] := hl
  obtain ⟨mm, rw, v, g, m_x, v_x, m_mm, v_mm, h3, h4, m_rw, v_rw, h5⟩ := id hd
  have v0_x := v_x
  refine lv_aload_n hx hb dX4_anew_0 rfl (lv_at hl 0 rfl) ?_
  refine lv_iconst (v := 0) hx hb dX4_anew_1 (by decide) ?_
  refine fr_put (C := RX4) (T := TX4) (N := 3) (ci := 3) (v := .int 0) hx hb hts in_X4 tyX4 tyX4_ok nmX4 hown hK hI hS m_x v_x rfl 1 (by decide) q379 rfl rfl rfl (Nat.le_of_ble_eq_true rfl) dX4_anew_2 (fun H locs f_1 e_1 o_1 hI hS => ?_)
  have v_mm : f_1 mm = fL k 96 v := (o_1 _ (fr_ne v_mm v_x (by simp))).trans v_mm
  have v_rw : f_1 rw = fG k 4 g := (o_1 _ (fr_ne v_rw v_x (by simp))).trans v_rw
  have v_x : f_1 x = fO 3 [.ref mm, .int 0, .ref rw] := e_1
  exact fr_vret hx hb hr hlocks hI (⟨mm, rw, v, g, m_x, v_x, m_mm, v_mm, by decide, fun t ht => absurd ht (by omega), m_rw, v_rw, fun j hj => by
      obtain ⟨b, g1, g2, g3, g4⟩ := h5 j hj
      exact ⟨b, g1, g2, g3, g4.keep (fun _ hb => hb) (fun _ e => o_1 _ (fr_ne e v0_x (by simp)))⟩⟩) hS (by omega) (by omega) dX4_anew_5
set_option maxHeartbeats 4000000 in
set_option maxRecDepth 100000 in
/-- FixedRowDeskModel() -/
theorem metX4_init (l : Launch) (D : va_G) (k : fr_k) (A : Nat → Prop) (sz : Nat) (L : List Nat) (f : Nat → va_E) (x : Nat) (m_x : x ∈ L) (v_x : f x = fO 3 [.null, .int 0, .null]) (hA : ∀ q, sz ≤ q → A q) : Met l yX4_init (ws_ yX4_init cX4_init 2 none) (fr_rm 4 6 104) (fr_W D k A [.ref x] sz L f) (fr_Qv D A (fun L1 f1 => fr_Mod k L1 f1 x 0 (fun _ => 0) (fun _ => 1) (fun j _ => (nI j).toInt64))) 6 104 A := by
  refine Met.ofW (cc := cX4_init) (maxL := 2) (ret := none) (by decide) rfl ?_
  intro p e s m args below meth c s₁ B hml hv
  obtain ⟨rfl, ⟨hsz, hI⟩, hK⟩ := hv
  have hx := B.exec
  have hb := B.bytes
  have hr := B.returns
  have hts := atoms_spec (ws := ws_ yX4_init cX4_init 2 none) B.pre
  have hts : ∀ w ∈ lw_all, w.before _ s = true := fun w h => hts w (List.mem_cons_of_mem _ h)
  have hown : s.vm.findClass RX4 = some m.cls := findClass_of_methodNamed B.named
  have hlocks := B.notSynchronized
  have hin : meth.name = "<init>" := (name_of_methodNamed B.named B.method).1
  subst hsz
  have hS : va_S A s.heap s.heap [] := va_S.rf
  have hl := lv_entry ([.ref x]) (n := 2) (Nat.le_of_ble_eq_true rfl)
  rw [lg_entry_eq]
  generalize (lg_sl ([.ref x]) ++ List.replicate (2 - (lg_sl ([.ref x])).length) Slot.unset).toArray = ls at hl ⊢
  have hl : lv_has ls 2 [(0, .ref x)] := hl
  refine lv_aload_n hx hb dX4_init_0 rfl (lv_at hl 0 rfl) ?_
  refine W.objInit hx hb hown (hts _ q375) (hts _ q27) (hts _ q28) rfl (by rw [hml]; exact hl.1) rfl dX4_init_1 (Nat.le_of_ble_eq_true rfl) (Nat.le_of_ble_eq_true rfl) ?_
  refine W.eq (g2 := F0 m 4 ls []) rfl ?_
  refine lv_aload_n hx hb dX4_init_4 rfl (lv_at hl 0 rfl) ?_
  refine lv_bipush (v := 96) hx hb dX4_init_5 (by decide) ?_
  refine fr_newl (N := 96) hx hb hts hK hI hS hA (rfl) (by decide) (Nat.le_of_ble_eq_true rfl) (Nat.le_of_ble_eq_true rfl) dX4_init_7 (fun mm H L_1 f_1 q_1 m_mm v_mm x_1 hI hS => ?_)
  have p_x_mm := fr_neq m_x q_1
  have v_x := x_1.v m_x v_x
  have m_x := x_1.m m_x
  refine W.widen (k := 1) (n := 96) (by omega) (by omega) ?_
  refine fr_putF (C := RX4) (T := TX4) (N := 3) (ci := 3) (v := .ref mm) hx hb hts in_X4 tyX4 tyX4_ok nmX4 hown hK hI hS m_x v_x rfl 0 (by decide) q378 rfl hin rfl rfl rfl (Nat.le_of_ble_eq_true rfl) dX4_init_9 (fun H locs f_2 e_2 o_2 hI hS => ?_)
  have v_mm : f_2 mm = fL k 96 (fun _ => 0) := (o_2 _ (p_x_mm.symm)).trans v_mm
  have v_x : f_2 x = fO 3 [.ref mm, .int 0, .null] := e_2
  refine lv_aload_n hx hb dX4_init_12 rfl (lv_at hl 0 rfl) ?_
  refine lv_iconst (v := 4) hx hb dX4_init_13 (by decide) ?_
  refine fr_newg (N := 4) hx hb hts hown q376 hK hI hS hA rfl (by decide) (Nat.le_of_ble_eq_true rfl) (Nat.le_of_ble_eq_true rfl) dX4_init_14 (fun rw H L_3 f_3 q_3 m_rw v_rw x_3 hI hS => ?_)
  have p_x_rw := fr_neq m_x q_3
  have p_mm_rw := fr_neq m_mm q_3
  have v_x := x_3.v m_x v_x
  have m_x := x_3.m m_x
  have v_mm := x_3.v m_mm v_mm
  have m_mm := x_3.m m_mm
  refine W.widen (k := 2) (n := 100) (by omega) (by omega) ?_
  refine fr_put (C := RX4) (T := TX4) (N := 3) (ci := 3) (v := .ref rw) hx hb hts in_X4 tyX4 tyX4_ok nmX4 hown hK hI hS m_x v_x rfl 2 (by decide) q380 rfl rfl rfl (Nat.le_of_ble_eq_true rfl) dX4_init_17 (fun H locs f_4 e_4 o_4 hI hS => ?_)
  have v_mm : f_4 mm = fL k 96 (fun _ => 0) := (o_4 _ (p_x_mm.symm)).trans v_mm
  have v_rw : f_4 rw = fG k 4 (fun _ => none) := (o_4 _ (p_x_rw.symm)).trans v_rw
  have v_x : f_4 x = fO 3 [.ref mm, .int 0, .ref rw] := e_4
  refine lv_iconst (v := 0) hx hb dX4_init_20 (by decide) ?_
  refine fr_topi (show 0 = nI 0 from rfl) ?_
  refine lv_istore_n (lv' := [(1, .int (nI 0)), (0, .ref x)]) hx hb dX4_init_21 rfl hl (by decide) rfl (fun ls hl => ?_)
  refine lv_iload_n hx hb dX4_init_22 rfl (lv_at hl 0 rfl) ?_
  refine lv_iconst (v := 4) hx hb dX4_init_23 (by decide) ?_
  refine lv_icmp_ge (tgt := 47) hx hb dX4_init_24 (by decide) (fun c_9 => absurd c_9 (show ¬ 4 ≤ (nI 0) from by decide)) (fun _ => ?_)
  refine lv_aload_n hx hb dX4_init_27 rfl (lv_at hl 1 rfl) ?_
  refine fr_get (C := RX4) (T := TX4) (N := 3) (ci := 3) (v := .ref rw) hx hb hts in_X4 hown hK (hI.in m_x v_x) rfl 2 (by decide) q380 rfl dX4_init_28 ?_
  refine lv_iload_n hx hb dX4_init_31 rfl (lv_at hl 0 rfl) ?_
  refine lv_iconst (v := 1) hx hb dX4_init_32 (by decide) ?_
  refine fr_newl (N := 1) hx hb hts hK hI hS hA (rfl) (by decide) (Nat.le_of_ble_eq_true rfl) (Nat.le_of_ble_eq_true rfl) dX4_init_33 (fun y0 H L_5 f_5 q_5 m_y0 v_y0 x_5 hI hS => ?_)
  have p_x_y0 := fr_neq m_x q_5
  have p_mm_y0 := fr_neq m_mm q_5
  have p_rw_y0 := fr_neq m_rw q_5
  have v_x := x_5.v m_x v_x
  have m_x := x_5.m m_x
  have v_mm := x_5.v m_mm v_mm
  have m_mm := x_5.m m_mm
  have v_rw := x_5.v m_rw v_rw
  have m_rw := x_5.m m_rw
  refine W.widen (k := 3) (n := 101) (by omega) (by omega) ?_
  have d_0 : y0 ≠ mm := p_mm_y0.symm
  refine lv_dup hx hb dX4_init_35 rfl ?_
  refine lv_iconst (v := 0) hx hb dX4_init_36 (by decide) ?_
  refine lv_iload_n hx hb dX4_init_37 rfl (lv_at hl 0 rfl) ?_
  refine lv_i2l (v := (nI 0).toInt64) hx hb dX4_init_38 rfl ?_
  refine fr_last (j := 0) (n := 1) (v := (fun _ => 0)) (x := ((nI 0).toInt64)) hx hb hK hI hS m_y0 v_y0 (rfl) (by decide) (by decide) dX4_init_39 (fun H locs f_6 e_6 o_6 hI hS => ?_)
  have v_x : f_6 x = fO 3 [.ref mm, .int 0, .ref rw] := (o_6 _ (p_x_y0)).trans v_x
  have v_mm : f_6 mm = fL k 96 (fun _ => 0) := (o_6 _ (p_mm_y0)).trans v_mm
  have v_rw : f_6 rw = fG k 4 (fun _ => none) := (o_6 _ (p_rw_y0)).trans v_rw
  have v_y0 : f_6 y0 = fL k 1 (vp_updL (fun _ => 0) 0 ((nI 0).toInt64)) := e_6
  have w_0 : fr_MRow k L_5 f_6 y0 1 (fun _ => (nI 0).toInt64) := ⟨_, m_y0, v_y0, fun t ht => by rw [show t = 0 by omega]; exact pk_uLs⟩
  have u_rw := v_rw
  refine fr_astg (j := 0) (n := 4) (g := (fun _ => none)) hx hb hK hI hS m_rw v_rw m_y0 v_y0 (rfl) (by decide) (by decide) dX4_init_40 (fun H locs f_7 e_7 o_7 hI hS => ?_)
  have v_x : f_7 x = fO 3 [.ref mm, .int 0, .ref rw] := (o_7 _ (p_x_rw)).trans v_x
  have v_mm : f_7 mm = fL k 96 (fun _ => 0) := (o_7 _ (p_mm_rw)).trans v_mm
  have v_y0 : f_7 y0 = fL k 1 (vp_updL (fun _ => 0) 0 ((nI 0).toInt64)) := (o_7 _ (p_rw_y0.symm)).trans v_y0
  have v_rw : f_7 rw = fG k 4 (va_up (fun _ => none) 0 (some y0)) := e_7
  have w_0 := w_0.putg u_rw o_7
  refine lv_iinc (v := nI 1) (lv' := [(1, .int (nI 1)), (0, .ref x)]) hx hb dX4_init_41 hl (k := 0) rfl (show (nI 0) + Int32.ofInt 1 = nI 1 from by decide) (by decide) rfl (fun ls hl => ?_)
  refine lv_goto (tgt := 22) hx hb dX4_init_44 (by decide) ?_
  refine lv_iload_n hx hb dX4_init_22 rfl (lv_at hl 0 rfl) ?_
  refine lv_iconst (v := 4) hx hb dX4_init_23 (by decide) ?_
  refine lv_icmp_ge (tgt := 47) hx hb dX4_init_24 (by decide) (fun c_9 => absurd c_9 (show ¬ 4 ≤ (nI 1) from by decide)) (fun _ => ?_)
  refine lv_aload_n hx hb dX4_init_27 rfl (lv_at hl 1 rfl) ?_
  refine fr_get (C := RX4) (T := TX4) (N := 3) (ci := 3) (v := .ref rw) hx hb hts in_X4 hown hK (hI.in m_x v_x) rfl 2 (by decide) q380 rfl dX4_init_28 ?_
  refine lv_iload_n hx hb dX4_init_31 rfl (lv_at hl 0 rfl) ?_
  refine lv_iconst (v := 1) hx hb dX4_init_32 (by decide) ?_
  refine fr_newl (N := 1) hx hb hts hK hI hS hA (rfl) (by decide) (Nat.le_of_ble_eq_true rfl) (Nat.le_of_ble_eq_true rfl) dX4_init_33 (fun y1 H L_8 f_8 q_8 m_y1 v_y1 x_8 hI hS => ?_)
  have p_x_y1 := fr_neq m_x q_8
  have p_mm_y1 := fr_neq m_mm q_8
  have p_rw_y1 := fr_neq m_rw q_8
  have v_x := x_8.v m_x v_x
  have m_x := x_8.m m_x
  have v_mm := x_8.v m_mm v_mm
  have m_mm := x_8.m m_mm
  have v_rw := x_8.v m_rw v_rw
  have m_rw := x_8.m m_rw
  refine W.widen (k := 4) (n := 102) (by omega) (by omega) ?_
  have d_1 : y1 ≠ mm := p_mm_y1.symm
  have d_0_1 : y0 ≠ y1 := fr_neq w_0.mem q_8
  have w_0 := w_0.ext x_8
  refine lv_dup hx hb dX4_init_35 rfl ?_
  refine lv_iconst (v := 0) hx hb dX4_init_36 (by decide) ?_
  refine lv_iload_n hx hb dX4_init_37 rfl (lv_at hl 0 rfl) ?_
  refine lv_i2l (v := (nI 1).toInt64) hx hb dX4_init_38 rfl ?_
  refine fr_last (j := 0) (n := 1) (v := (fun _ => 0)) (x := ((nI 1).toInt64)) hx hb hK hI hS m_y1 v_y1 (rfl) (by decide) (by decide) dX4_init_39 (fun H locs f_9 e_9 o_9 hI hS => ?_)
  have v_x : f_9 x = fO 3 [.ref mm, .int 0, .ref rw] := (o_9 _ (p_x_y1)).trans v_x
  have v_mm : f_9 mm = fL k 96 (fun _ => 0) := (o_9 _ (p_mm_y1)).trans v_mm
  have v_rw : f_9 rw = fG k 4 (va_up (fun _ => none) 0 (some y0)) := (o_9 _ (p_rw_y1)).trans v_rw
  have v_y1 : f_9 y1 = fL k 1 (vp_updL (fun _ => 0) 0 ((nI 1).toInt64)) := e_9
  have w_0 := w_0.putl d_0_1 o_9
  have w_1 : fr_MRow k L_8 f_9 y1 1 (fun _ => (nI 1).toInt64) := ⟨_, m_y1, v_y1, fun t ht => by rw [show t = 0 by omega]; exact pk_uLs⟩
  have u_rw := v_rw
  refine fr_astg (j := 1) (n := 4) (g := (va_up (fun _ => none) 0 (some y0))) hx hb hK hI hS m_rw v_rw m_y1 v_y1 (rfl) (by decide) (by decide) dX4_init_40 (fun H locs f_10 e_10 o_10 hI hS => ?_)
  have v_x : f_10 x = fO 3 [.ref mm, .int 0, .ref rw] := (o_10 _ (p_x_rw)).trans v_x
  have v_mm : f_10 mm = fL k 96 (fun _ => 0) := (o_10 _ (p_mm_rw)).trans v_mm
  have v_y1 : f_10 y1 = fL k 1 (vp_updL (fun _ => 0) 0 ((nI 1).toInt64)) := (o_10 _ (p_rw_y1.symm)).trans v_y1
  have v_rw : f_10 rw = fG k 4 (va_up (va_up (fun _ => none) 0 (some y0)) 1 (some y1)) := e_10
  have w_0 := w_0.putg u_rw o_10
  have w_1 := w_1.putg u_rw o_10
  refine lv_iinc (v := nI 2) (lv' := [(1, .int (nI 2)), (0, .ref x)]) hx hb dX4_init_41 hl (k := 0) rfl (show (nI 1) + Int32.ofInt 1 = nI 2 from by decide) (by decide) rfl (fun ls hl => ?_)
  refine lv_goto (tgt := 22) hx hb dX4_init_44 (by decide) ?_
  refine lv_iload_n hx hb dX4_init_22 rfl (lv_at hl 0 rfl) ?_
  refine lv_iconst (v := 4) hx hb dX4_init_23 (by decide) ?_
  refine lv_icmp_ge (tgt := 47) hx hb dX4_init_24 (by decide) (fun c_9 => absurd c_9 (show ¬ 4 ≤ (nI 2) from by decide)) (fun _ => ?_)
  refine lv_aload_n hx hb dX4_init_27 rfl (lv_at hl 1 rfl) ?_
  refine fr_get (C := RX4) (T := TX4) (N := 3) (ci := 3) (v := .ref rw) hx hb hts in_X4 hown hK (hI.in m_x v_x) rfl 2 (by decide) q380 rfl dX4_init_28 ?_
  refine lv_iload_n hx hb dX4_init_31 rfl (lv_at hl 0 rfl) ?_
  refine lv_iconst (v := 1) hx hb dX4_init_32 (by decide) ?_
  refine fr_newl (N := 1) hx hb hts hK hI hS hA (rfl) (by decide) (Nat.le_of_ble_eq_true rfl) (Nat.le_of_ble_eq_true rfl) dX4_init_33 (fun y2 H L_11 f_11 q_11 m_y2 v_y2 x_11 hI hS => ?_)
  have p_x_y2 := fr_neq m_x q_11
  have p_mm_y2 := fr_neq m_mm q_11
  have p_rw_y2 := fr_neq m_rw q_11
  have v_x := x_11.v m_x v_x
  have m_x := x_11.m m_x
  have v_mm := x_11.v m_mm v_mm
  have m_mm := x_11.m m_mm
  have v_rw := x_11.v m_rw v_rw
  have m_rw := x_11.m m_rw
  refine W.widen (k := 5) (n := 103) (by omega) (by omega) ?_
  have d_2 : y2 ≠ mm := p_mm_y2.symm
  have d_0_2 : y0 ≠ y2 := fr_neq w_0.mem q_11
  have w_0 := w_0.ext x_11
  have d_1_2 : y1 ≠ y2 := fr_neq w_1.mem q_11
  have w_1 := w_1.ext x_11
  refine lv_dup hx hb dX4_init_35 rfl ?_
  refine lv_iconst (v := 0) hx hb dX4_init_36 (by decide) ?_
  refine lv_iload_n hx hb dX4_init_37 rfl (lv_at hl 0 rfl) ?_
  refine lv_i2l (v := (nI 2).toInt64) hx hb dX4_init_38 rfl ?_
  refine fr_last (j := 0) (n := 1) (v := (fun _ => 0)) (x := ((nI 2).toInt64)) hx hb hK hI hS m_y2 v_y2 (rfl) (by decide) (by decide) dX4_init_39 (fun H locs f_12 e_12 o_12 hI hS => ?_)
  have v_x : f_12 x = fO 3 [.ref mm, .int 0, .ref rw] := (o_12 _ (p_x_y2)).trans v_x
  have v_mm : f_12 mm = fL k 96 (fun _ => 0) := (o_12 _ (p_mm_y2)).trans v_mm
  have v_rw : f_12 rw = fG k 4 (va_up (va_up (fun _ => none) 0 (some y0)) 1 (some y1)) := (o_12 _ (p_rw_y2)).trans v_rw
  have v_y2 : f_12 y2 = fL k 1 (vp_updL (fun _ => 0) 0 ((nI 2).toInt64)) := e_12
  have w_0 := w_0.putl d_0_2 o_12
  have w_1 := w_1.putl d_1_2 o_12
  have w_2 : fr_MRow k L_11 f_12 y2 1 (fun _ => (nI 2).toInt64) := ⟨_, m_y2, v_y2, fun t ht => by rw [show t = 0 by omega]; exact pk_uLs⟩
  have u_rw := v_rw
  refine fr_astg (j := 2) (n := 4) (g := (va_up (va_up (fun _ => none) 0 (some y0)) 1 (some y1))) hx hb hK hI hS m_rw v_rw m_y2 v_y2 (rfl) (by decide) (by decide) dX4_init_40 (fun H locs f_13 e_13 o_13 hI hS => ?_)
  have v_x : f_13 x = fO 3 [.ref mm, .int 0, .ref rw] := (o_13 _ (p_x_rw)).trans v_x
  have v_mm : f_13 mm = fL k 96 (fun _ => 0) := (o_13 _ (p_mm_rw)).trans v_mm
  have v_y2 : f_13 y2 = fL k 1 (vp_updL (fun _ => 0) 0 ((nI 2).toInt64)) := (o_13 _ (p_rw_y2.symm)).trans v_y2
  have v_rw : f_13 rw = fG k 4 (va_up (va_up (va_up (fun _ => none) 0 (some y0)) 1 (some y1)) 2 (some y2)) := e_13
  have w_0 := w_0.putg u_rw o_13
  have w_1 := w_1.putg u_rw o_13
  have w_2 := w_2.putg u_rw o_13
  refine lv_iinc (v := nI 3) (lv' := [(1, .int (nI 3)), (0, .ref x)]) hx hb dX4_init_41 hl (k := 0) rfl (show (nI 2) + Int32.ofInt 1 = nI 3 from by decide) (by decide) rfl (fun ls hl => ?_)
  refine lv_goto (tgt := 22) hx hb dX4_init_44 (by decide) ?_
  refine lv_iload_n hx hb dX4_init_22 rfl (lv_at hl 0 rfl) ?_
  refine lv_iconst (v := 4) hx hb dX4_init_23 (by decide) ?_
  refine lv_icmp_ge (tgt := 47) hx hb dX4_init_24 (by decide) (fun c_9 => absurd c_9 (show ¬ 4 ≤ (nI 3) from by decide)) (fun _ => ?_)
  refine lv_aload_n hx hb dX4_init_27 rfl (lv_at hl 1 rfl) ?_
  refine fr_get (C := RX4) (T := TX4) (N := 3) (ci := 3) (v := .ref rw) hx hb hts in_X4 hown hK (hI.in m_x v_x) rfl 2 (by decide) q380 rfl dX4_init_28 ?_
  refine lv_iload_n hx hb dX4_init_31 rfl (lv_at hl 0 rfl) ?_
  refine lv_iconst (v := 1) hx hb dX4_init_32 (by decide) ?_
  refine fr_newl (N := 1) hx hb hts hK hI hS hA (rfl) (by decide) (Nat.le_of_ble_eq_true rfl) (Nat.le_of_ble_eq_true rfl) dX4_init_33 (fun y3 H L_14 f_14 q_14 m_y3 v_y3 x_14 hI hS => ?_)
  have p_x_y3 := fr_neq m_x q_14
  have p_mm_y3 := fr_neq m_mm q_14
  have p_rw_y3 := fr_neq m_rw q_14
  have v_x := x_14.v m_x v_x
  have m_x := x_14.m m_x
  have v_mm := x_14.v m_mm v_mm
  have m_mm := x_14.m m_mm
  have v_rw := x_14.v m_rw v_rw
  have m_rw := x_14.m m_rw
  refine W.widen (k := 6) (n := 104) (by omega) (by omega) ?_
  have d_3 : y3 ≠ mm := p_mm_y3.symm
  have d_0_3 : y0 ≠ y3 := fr_neq w_0.mem q_14
  have w_0 := w_0.ext x_14
  have d_1_3 : y1 ≠ y3 := fr_neq w_1.mem q_14
  have w_1 := w_1.ext x_14
  have d_2_3 : y2 ≠ y3 := fr_neq w_2.mem q_14
  have w_2 := w_2.ext x_14
  refine lv_dup hx hb dX4_init_35 rfl ?_
  refine lv_iconst (v := 0) hx hb dX4_init_36 (by decide) ?_
  refine lv_iload_n hx hb dX4_init_37 rfl (lv_at hl 0 rfl) ?_
  refine lv_i2l (v := (nI 3).toInt64) hx hb dX4_init_38 rfl ?_
  refine fr_last (j := 0) (n := 1) (v := (fun _ => 0)) (x := ((nI 3).toInt64)) hx hb hK hI hS m_y3 v_y3 (rfl) (by decide) (by decide) dX4_init_39 (fun H locs f_15 e_15 o_15 hI hS => ?_)
  have v_x : f_15 x = fO 3 [.ref mm, .int 0, .ref rw] := (o_15 _ (p_x_y3)).trans v_x
  have v_mm : f_15 mm = fL k 96 (fun _ => 0) := (o_15 _ (p_mm_y3)).trans v_mm
  have v_rw : f_15 rw = fG k 4 (va_up (va_up (va_up (fun _ => none) 0 (some y0)) 1 (some y1)) 2 (some y2)) := (o_15 _ (p_rw_y3)).trans v_rw
  have v_y3 : f_15 y3 = fL k 1 (vp_updL (fun _ => 0) 0 ((nI 3).toInt64)) := e_15
  have w_0 := w_0.putl d_0_3 o_15
  have w_1 := w_1.putl d_1_3 o_15
  have w_2 := w_2.putl d_2_3 o_15
  have w_3 : fr_MRow k L_14 f_15 y3 1 (fun _ => (nI 3).toInt64) := ⟨_, m_y3, v_y3, fun t ht => by rw [show t = 0 by omega]; exact pk_uLs⟩
  have u_rw := v_rw
  refine fr_astg (j := 3) (n := 4) (g := (va_up (va_up (va_up (fun _ => none) 0 (some y0)) 1 (some y1)) 2 (some y2))) hx hb hK hI hS m_rw v_rw m_y3 v_y3 (rfl) (by decide) (by decide) dX4_init_40 (fun H locs f_16 e_16 o_16 hI hS => ?_)
  have v_x : f_16 x = fO 3 [.ref mm, .int 0, .ref rw] := (o_16 _ (p_x_rw)).trans v_x
  have v_mm : f_16 mm = fL k 96 (fun _ => 0) := (o_16 _ (p_mm_rw)).trans v_mm
  have v_y3 : f_16 y3 = fL k 1 (vp_updL (fun _ => 0) 0 ((nI 3).toInt64)) := (o_16 _ (p_rw_y3.symm)).trans v_y3
  have v_rw : f_16 rw = fG k 4 (va_up (va_up (va_up (va_up (fun _ => none) 0 (some y0)) 1 (some y1)) 2 (some y2)) 3 (some y3)) := e_16
  have w_0 := w_0.putg u_rw o_16
  have w_1 := w_1.putg u_rw o_16
  have w_2 := w_2.putg u_rw o_16
  have w_3 := w_3.putg u_rw o_16
  refine lv_iinc (v := nI 4) (lv' := [(1, .int (nI 4)), (0, .ref x)]) hx hb dX4_init_41 hl (k := 0) rfl (show (nI 3) + Int32.ofInt 1 = nI 4 from by decide) (by decide) rfl (fun ls hl => ?_)
  refine lv_goto (tgt := 22) hx hb dX4_init_44 (by decide) ?_
  refine lv_iload_n hx hb dX4_init_22 rfl (lv_at hl 0 rfl) ?_
  refine lv_iconst (v := 4) hx hb dX4_init_23 (by decide) ?_
  refine lv_icmp_ge (tgt := 47) hx hb dX4_init_24 (by decide) (fun _ => ?_) (fun c_9 => absurd (show 4 ≤ (nI 4) from by decide) c_9)
  exact fr_vret hx hb hr hlocks hI (⟨mm, rw, _, _, m_x, v_x, m_mm, v_mm, by decide, fun t ht => absurd ht (by omega), m_rw, v_rw, fun j hj => by
      match j, hj with
      | 0, _ => exact ⟨y0, rfl, by decide, d_0, w_0⟩
      | 1, _ => exact ⟨y1, rfl, by decide, d_1, w_1⟩
      | 2, _ => exact ⟨y2, rfl, by decide, d_2, w_2⟩
      | 3, _ => exact ⟨y3, rfl, by decide, d_3, w_3⟩
      | j + 4, h => exact absurd h (by omega)⟩) hS (by omega) (by omega) dX4_init_47
end
section
set_option maxRecDepth 100000
/-! THE CLAIM OUT OF ONE WALK OF THE LAW'S BODY. Your part is whole_start (and what it stands on); all else here is the same for every law, but numbers. -/
def R_law : String := "FixedRowDeskLaw"
def lw_P (b : Addr) (xs : List Int32) (args : Array Value) (s : State) : Prop := args = #[.ref b] ∧ s.IntsAt b xs ∧ xs.length ≤ 288 ∧ (Jvm.Cond.and given_1 narrow_1).before args s = true
def lw_Q (_ : Array Value) (s : State) (o : Outcome) (t : State) : Prop := o = .returned (some (.int 1)) ∧ Framed s o t [] 1200096 5501386
def lw_Z (below : List Frame) (a : Array Value) (s : State) : State → Prop := fun t => ∃ o, t.status = .running ∧ Ended t below o ∧ lw_Q a s o t
/-- the law's own end, with 1 on the stack, nothing written that was there before, its room as the claim has it -/
theorem lw_ret {p : Program} {l : Launch} {e : Env} {s : State} {m : MethodId} {below : List Frame} {meth : Method} {c : Code} {b : Nat} (hx : p.tables.exec = Jvm.exec) (hb : c.code = code) (hr : meth.sig.returnType = ret) (hlocks : meth.locks = false) {pc : Nat} {H : Heap} {ls : Array Slot} (hdg : decode code pc = .ok (.ireturn, 1)) : W p l e room_1 s m #[Value.ref b] below meth c H [] 1200096 5501386 (lw_Z below #[Value.ref b] s) (F0 m pc ls [.int 1]) := by
  intro T hT X
  obtain ⟨fs, hret, hrun, hended, hW, hframe⟩ := X.leave (v := some (.int 1)) (hlocks := hlocks) (fun h => by rw [hr] at h; cases h)
  have hmeth' : T.vm.method? m = some meth := X.method'
  refine ⟨T.setFrames fs, ?_, .returned (some (.int 1)), hrun, hended, rfl, ⟨_, rfl⟩, hW, hframe⟩
  jvm_step X.here [X.here.top, hx, hb, hdg, hmeth', hr, ret, narrow_b1]
  (try refine ⟨rfl, ?_⟩); (try refine ⟨rfl, ?_⟩)
  first | (intro acts; rw [hret _ acts rfl rfl rfl]) | rw [hret _ _ rfl rfl rfl]
  exact Steps.refl _
/-- what holds at the law's entry: the machine, the code, the tables' words (any of lw_tbl by 'hts w (by decide +kernel)'), the script of L ints xs at the cell b, what the Statement gives of the start (any of its parts by flat_of_before) -/
def lw_At (p : Program) (s : State) (m : MethodId) (meth : Method) (c : Code) (b L : Nat) (xs : Nat → Int32) : Prop :=
  p.tables.exec = Jvm.exec ∧ c.code = code ∧ meth.sig.returnType = ret ∧ c.maxLocals = 4 ∧ s.vm.findClass R_law = some m.cls ∧ (∀ w ∈ lw_tbl, w.before #[Value.ref b] s = true) ∧ va_X b L xs s s.heap ∧ b < s.heap.size ∧ meth.locks = false ∧ (Jvm.Cond.and given_1 narrow_1).before #[Value.ref b] s = true
/-! the two worlds of the law: the desk's and the reference's, apart -/
abbrev fr_B (L : List Nat) (H : Heap) : Nat → Prop := fun q => q ∈ L ∨ H.size ≤ q
abbrev fr_A (s : State) : Nat → Prop := fun q => s.heap.size ≤ q
theorem wI.from {D : va_G} {A : Nat → Prop} {L0 L : List Nat} {f0 f : Nat → va_E} {H0 H : Heap} (h0 : wI D A L0 f0 H0) (h : wI D A L f H) (hx : wX L0 f0 L f) : wI D A L0 f0 H := by
  refine ⟨fun j q hj => ?_, h0.2⟩
  obtain ⟨b, hb, e⟩ := List.mem_map.mp (List.mem_of_getElem? hj)
  rw [← e]
  exact h.in (hx.m hb) (hx b hb).2 0 _ rfl
theorem wI.one {D : va_G} {A : Nat → Prop} {L : List Nat} {f : Nat → va_E} {H : Heap} {y : Nat} (h : wI D A L f H) (hy : y ∈ L) : wI D A [y] f H := by
  refine ⟨h.in hy rfl, ⟨fun i j p q hi hj _ => ?_, fun j q hj => ?_⟩⟩
  · have hi := (List.getElem?_eq_some_iff.mp hi).1
    have hj := (List.getElem?_eq_some_iff.mp hj).1
    simp [va_pl] at hi hj
    omega
  · obtain ⟨b, hb, e⟩ := List.mem_map.mp (List.mem_of_getElem? hj)
    rw [← e]
    rw [List.mem_singleton.mp hb]
    exact h.own hy
section FRX
variable {p : Program} {l : Launch} {e : Env} {R : Room} {s : State} {m : MethodId} {args : Array Value} {below : List Frame} {meth : Method} {c : Code} {H : Heap} {locs : List Loc} {cells slots : Nat} {Q : State → Prop}
variable {D : va_G} {A : Nat → Prop} {L L2 : List Nat} {f f2 : Nat → va_E} {H0 : Heap} {pc mc ms : Nat} {ls : Array Slot} {rest st : List Value} {a : Array Value}
theorem fr_far {H1 : Heap} {L1 : List Nat} {f1 : Nat → va_E} (hI2 : wI D A L2 f2 H) (hdj : ∀ q ∈ L, q ∉ L2) (hk : ∀ q : Nat, q < H.size → ¬ fr_B L H q → H1[q]? = H[q]?) (h1 : wI D (fr_B L H) L1 f1 H1) : wI D A L2 f2 H1 ∧ ∀ q ∈ L1, q ∉ L2 := by
  refine ⟨hI2.kept fun b hb => hk b (hI2.lt hb) ?_, fun q hq h2 => ?_⟩
  · rintro (h | h)
    · exact hdj b h hb
    · exact absurd (hI2.lt hb) (Nat.not_lt.mpr h)
  · rcases h1.own hq with h | h
    · exact hdj q h h2
    · exact absurd (hI2.lt h2) (Nat.not_lt.mpr h)
theorem fr_B_A (hI : wI D A L f H) (hS : va_S A H0 H locs) (hA : ∀ q, H0.size ≤ q → A q) : ∀ q, fr_B L H q → A q := by
  rintro q (h | h)
  · exact hI.own h
  · exact hA q (Nat.le_trans hS.1 h)
theorem fr_xi {P : List Nat → (Nat → va_E) → Int32 → Prop} (hI : wI D A L f H) (hI2 : wI D A L2 f2 H) (hdj : ∀ q ∈ L, q ∉ L2) (hS : va_S A H0 H locs) (hA : ∀ q, H0.size ≤ q → A q) (hr : va_Run p l e R s m args below meth c H locs cells slots mc ms (F0 m pc ls st) rest (fr_Qi D (fr_B L H) P a) (fr_B L H))
    (kk : ∀ (r : Int32) (L1 : List Nat) (f1 : Nat → va_E) (H1 : Heap) (locs1 : List Loc), wI D A L1 f1 H1 → P L1 f1 r → wI D A L2 f2 H1 → (∀ q ∈ L1, q ∉ L2) → va_S A H0 H1 locs1 → W p l e R s m args below meth c H1 locs1 (cells + mc) (slots + ms) Q (F0 m (pc + 3) ls (.int r :: rest))) : W p l e R s m args below meth c H locs cells slots Q (F0 m pc ls st) :=
  va_calli hr hS (fun q _ h => fr_B_A hI hS hA q h) (fr_B_A hI hS hA) (fun r u t H1 locs1 ht _ hp hB _ hk hS1 => by
    have hB : wI D (fr_B L H) u.1 u.2 H1 := by rw [← ht]; exact hB
    obtain ⟨h2, h3⟩ := fr_far hI2 hdj hk hB
    exact kk r u.1 u.2 H1 locs1 (hB.weaken fun q _ h => fr_B_A hI hS hA q h) hp h2 h3 hS1)
theorem fr_xl {P : List Nat → (Nat → va_E) → Int64 → Prop} (hI : wI D A L f H) (hI2 : wI D A L2 f2 H) (hdj : ∀ q ∈ L, q ∉ L2) (hS : va_S A H0 H locs) (hA : ∀ q, H0.size ≤ q → A q) (hr : va_Run p l e R s m args below meth c H locs cells slots mc ms (F0 m pc ls st) rest (fr_Ql D (fr_B L H) P a) (fr_B L H))
    (kk : ∀ (r : Int64) (L1 : List Nat) (f1 : Nat → va_E) (H1 : Heap) (locs1 : List Loc), wI D A L1 f1 H1 → P L1 f1 r → wI D A L2 f2 H1 → (∀ q ∈ L1, q ∉ L2) → va_S A H0 H1 locs1 → W p l e R s m args below meth c H1 locs1 (cells + mc) (slots + ms) Q (F0 m (pc + 3) ls (.long r :: rest))) : W p l e R s m args below meth c H locs cells slots Q (F0 m pc ls st) :=
  va_calll hr hS (fun q _ h => fr_B_A hI hS hA q h) (fr_B_A hI hS hA) (fun r u t H1 locs1 ht _ hp hB _ hk hS1 => by
    have hB : wI D (fr_B L H) u.1 u.2 H1 := by rw [← ht]; exact hB
    obtain ⟨h2, h3⟩ := fr_far hI2 hdj hk hB
    exact kk r u.1 u.2 H1 locs1 (hB.weaken fun q _ h => fr_B_A hI hS hA q h) hp h2 h3 hS1)
theorem fr_xv {P : List Nat → (Nat → va_E) → Prop} (hI : wI D A L f H) (hI2 : wI D A L2 f2 H) (hdj : ∀ q ∈ L, q ∉ L2) (hS : va_S A H0 H locs) (hA : ∀ q, H0.size ≤ q → A q) (hr : va_Run p l e R s m args below meth c H locs cells slots mc ms (F0 m pc ls st) rest (fr_Qv D (fr_B L H) P a) (fr_B L H))
    (kk : ∀ (L1 : List Nat) (f1 : Nat → va_E) (H1 : Heap) (locs1 : List Loc), wI D A L1 f1 H1 → P L1 f1 → wI D A L2 f2 H1 → (∀ q ∈ L1, q ∉ L2) → va_S A H0 H1 locs1 → W p l e R s m args below meth c H1 locs1 (cells + mc) (slots + ms) Q (F0 m (pc + 3) ls rest)) : W p l e R s m args below meth c H locs cells slots Q (F0 m pc ls st) :=
  va_callv hr hS (fun q _ h => fr_B_A hI hS hA q h) (fr_B_A hI hS hA) (fun u t H1 locs1 ht _ hp hB _ hk hS1 => by
    have hB : wI D (fr_B L H) u.1 u.2 H1 := by rw [← ht]; exact hB
    obtain ⟨h2, h3⟩ := fr_far hI2 hdj hk hB
    exact kk u.1 u.2 H1 locs1 (hB.weaken fun q _ h => fr_B_A hI hS hA q h) hp h2 h3 hS1)
/-- an int of the script -/
theorem fr_sld {cc : ByteArray} (hx : p.tables.exec = Jvm.exec) (hb : c.code = cc) {b N : Nat} {xs : Nat → Int32} (hX : va_X b N xs s H0) (hbl : b < H0.size) (hbA : ¬ A b) (hS : va_S A H0 H locs) {i : Int32} {j : Nat} (hi : i = nI j) (hj : j < N) (hN : N ≤ 288) (hdg : decode cc pc = .ok (.iaload, 1))
    (kk : W p l e R s m args below meth c H locs cells slots Q (F0 m (pc + 1) ls (.int (xs j) :: rest))) : W p l e R s m args below meth c H locs cells slots Q (F0 m pc ls (.int i :: .ref b :: rest)) := by
  subst hi
  refine va_sld hx hb hX hbl hbA hS (vp_in_nI hj (by omega)) hdg ?_
  rw [nI_clamp (show j < 2 ^ 31 by omega)]
  exact kk
end FRX
theorem fr_Desk.recv {k : fr_k} {L : List Nat} {f : Nat → va_E} {x made : Nat} {mz : Nat → Int64} {N : Nat → Nat} {Z : Nat → Nat → Int64} (h : fr_Desk k L f x made mz N Z) : ∃ fs, x ∈ L ∧ f x = fO 0 fs := by
  obtain ⟨mk, ar, rw, cap, v, g, m_x, v_x, h5⟩ := h
  exact ⟨_, m_x, v_x⟩
theorem fr_Mod.recv {k : fr_k} {L : List Nat} {f : Nat → va_E} {x made : Nat} {mz : Nat → Int64} {N : Nat → Nat} {Z : Nat → Nat → Int64} (h : fr_Mod k L f x made mz N Z) : ∃ fs, x ∈ L ∧ f x = fO 3 fs := by
  obtain ⟨mm, rw, v, g, m_x, v_x, h5⟩ := h
  exact ⟨_, m_x, v_x⟩
/-- what holds at the head of the law's loop -/
def fr_Inv (D : va_G) (k : fr_k) (A : Nat → Prop) (x y made : Nat) (mz : Nat → Int64) (N : Nat → Nat) (Z : Nat → Nat → Int64) (H : Heap) : Prop :=
  ∃ (L1 : List Nat) (f1 : Nat → va_E) (L2 : List Nat) (f2 : Nat → va_E), wI D A L1 f1 H ∧ wI D A L2 f2 H ∧ (∀ q ∈ L1, q ∉ L2) ∧ fr_Desk k L1 f1 x made mz N Z ∧ fr_Mod k L2 f2 y made mz N Z
def fr_Cont (p : Program) (l : Launch) (e : Env) (s : State) (m : MethodId) (below : List Frame) (meth : Method) (c : Code) (b x y i : Nat) (D : va_G) (k : fr_k) (Q : State → Prop) (ce sl : Nat) : Prop :=
  ∀ (made : Nat) (mz : Nat → Int64) (N : Nat → Nat) (Z : Nat → Nat → Int64) (H : Heap) (locs : List Loc), fr_Inv D k (fr_A s) x y made mz N Z H → va_S (fr_A s) s.heap H locs → ∀ ls : Array Slot, lv_has ls 4 [(0, .ref b), (1, .ref x), (2, .ref y), (3, .int (nI i))] →
    W p l e room_1 s m #[Value.ref b] below meth c H locs ce sl Q (F0 m 544 ls [])
theorem fr_head {L t : Nat} (hL : L ≤ 288) (ht : t ≤ 100) : (nI L - 6 < nI (6 * t)) ↔ L < 6 * t + 6 := by
  have h1 : (nI L - nI 6).toInt = (L : Int) - (6 : Nat) := pk_sub_toInt (by omega) (by omega)
  have h2 : (nI (6 * t)).toInt = ((6 * t : Nat) : Int) := nI_toInt (by omega)
  rw [Int32.lt_iff_toInt_lt, h2]
  show (nI L - nI 6).toInt < _ ↔ _
  rw [h1]
  omega
theorem fr_15 (v : Int32) : ∃ d : Nat, d < 16 ∧ v &&& 15 = nI d := pk_andE v 4 (by decide)
theorem fr_3 (v : Int32) : ∃ d : Nat, d < 4 ∧ v &&& 3 = nI d := pk_andE v 2 (by decide)
end
section
set_option maxRecDepth 100000
set_option maxHeartbeats 4000000 in
set_option maxRecDepth 100000 in
/-- the law's call 0: add of both -/
theorem law_c0 {p : Program} {l : Launch} {e : Env} {s : State} {m : MethodId} {below : List Frame} {meth : Method} {c : Code} {b L : Nat} {xs : Nat → Int32} {D : va_G} {k : fr_k} {Q : State → Prop} (hL : L ≤ 288) (C0 : lw_At p s m meth c b L xs) (hK : fr_K D k s) {x y i ce sl : Nat} (hi : i + 6 ≤ L) (hce : ce + 8 ≤ 1200096) (hsl : sl + 500 ≤ 5501386) {made : Nat} {mz : Nat → Int64} {N : Nat → Nat} {Z : Nat → Nat → Int64} {H : Heap} {locs : List Loc} {ls : Array Slot} (hV : fr_Inv D k (fr_A s) x y made mz N Z H) (hS : va_S (fr_A s) s.heap H locs) (hl : lv_has ls 4 [(0, .ref b), (1, .ref x), (2, .ref y), (3, .int (nI i))]) (hc : fr_Cont p l e s m below meth c b x y i D k Q (ce + 8) (sl + 500)) : W p l e room_1 s m #[Value.ref b] below meth c H locs ce sl Q (F0 m 104 ls []) := by
  obtain ⟨hx, hb, hr, hml, hown, hts0, hX, hbl, hlocks, hgv⟩ := C0
  have hts : ∀ w ∈ lw_all, w.before #[Value.ref b] s = true := fun w h => hts0 w (lw_all_tbl h)
  have hA : ∀ q : Nat, s.heap.size ≤ q → fr_A s q := fun _ h => h
  have hbA : ¬ fr_A s b := Nat.not_le.mpr hbl
  obtain ⟨L1, f1, L2, f2, hI1, hI2, hdj, hd, hm⟩ := hV
  obtain ⟨fsx, m_x, v_x⟩ := hd.recv
  obtain ⟨fsy, m_y, v_y⟩ := hm.recv
  refine lv_aload_n hx hb dL_law_104 rfl (lv_at hl 1 rfl) ?_
  refine lv_aload_n hx hb dL_law_105 rfl (lv_at hl 0 rfl) ?_
  refine lv_iload_n hx hb dL_law_106 rfl (lv_at hl 3 rfl) ?_
  refine lv_iconst (v := 1) hx hb dL_law_107 (by decide) ?_
  refine lv_iadd hx hb dL_law_108 ?_
  refine fr_topi (show ((nI i) + 1) = nI (i + 1) from nI_add i 1) ?_
  refine fr_sld (j := i + 1) hx hb hX hbl hbA hS rfl (by omega) hL dL_law_109 ?_
  refine lv_aload_n hx hb dL_law_110 rfl (lv_at hl 0 rfl) ?_
  refine lv_iload_n hx hb dL_law_111 rfl (lv_at hl 3 rfl) ?_
  refine lv_iconst (v := 2) hx hb dL_law_112 (by decide) ?_
  refine lv_iadd hx hb dL_law_113 ?_
  refine fr_topi (show ((nI i) + 2) = nI (i + 2) from nI_add i 2) ?_
  refine fr_sld (j := i + 2) hx hb hX hbl hbA hS rfl (by omega) hL dL_law_114 ?_
  refine fr_xi hI1 hI2 hdj hS hA (fr_runV (As := [.int (xs (i + 1)), .int (xs (i + 2))]) (rest := []) (ci := 0) ⟨hx, hb, hml, hown, hts⟩ (metX0_add l D k (fr_B L1 H) H.size L1 f1 x made mz N Z hd (xs (i + 1)) (xs (i + 2)) (fun q h => Or.inr h)) (cwV 2 hts (lw_V q154 q155 q156 q4 q157) rfl rfl rfl (by decide +kernel) ⟨Nat.le_of_ble_eq_true rfl, Nat.le_of_ble_eq_true rfl⟩) hK (hI1.weaken fun q hq _ => Or.inl hq) m_x v_x rfl rfl rfl hl.1 rfl (Nat.le_of_ble_eq_true rfl) dL_law_115 ⟨show ce + 1 ≤ 1200096 by omega, show sl + 200 ≤ 5501386 by omega⟩) (fun r0 L1 f1 H locs hI1 hq hI2 hdj hS => ?_)
  obtain ⟨rfl, hd⟩ := hq
  refine lv_aload_n hx hb dL_law_118 rfl (lv_at hl 2 rfl) ?_
  refine lv_aload_n hx hb dL_law_119 rfl (lv_at hl 0 rfl) ?_
  refine lv_iload_n hx hb dL_law_120 rfl (lv_at hl 3 rfl) ?_
  refine lv_iconst (v := 1) hx hb dL_law_121 (by decide) ?_
  refine lv_iadd hx hb dL_law_122 ?_
  refine fr_topi (show ((nI i) + 1) = nI (i + 1) from nI_add i 1) ?_
  refine fr_sld (j := i + 1) hx hb hX hbl hbA hS rfl (by omega) hL dL_law_123 ?_
  refine lv_aload_n hx hb dL_law_124 rfl (lv_at hl 0 rfl) ?_
  refine lv_iload_n hx hb dL_law_125 rfl (lv_at hl 3 rfl) ?_
  refine lv_iconst (v := 2) hx hb dL_law_126 (by decide) ?_
  refine lv_iadd hx hb dL_law_127 ?_
  refine fr_topi (show ((nI i) + 2) = nI (i + 2) from nI_add i 2) ?_
  refine fr_sld (j := i + 2) hx hb hX hbl hbA hS rfl (by omega) hL dL_law_128 ?_
  refine fr_xi hI2 hI1 (fun q h2 h1 => hdj q h1 h2) hS hA (fr_runV (As := [.int (xs (i + 1)), .int (xs (i + 2))]) (rest := [.int (fr_fit (made + 1))]) (ci := 3) ⟨hx, hb, hml, hown, hts⟩ (metX4_add l D k (fr_B L2 H) H.size L2 f2 y made mz N Z hm (xs (i + 1)) (xs (i + 2))) (cwV 2 hts (lw_V q388 q389 q390 q12 q391) rfl rfl rfl (by decide +kernel) ⟨Nat.le_of_ble_eq_true rfl, Nat.le_of_ble_eq_true rfl⟩) hK (hI2.weaken fun q hq _ => Or.inl hq) m_y v_y rfl rfl rfl hl.1 rfl (Nat.le_of_ble_eq_true rfl) dL_law_129 ⟨show (ce + 1) + 0 ≤ 1200096 by omega, show (sl + 200) + 0 ≤ 5501386 by omega⟩) (fun r0 L2 f2 H locs hI2 hq hI1 hdj hS => ?_)
  have hdj := fun q (h1 : q ∈ L1) (h2 : q ∈ L2) => hdj q h2 h1
  obtain ⟨rfl, hm⟩ := hq
  refine lv_icmp_eq (tgt := 544) hx hb dL_law_132 (by decide) (fun _ => ?_) (fun c_9 => absurd (show (fr_fit (made + 1)) = (fr_fit (made + 1)) from rfl) c_9)
  refine W.widen (k := ce + 8) (n := sl + 500) (by omega) (by omega) ?_
  exact hc _ _ _ _ H locs ⟨L1, f1, L2, f2, hI1, hI2, hdj, hd, hm⟩ hS ls (lv_sub hl [0, 1, 2, 3] rfl)
set_option maxHeartbeats 4000000 in
set_option maxRecDepth 100000 in
/-- the law's call 1: addRow of both -/
theorem law_c1 {p : Program} {l : Launch} {e : Env} {s : State} {m : MethodId} {below : List Frame} {meth : Method} {c : Code} {b L : Nat} {xs : Nat → Int32} {D : va_G} {k : fr_k} {Q : State → Prop} (hL : L ≤ 288) (C0 : lw_At p s m meth c b L xs) (hK : fr_K D k s) {x y i ce sl : Nat} (hi : i + 6 ≤ L) (hce : ce + 8 ≤ 1200096) (hsl : sl + 500 ≤ 5501386) {made : Nat} {mz : Nat → Int64} {N : Nat → Nat} {Z : Nat → Nat → Int64} {H : Heap} {locs : List Loc} {ls : Array Slot} (hV : fr_Inv D k (fr_A s) x y made mz N Z H) (hS : va_S (fr_A s) s.heap H locs) (hl : lv_has ls 4 [(0, .ref b), (1, .ref x), (2, .ref y), (3, .int (nI i))]) (hc : fr_Cont p l e s m below meth c b x y i D k Q (ce + 8) (sl + 500)) : W p l e room_1 s m #[Value.ref b] below meth c H locs ce sl Q (F0 m 137 ls []) := by
  obtain ⟨hx, hb, hr, hml, hown, hts0, hX, hbl, hlocks, hgv⟩ := C0
  have hts : ∀ w ∈ lw_all, w.before #[Value.ref b] s = true := fun w h => hts0 w (lw_all_tbl h)
  have hA : ∀ q : Nat, s.heap.size ≤ q → fr_A s q := fun _ h => h
  have hbA : ¬ fr_A s b := Nat.not_le.mpr hbl
  obtain ⟨L1, f1, L2, f2, hI1, hI2, hdj, hd, hm⟩ := hV
  obtain ⟨fsx, m_x, v_x⟩ := hd.recv
  obtain ⟨fsy, m_y, v_y⟩ := hm.recv
  obtain ⟨j, hj, ej⟩ := fr_3 (xs (i + 1))
  refine lv_aload_n hx hb dL_law_137 rfl (lv_at hl 1 rfl) ?_
  refine lv_aload_n hx hb dL_law_138 rfl (lv_at hl 0 rfl) ?_
  refine lv_iload_n hx hb dL_law_139 rfl (lv_at hl 3 rfl) ?_
  refine lv_iconst (v := 1) hx hb dL_law_140 (by decide) ?_
  refine lv_iadd hx hb dL_law_141 ?_
  refine fr_topi (show ((nI i) + 1) = nI (i + 1) from nI_add i 1) ?_
  refine fr_sld (j := i + 1) hx hb hX hbl hbA hS rfl (by omega) hL dL_law_142 ?_
  refine fr_xi hI1 hI2 hdj hS hA (fr_runV (As := [.int (xs (i + 1))]) (rest := []) (ci := 0) ⟨hx, hb, hml, hown, hts⟩ (metX0_addRow l D k (fr_B L1 H) H.size L1 f1 x made mz N Z hd (xs (i + 1)) j hj ej (fun q h => Or.inr h)) (cwV 1 hts (lw_V q214 q215 q216 q4 q217) rfl rfl rfl (by decide +kernel) ⟨Nat.le_of_ble_eq_true rfl, Nat.le_of_ble_eq_true rfl⟩) hK (hI1.weaken fun q hq _ => Or.inl hq) m_x v_x rfl rfl rfl hl.1 rfl (Nat.le_of_ble_eq_true rfl) dL_law_143 ⟨show ce + 1 ≤ 1200096 by omega, show sl + 200 ≤ 5501386 by omega⟩) (fun r0 L1 f1 H locs hI1 hq hI2 hdj hS => ?_)
  obtain ⟨rfl, hd⟩ := hq
  refine lv_aload_n hx hb dL_law_146 rfl (lv_at hl 2 rfl) ?_
  refine lv_aload_n hx hb dL_law_147 rfl (lv_at hl 0 rfl) ?_
  refine lv_iload_n hx hb dL_law_148 rfl (lv_at hl 3 rfl) ?_
  refine lv_iconst (v := 1) hx hb dL_law_149 (by decide) ?_
  refine lv_iadd hx hb dL_law_150 ?_
  refine fr_topi (show ((nI i) + 1) = nI (i + 1) from nI_add i 1) ?_
  refine fr_sld (j := i + 1) hx hb hX hbl hbA hS rfl (by omega) hL dL_law_151 ?_
  refine fr_xi hI2 hI1 (fun q h2 h1 => hdj q h1 h2) hS hA (fr_runV (As := [.int (xs (i + 1))]) (rest := [.int (fr_fit (made + N j))]) (ci := 3) ⟨hx, hb, hml, hown, hts⟩ (metX4_addRow l D k (fr_B L2 H) H.size L2 f2 y made mz N Z hm (xs (i + 1)) j hj ej) (cwV 1 hts (lw_V q396 q397 q398 q12 q399) rfl rfl rfl (by decide +kernel) ⟨Nat.le_of_ble_eq_true rfl, Nat.le_of_ble_eq_true rfl⟩) hK (hI2.weaken fun q hq _ => Or.inl hq) m_y v_y rfl rfl rfl hl.1 rfl (Nat.le_of_ble_eq_true rfl) dL_law_152 ⟨show (ce + 1) + 0 ≤ 1200096 by omega, show (sl + 200) + 0 ≤ 5501386 by omega⟩) (fun r0 L2 f2 H locs hI2 hq hI1 hdj hS => ?_)
  have hdj := fun q (h1 : q ∈ L1) (h2 : q ∈ L2) => hdj q h2 h1
  obtain ⟨rfl, hm⟩ := hq
  refine lv_icmp_eq (tgt := 544) hx hb dL_law_155 (by decide) (fun _ => ?_) (fun c_9 => absurd (show (fr_fit (made + N j)) = (fr_fit (made + N j)) from rfl) c_9)
  refine W.widen (k := ce + 8) (n := sl + 500) (by omega) (by omega) ?_
  exact hc _ _ _ _ H locs ⟨L1, f1, L2, f2, hI1, hI2, hdj, hd, hm⟩ hS ls (lv_sub hl [0, 1, 2, 3] rfl)
set_option maxHeartbeats 4000000 in
set_option maxRecDepth 100000 in
/-- the law's call 2: build of both -/
theorem law_c2 {p : Program} {l : Launch} {e : Env} {s : State} {m : MethodId} {below : List Frame} {meth : Method} {c : Code} {b L : Nat} {xs : Nat → Int32} {D : va_G} {k : fr_k} {Q : State → Prop} (hL : L ≤ 288) (C0 : lw_At p s m meth c b L xs) (hK : fr_K D k s) {x y i ce sl : Nat} (hi : i + 6 ≤ L) (hce : ce + 8 ≤ 1200096) (hsl : sl + 500 ≤ 5501386) {made : Nat} {mz : Nat → Int64} {N : Nat → Nat} {Z : Nat → Nat → Int64} {H : Heap} {locs : List Loc} {ls : Array Slot} (hV : fr_Inv D k (fr_A s) x y made mz N Z H) (hS : va_S (fr_A s) s.heap H locs) (hl : lv_has ls 4 [(0, .ref b), (1, .ref x), (2, .ref y), (3, .int (nI i))]) (hc : fr_Cont p l e s m below meth c b x y i D k Q (ce + 8) (sl + 500)) : W p l e room_1 s m #[Value.ref b] below meth c H locs ce sl Q (F0 m 160 ls []) := by
  obtain ⟨hx, hb, hr, hml, hown, hts0, hX, hbl, hlocks, hgv⟩ := C0
  have hts : ∀ w ∈ lw_all, w.before #[Value.ref b] s = true := fun w h => hts0 w (lw_all_tbl h)
  have hA : ∀ q : Nat, s.heap.size ≤ q → fr_A s q := fun _ h => h
  have hbA : ¬ fr_A s b := Nat.not_le.mpr hbl
  obtain ⟨L1, f1, L2, f2, hI1, hI2, hdj, hd, hm⟩ := hV
  obtain ⟨fsx, m_x, v_x⟩ := hd.recv
  obtain ⟨fsy, m_y, v_y⟩ := hm.recv
  obtain ⟨j, hj, ej⟩ := fr_3 (xs (i + 1))
  refine lv_aload_n hx hb dL_law_160 rfl (lv_at hl 1 rfl) ?_
  refine lv_aload_n hx hb dL_law_161 rfl (lv_at hl 0 rfl) ?_
  refine lv_iload_n hx hb dL_law_162 rfl (lv_at hl 3 rfl) ?_
  refine lv_iconst (v := 1) hx hb dL_law_163 (by decide) ?_
  refine lv_iadd hx hb dL_law_164 ?_
  refine fr_topi (show ((nI i) + 1) = nI (i + 1) from nI_add i 1) ?_
  refine fr_sld (j := i + 1) hx hb hX hbl hbA hS rfl (by omega) hL dL_law_165 ?_
  refine fr_xi hI1 hI2 hdj hS hA (fr_runV (As := [.int (xs (i + 1))]) (rest := []) (ci := 0) ⟨hx, hb, hml, hown, hts⟩ (metX0_build l D k (fr_B L1 H) H.size L1 f1 x made mz N Z hd (xs (i + 1)) j hj ej (fun q h => Or.inr h)) (cwV 1 hts (lw_V q228 q229 q230 q4 q231) rfl rfl rfl (by decide +kernel) ⟨Nat.le_of_ble_eq_true rfl, Nat.le_of_ble_eq_true rfl⟩) hK (hI1.weaken fun q hq _ => Or.inl hq) m_x v_x rfl rfl rfl hl.1 rfl (Nat.le_of_ble_eq_true rfl) dL_law_166 ⟨show ce + 2 ≤ 1200096 by omega, show sl + 3 ≤ 5501386 by omega⟩) (fun r0 L1 f1 H locs hI1 hq hI2 hdj hS => ?_)
  obtain ⟨rfl, hd⟩ := hq
  refine lv_aload_n hx hb dL_law_169 rfl (lv_at hl 2 rfl) ?_
  refine lv_aload_n hx hb dL_law_170 rfl (lv_at hl 0 rfl) ?_
  refine lv_iload_n hx hb dL_law_171 rfl (lv_at hl 3 rfl) ?_
  refine lv_iconst (v := 1) hx hb dL_law_172 (by decide) ?_
  refine lv_iadd hx hb dL_law_173 ?_
  refine fr_topi (show ((nI i) + 1) = nI (i + 1) from nI_add i 1) ?_
  refine fr_sld (j := i + 1) hx hb hX hbl hbA hS rfl (by omega) hL dL_law_174 ?_
  refine fr_xi hI2 hI1 (fun q h2 h1 => hdj q h1 h2) hS hA (fr_runV (As := [.int (xs (i + 1))]) (rest := [.int (nI made)]) (ci := 3) ⟨hx, hb, hml, hown, hts⟩ (metX4_build l D k (fr_B L2 H) H.size L2 f2 y made mz N Z hm (xs (i + 1)) j hj ej (fun q h => Or.inr h)) (cwV 1 hts (lw_V q400 q401 q402 q12 q403) rfl rfl rfl (by decide +kernel) ⟨Nat.le_of_ble_eq_true rfl, Nat.le_of_ble_eq_true rfl⟩) hK (hI2.weaken fun q hq _ => Or.inl hq) m_y v_y rfl rfl rfl hl.1 rfl (Nat.le_of_ble_eq_true rfl) dL_law_175 ⟨show (ce + 2) + 1 ≤ 1200096 by omega, show (sl + 3) + 200 ≤ 5501386 by omega⟩) (fun r0 L2 f2 H locs hI2 hq hI1 hdj hS => ?_)
  have hdj := fun q (h1 : q ∈ L1) (h2 : q ∈ L2) => hdj q h2 h1
  obtain ⟨rfl, hm⟩ := hq
  refine lv_icmp_eq (tgt := 544) hx hb dL_law_178 (by decide) (fun _ => ?_) (fun c_9 => absurd (show (nI made) = (nI made) from rfl) c_9)
  refine W.widen (k := ce + 8) (n := sl + 500) (by omega) (by omega) ?_
  exact hc _ _ _ _ H locs ⟨L1, f1, L2, f2, hI1, hI2, hdj, hd, hm⟩ hS ls (lv_sub hl [0, 1, 2, 3] rfl)
set_option maxHeartbeats 4000000 in
set_option maxRecDepth 100000 in
/-- the law's call 3: anew of both -/
theorem law_c3 {p : Program} {l : Launch} {e : Env} {s : State} {m : MethodId} {below : List Frame} {meth : Method} {c : Code} {b L : Nat} {xs : Nat → Int32} {D : va_G} {k : fr_k} {Q : State → Prop} (hL : L ≤ 288) (C0 : lw_At p s m meth c b L xs) (hK : fr_K D k s) {x y i ce sl : Nat} (hi : i + 6 ≤ L) (hce : ce + 8 ≤ 1200096) (hsl : sl + 500 ≤ 5501386) {made : Nat} {mz : Nat → Int64} {N : Nat → Nat} {Z : Nat → Nat → Int64} {H : Heap} {locs : List Loc} {ls : Array Slot} (hV : fr_Inv D k (fr_A s) x y made mz N Z H) (hS : va_S (fr_A s) s.heap H locs) (hl : lv_has ls 4 [(0, .ref b), (1, .ref x), (2, .ref y), (3, .int (nI i))]) (hc : fr_Cont p l e s m below meth c b x y i D k Q (ce + 8) (sl + 500)) : W p l e room_1 s m #[Value.ref b] below meth c H locs ce sl Q (F0 m 183 ls []) := by
  obtain ⟨hx, hb, hr, hml, hown, hts0, hX, hbl, hlocks, hgv⟩ := C0
  have hts : ∀ w ∈ lw_all, w.before #[Value.ref b] s = true := fun w h => hts0 w (lw_all_tbl h)
  have hA : ∀ q : Nat, s.heap.size ≤ q → fr_A s q := fun _ h => h
  have hbA : ¬ fr_A s b := Nat.not_le.mpr hbl
  obtain ⟨L1, f1, L2, f2, hI1, hI2, hdj, hd, hm⟩ := hV
  obtain ⟨fsx, m_x, v_x⟩ := hd.recv
  obtain ⟨fsy, m_y, v_y⟩ := hm.recv
  refine lv_aload_n hx hb dL_law_183 rfl (lv_at hl 1 rfl) ?_
  refine lv_aload_n hx hb dL_law_184 rfl (lv_at hl 0 rfl) ?_
  refine lv_iload_n hx hb dL_law_185 rfl (lv_at hl 3 rfl) ?_
  refine lv_iconst (v := 1) hx hb dL_law_186 (by decide) ?_
  refine lv_iadd hx hb dL_law_187 ?_
  refine fr_topi (show ((nI i) + 1) = nI (i + 1) from nI_add i 1) ?_
  refine fr_sld (j := i + 1) hx hb hX hbl hbA hS rfl (by omega) hL dL_law_188 ?_
  refine fr_xv hI1 hI2 hdj hS hA (fr_runV (As := [.int (xs (i + 1))]) (rest := []) (ci := 0) ⟨hx, hb, hml, hown, hts⟩ (metX0_anew l D k (fr_B L1 H) H.size L1 f1 x made mz N Z hd (xs (i + 1)) (fun q h => Or.inr h)) (cwV 1 hts (lw_V q239 q240 q241 q4 q242) rfl rfl rfl (by decide +kernel) ⟨Nat.le_of_ble_eq_true rfl, Nat.le_of_ble_eq_true rfl⟩) hK (hI1.weaken fun q hq _ => Or.inl hq) m_x v_x rfl rfl rfl hl.1 rfl (Nat.le_of_ble_eq_true rfl) dL_law_189 ⟨show ce + 2 ≤ 1200096 by omega, show sl + 202 ≤ 5501386 by omega⟩) (fun L1 f1 H locs hI1 hq hI2 hdj hS => ?_)
  have hd := hq
  refine lv_aload_n hx hb dL_law_192 rfl (lv_at hl 2 rfl) ?_
  refine lv_aload_n hx hb dL_law_193 rfl (lv_at hl 0 rfl) ?_
  refine lv_iload_n hx hb dL_law_194 rfl (lv_at hl 3 rfl) ?_
  refine lv_iconst (v := 1) hx hb dL_law_195 (by decide) ?_
  refine lv_iadd hx hb dL_law_196 ?_
  refine fr_topi (show ((nI i) + 1) = nI (i + 1) from nI_add i 1) ?_
  refine fr_sld (j := i + 1) hx hb hX hbl hbA hS rfl (by omega) hL dL_law_197 ?_
  refine fr_xv hI2 hI1 (fun q h2 h1 => hdj q h1 h2) hS hA (fr_runV (As := [.int (xs (i + 1))]) (rest := []) (ci := 3) ⟨hx, hb, hml, hown, hts⟩ (metX4_anew l D k (fr_B L2 H) H.size L2 f2 y made mz N Z hm (xs (i + 1))) (cwV 1 hts (lw_V q407 q408 q409 q12 q410) rfl rfl rfl (by decide +kernel) ⟨Nat.le_of_ble_eq_true rfl, Nat.le_of_ble_eq_true rfl⟩) hK (hI2.weaken fun q hq _ => Or.inl hq) m_y v_y rfl rfl rfl hl.1 rfl (Nat.le_of_ble_eq_true rfl) dL_law_198 ⟨show (ce + 2) + 0 ≤ 1200096 by omega, show (sl + 202) + 0 ≤ 5501386 by omega⟩) (fun L2 f2 H locs hI2 hq hI1 hdj hS => ?_)
  have hdj := fun q (h1 : q ∈ L1) (h2 : q ∈ L2) => hdj q h2 h1
  have hm := hq
  refine lv_goto (tgt := 544) hx hb dL_law_201 (by decide) ?_
  refine W.widen (k := ce + 8) (n := sl + 500) (by omega) (by omega) ?_
  exact hc _ _ _ _ H locs ⟨L1, f1, L2, f2, hI1, hI2, hdj, hd, hm⟩ hS ls (lv_sub hl [0, 1, 2, 3] rfl)
set_option maxHeartbeats 4000000 in
set_option maxRecDepth 100000 in
/-- the law's call 4: part of both -/
theorem law_c4 {p : Program} {l : Launch} {e : Env} {s : State} {m : MethodId} {below : List Frame} {meth : Method} {c : Code} {b L : Nat} {xs : Nat → Int32} {D : va_G} {k : fr_k} {Q : State → Prop} (hL : L ≤ 288) (C0 : lw_At p s m meth c b L xs) (hK : fr_K D k s) {x y i ce sl : Nat} (hi : i + 6 ≤ L) (hce : ce + 8 ≤ 1200096) (hsl : sl + 500 ≤ 5501386) {made : Nat} {mz : Nat → Int64} {N : Nat → Nat} {Z : Nat → Nat → Int64} {H : Heap} {locs : List Loc} {ls : Array Slot} (hV : fr_Inv D k (fr_A s) x y made mz N Z H) (hS : va_S (fr_A s) s.heap H locs) (hl : lv_has ls 4 [(0, .ref b), (1, .ref x), (2, .ref y), (3, .int (nI i))]) (hc : fr_Cont p l e s m below meth c b x y i D k Q (ce + 8) (sl + 500)) : W p l e room_1 s m #[Value.ref b] below meth c H locs ce sl Q (F0 m 204 ls []) := by
  obtain ⟨hx, hb, hr, hml, hown, hts0, hX, hbl, hlocks, hgv⟩ := C0
  have hts : ∀ w ∈ lw_all, w.before #[Value.ref b] s = true := fun w h => hts0 w (lw_all_tbl h)
  have hA : ∀ q : Nat, s.heap.size ≤ q → fr_A s q := fun _ h => h
  have hbA : ¬ fr_A s b := Nat.not_le.mpr hbl
  obtain ⟨L1, f1, L2, f2, hI1, hI2, hdj, hd, hm⟩ := hV
  obtain ⟨fsx, m_x, v_x⟩ := hd.recv
  obtain ⟨fsy, m_y, v_y⟩ := hm.recv
  obtain ⟨t, ht, et⟩ := fr_3 (xs (i + 1))
  obtain ⟨j, hj, ej⟩ := fr_3 (xs (i + 2))
  refine lv_aload_n hx hb dL_law_204 rfl (lv_at hl 1 rfl) ?_
  refine lv_aload_n hx hb dL_law_205 rfl (lv_at hl 0 rfl) ?_
  refine lv_iload_n hx hb dL_law_206 rfl (lv_at hl 3 rfl) ?_
  refine lv_iconst (v := 1) hx hb dL_law_207 (by decide) ?_
  refine lv_iadd hx hb dL_law_208 ?_
  refine fr_topi (show ((nI i) + 1) = nI (i + 1) from nI_add i 1) ?_
  refine fr_sld (j := i + 1) hx hb hX hbl hbA hS rfl (by omega) hL dL_law_209 ?_
  refine lv_aload_n hx hb dL_law_210 rfl (lv_at hl 0 rfl) ?_
  refine lv_iload_n hx hb dL_law_211 rfl (lv_at hl 3 rfl) ?_
  refine lv_iconst (v := 2) hx hb dL_law_212 (by decide) ?_
  refine lv_iadd hx hb dL_law_213 ?_
  refine fr_topi (show ((nI i) + 2) = nI (i + 2) from nI_add i 2) ?_
  refine fr_sld (j := i + 2) hx hb hX hbl hbA hS rfl (by omega) hL dL_law_214 ?_
  refine lv_aload_n hx hb dL_law_215 rfl (lv_at hl 0 rfl) ?_
  refine lv_iload_n hx hb dL_law_216 rfl (lv_at hl 3 rfl) ?_
  refine lv_iconst (v := 3) hx hb dL_law_217 (by decide) ?_
  refine lv_iadd hx hb dL_law_218 ?_
  refine fr_topi (show ((nI i) + 3) = nI (i + 3) from nI_add i 3) ?_
  refine fr_sld (j := i + 3) hx hb hX hbl hbA hS rfl (by omega) hL dL_law_219 ?_
  refine lv_aload_n hx hb dL_law_220 rfl (lv_at hl 0 rfl) ?_
  refine lv_iload_n hx hb dL_law_221 rfl (lv_at hl 3 rfl) ?_
  refine lv_iconst (v := 4) hx hb dL_law_222 (by decide) ?_
  refine lv_iadd hx hb dL_law_223 ?_
  refine fr_topi (show ((nI i) + 4) = nI (i + 4) from nI_add i 4) ?_
  refine fr_sld (j := i + 4) hx hb hX hbl hbA hS rfl (by omega) hL dL_law_224 ?_
  refine fr_xi hI1 hI2 hdj hS hA (fr_runV (As := [.int (xs (i + 1)), .int (xs (i + 2)), .int (xs (i + 3)), .int (xs (i + 4))]) (rest := []) (ci := 0) ⟨hx, hb, hml, hown, hts⟩ (metX0_part l D k (fr_B L1 H) H.size L1 f1 x made mz N Z hd (xs (i + 1)) (xs (i + 2)) (xs (i + 3)) (xs (i + 4)) t j ht et hj ej (fun q h => Or.inr h)) (cwV 4 hts (lw_V q243 q244 q245 q4 q246) rfl rfl rfl (by decide +kernel) ⟨Nat.le_of_ble_eq_true rfl, Nat.le_of_ble_eq_true rfl⟩) hK (hI1.weaken fun q hq _ => Or.inl hq) m_x v_x rfl rfl rfl hl.1 rfl (Nat.le_of_ble_eq_true rfl) dL_law_225 ⟨show ce + 2 ≤ 1200096 by omega, show sl + 3 ≤ 5501386 by omega⟩) (fun r0 L1 f1 H locs hI1 hq hI2 hdj hS => ?_)
  obtain ⟨rfl, hd⟩ := hq
  refine lv_aload_n hx hb dL_law_228 rfl (lv_at hl 2 rfl) ?_
  refine lv_aload_n hx hb dL_law_229 rfl (lv_at hl 0 rfl) ?_
  refine lv_iload_n hx hb dL_law_230 rfl (lv_at hl 3 rfl) ?_
  refine lv_iconst (v := 1) hx hb dL_law_231 (by decide) ?_
  refine lv_iadd hx hb dL_law_232 ?_
  refine fr_topi (show ((nI i) + 1) = nI (i + 1) from nI_add i 1) ?_
  refine fr_sld (j := i + 1) hx hb hX hbl hbA hS rfl (by omega) hL dL_law_233 ?_
  refine lv_aload_n hx hb dL_law_234 rfl (lv_at hl 0 rfl) ?_
  refine lv_iload_n hx hb dL_law_235 rfl (lv_at hl 3 rfl) ?_
  refine lv_iconst (v := 2) hx hb dL_law_236 (by decide) ?_
  refine lv_iadd hx hb dL_law_237 ?_
  refine fr_topi (show ((nI i) + 2) = nI (i + 2) from nI_add i 2) ?_
  refine fr_sld (j := i + 2) hx hb hX hbl hbA hS rfl (by omega) hL dL_law_238 ?_
  refine lv_aload_n hx hb dL_law_239 rfl (lv_at hl 0 rfl) ?_
  refine lv_iload_n hx hb dL_law_240 rfl (lv_at hl 3 rfl) ?_
  refine lv_iconst (v := 3) hx hb dL_law_241 (by decide) ?_
  refine lv_iadd hx hb dL_law_242 ?_
  refine fr_topi (show ((nI i) + 3) = nI (i + 3) from nI_add i 3) ?_
  refine fr_sld (j := i + 3) hx hb hX hbl hbA hS rfl (by omega) hL dL_law_243 ?_
  refine lv_aload_n hx hb dL_law_244 rfl (lv_at hl 0 rfl) ?_
  refine lv_iload_n hx hb dL_law_245 rfl (lv_at hl 3 rfl) ?_
  refine lv_iconst (v := 4) hx hb dL_law_246 (by decide) ?_
  refine lv_iadd hx hb dL_law_247 ?_
  refine fr_topi (show ((nI i) + 4) = nI (i + 4) from nI_add i 4) ?_
  refine fr_sld (j := i + 4) hx hb hX hbl hbA hS rfl (by omega) hL dL_law_248 ?_
  refine fr_xi hI2 hI1 (fun q h2 h1 => hdj q h1 h2) hS hA (fr_runV (As := [.int (xs (i + 1)), .int (xs (i + 2)), .int (xs (i + 3)), .int (xs (i + 4))]) (rest := [.int (nI (fr_C (N j) (fr_F (N j) (xs (i + 3))) (xs (i + 4))))]) (ci := 3) ⟨hx, hb, hml, hown, hts⟩ (metX4_part l D k (fr_B L2 H) H.size L2 f2 y made mz N Z hm (xs (i + 1)) (xs (i + 2)) (xs (i + 3)) (xs (i + 4)) t j ht et hj ej (fun q h => Or.inr h)) (cwV 4 hts (lw_V q411 q412 q413 q12 q414) rfl rfl rfl (by decide +kernel) ⟨Nat.le_of_ble_eq_true rfl, Nat.le_of_ble_eq_true rfl⟩) hK (hI2.weaken fun q hq _ => Or.inl hq) m_y v_y rfl rfl rfl hl.1 rfl (Nat.le_of_ble_eq_true rfl) dL_law_249 ⟨show (ce + 2) + 1 ≤ 1200096 by omega, show (sl + 3) + 200 ≤ 5501386 by omega⟩) (fun r0 L2 f2 H locs hI2 hq hI1 hdj hS => ?_)
  have hdj := fun q (h1 : q ∈ L1) (h2 : q ∈ L2) => hdj q h2 h1
  obtain ⟨rfl, hm⟩ := hq
  refine lv_icmp_eq (tgt := 544) hx hb dL_law_252 (by decide) (fun _ => ?_) (fun c_9 => absurd (show (nI (fr_C (N j) (fr_F (N j) (xs (i + 3))) (xs (i + 4)))) = (nI (fr_C (N j) (fr_F (N j) (xs (i + 3))) (xs (i + 4)))) from rfl) c_9)
  refine W.widen (k := ce + 8) (n := sl + 500) (by omega) (by omega) ?_
  exact hc _ _ _ _ H locs ⟨L1, f1, L2, f2, hI1, hI2, hdj, hd, hm⟩ hS ls (lv_sub hl [0, 1, 2, 3] rfl)
set_option maxHeartbeats 4000000 in
set_option maxRecDepth 100000 in
/-- the law's call 5: trim of both -/
theorem law_c5 {p : Program} {l : Launch} {e : Env} {s : State} {m : MethodId} {below : List Frame} {meth : Method} {c : Code} {b L : Nat} {xs : Nat → Int32} {D : va_G} {k : fr_k} {Q : State → Prop} (hL : L ≤ 288) (C0 : lw_At p s m meth c b L xs) (hK : fr_K D k s) {x y i ce sl : Nat} (hi : i + 6 ≤ L) (hce : ce + 8 ≤ 1200096) (hsl : sl + 500 ≤ 5501386) {made : Nat} {mz : Nat → Int64} {N : Nat → Nat} {Z : Nat → Nat → Int64} {H : Heap} {locs : List Loc} {ls : Array Slot} (hV : fr_Inv D k (fr_A s) x y made mz N Z H) (hS : va_S (fr_A s) s.heap H locs) (hl : lv_has ls 4 [(0, .ref b), (1, .ref x), (2, .ref y), (3, .int (nI i))]) (hc : fr_Cont p l e s m below meth c b x y i D k Q (ce + 8) (sl + 500)) : W p l e room_1 s m #[Value.ref b] below meth c H locs ce sl Q (F0 m 257 ls []) := by
  obtain ⟨hx, hb, hr, hml, hown, hts0, hX, hbl, hlocks, hgv⟩ := C0
  have hts : ∀ w ∈ lw_all, w.before #[Value.ref b] s = true := fun w h => hts0 w (lw_all_tbl h)
  have hA : ∀ q : Nat, s.heap.size ≤ q → fr_A s q := fun _ h => h
  have hbA : ¬ fr_A s b := Nat.not_le.mpr hbl
  obtain ⟨L1, f1, L2, f2, hI1, hI2, hdj, hd, hm⟩ := hV
  obtain ⟨fsx, m_x, v_x⟩ := hd.recv
  obtain ⟨fsy, m_y, v_y⟩ := hm.recv
  obtain ⟨j, hj, ej⟩ := fr_3 (xs (i + 1))
  refine lv_aload_n hx hb dL_law_257 rfl (lv_at hl 1 rfl) ?_
  refine lv_aload_n hx hb dL_law_258 rfl (lv_at hl 0 rfl) ?_
  refine lv_iload_n hx hb dL_law_259 rfl (lv_at hl 3 rfl) ?_
  refine lv_iconst (v := 1) hx hb dL_law_260 (by decide) ?_
  refine lv_iadd hx hb dL_law_261 ?_
  refine fr_topi (show ((nI i) + 1) = nI (i + 1) from nI_add i 1) ?_
  refine fr_sld (j := i + 1) hx hb hX hbl hbA hS rfl (by omega) hL dL_law_262 ?_
  refine fr_xv hI1 hI2 hdj hS hA (fr_runV (As := [.int (xs (i + 1))]) (rest := []) (ci := 0) ⟨hx, hb, hml, hown, hts⟩ (metX0_trim l D k (fr_B L1 H) H.size L1 f1 x made mz N Z hd (xs (i + 1)) j hj ej (fun q h => Or.inr h)) (cwV 1 hts (lw_V q271 q272 q273 q4 q274) rfl rfl rfl (by decide +kernel) ⟨Nat.le_of_ble_eq_true rfl, Nat.le_of_ble_eq_true rfl⟩) hK (hI1.weaken fun q hq _ => Or.inl hq) m_x v_x rfl rfl rfl hl.1 rfl (Nat.le_of_ble_eq_true rfl) dL_law_263 ⟨show ce + 2 ≤ 1200096 by omega, show sl + 203 ≤ 5501386 by omega⟩) (fun L1 f1 H locs hI1 hq hI2 hdj hS => ?_)
  have hd := hq
  refine lv_aload_n hx hb dL_law_266 rfl (lv_at hl 2 rfl) ?_
  refine lv_aload_n hx hb dL_law_267 rfl (lv_at hl 0 rfl) ?_
  refine lv_iload_n hx hb dL_law_268 rfl (lv_at hl 3 rfl) ?_
  refine lv_iconst (v := 1) hx hb dL_law_269 (by decide) ?_
  refine lv_iadd hx hb dL_law_270 ?_
  refine fr_topi (show ((nI i) + 1) = nI (i + 1) from nI_add i 1) ?_
  refine fr_sld (j := i + 1) hx hb hX hbl hbA hS rfl (by omega) hL dL_law_271 ?_
  refine fr_xv hI2 hI1 (fun q h2 h1 => hdj q h1 h2) hS hA (fr_runV (As := [.int (xs (i + 1))]) (rest := []) (ci := 3) ⟨hx, hb, hml, hown, hts⟩ (metX4_trim l D k (fr_B L2 H) H.size L2 f2 y made mz N Z hm (xs (i + 1)) j hj ej (fun q h => Or.inr h)) (cwV 1 hts (lw_V q416 q417 q418 q12 q419) rfl rfl rfl (by decide +kernel) ⟨Nat.le_of_ble_eq_true rfl, Nat.le_of_ble_eq_true rfl⟩) hK (hI2.weaken fun q hq _ => Or.inl hq) m_y v_y rfl rfl rfl hl.1 rfl (Nat.le_of_ble_eq_true rfl) dL_law_272 ⟨show (ce + 2) + 1 ≤ 1200096 by omega, show (sl + 203) + 200 ≤ 5501386 by omega⟩) (fun L2 f2 H locs hI2 hq hI1 hdj hS => ?_)
  have hdj := fun q (h1 : q ∈ L1) (h2 : q ∈ L2) => hdj q h2 h1
  have hm := hq
  refine lv_goto (tgt := 544) hx hb dL_law_275 (by decide) ?_
  refine W.widen (k := ce + 8) (n := sl + 500) (by omega) (by omega) ?_
  exact hc _ _ _ _ H locs ⟨L1, f1, L2, f2, hI1, hI2, hdj, hd, hm⟩ hS ls (lv_sub hl [0, 1, 2, 3] rfl)
set_option maxHeartbeats 4000000 in
set_option maxRecDepth 100000 in
/-- the law's call 6: get of both -/
theorem law_c6 {p : Program} {l : Launch} {e : Env} {s : State} {m : MethodId} {below : List Frame} {meth : Method} {c : Code} {b L : Nat} {xs : Nat → Int32} {D : va_G} {k : fr_k} {Q : State → Prop} (hL : L ≤ 288) (C0 : lw_At p s m meth c b L xs) (hK : fr_K D k s) {x y i ce sl : Nat} (hi : i + 6 ≤ L) (hce : ce + 8 ≤ 1200096) (hsl : sl + 500 ≤ 5501386) {made : Nat} {mz : Nat → Int64} {N : Nat → Nat} {Z : Nat → Nat → Int64} {H : Heap} {locs : List Loc} {ls : Array Slot} (hV : fr_Inv D k (fr_A s) x y made mz N Z H) (hS : va_S (fr_A s) s.heap H locs) (hl : lv_has ls 4 [(0, .ref b), (1, .ref x), (2, .ref y), (3, .int (nI i))]) (hc : fr_Cont p l e s m below meth c b x y i D k Q (ce + 8) (sl + 500)) : W p l e room_1 s m #[Value.ref b] below meth c H locs ce sl Q (F0 m 278 ls []) := by
  obtain ⟨hx, hb, hr, hml, hown, hts0, hX, hbl, hlocks, hgv⟩ := C0
  have hts : ∀ w ∈ lw_all, w.before #[Value.ref b] s = true := fun w h => hts0 w (lw_all_tbl h)
  have hA : ∀ q : Nat, s.heap.size ≤ q → fr_A s q := fun _ h => h
  have hbA : ¬ fr_A s b := Nat.not_le.mpr hbl
  obtain ⟨L1, f1, L2, f2, hI1, hI2, hdj, hd, hm⟩ := hV
  obtain ⟨fsx, m_x, v_x⟩ := hd.recv
  obtain ⟨fsy, m_y, v_y⟩ := hm.recv
  obtain ⟨j, hj, ej⟩ := fr_3 (xs (i + 1))
  refine lv_aload_n hx hb dL_law_278 rfl (lv_at hl 1 rfl) ?_
  refine lv_aload_n hx hb dL_law_279 rfl (lv_at hl 0 rfl) ?_
  refine lv_iload_n hx hb dL_law_280 rfl (lv_at hl 3 rfl) ?_
  refine lv_iconst (v := 1) hx hb dL_law_281 (by decide) ?_
  refine lv_iadd hx hb dL_law_282 ?_
  refine fr_topi (show ((nI i) + 1) = nI (i + 1) from nI_add i 1) ?_
  refine fr_sld (j := i + 1) hx hb hX hbl hbA hS rfl (by omega) hL dL_law_283 ?_
  refine lv_aload_n hx hb dL_law_284 rfl (lv_at hl 0 rfl) ?_
  refine lv_iload_n hx hb dL_law_285 rfl (lv_at hl 3 rfl) ?_
  refine lv_iconst (v := 2) hx hb dL_law_286 (by decide) ?_
  refine lv_iadd hx hb dL_law_287 ?_
  refine fr_topi (show ((nI i) + 2) = nI (i + 2) from nI_add i 2) ?_
  refine fr_sld (j := i + 2) hx hb hX hbl hbA hS rfl (by omega) hL dL_law_288 ?_
  refine fr_xl hI1 hI2 hdj hS hA (fr_runV (As := [.int (xs (i + 1)), .int (xs (i + 2))]) (rest := []) (ci := 0) ⟨hx, hb, hml, hown, hts⟩ (metX0_get l D k (fr_B L1 H) H.size L1 f1 x made mz N Z hd (xs (i + 1)) j hj ej (xs (i + 2))) (cwV 2 hts (lw_V q296 q297 q298 q4 q299) rfl rfl rfl (by decide +kernel) ⟨Nat.le_of_ble_eq_true rfl, Nat.le_of_ble_eq_true rfl⟩) hK (hI1.weaken fun q hq _ => Or.inl hq) m_x v_x rfl rfl rfl hl.1 rfl (Nat.le_of_ble_eq_true rfl) dL_law_289 ⟨show ce + 0 ≤ 1200096 by omega, show sl + 0 ≤ 5501386 by omega⟩) (fun r0 L1 f1 H locs hI1 hq hI2 hdj hS => ?_)
  obtain ⟨rfl, hd⟩ := hq
  refine lv_aload_n hx hb dL_law_292 rfl (lv_at hl 2 rfl) ?_
  refine lv_aload_n hx hb dL_law_293 rfl (lv_at hl 0 rfl) ?_
  refine lv_iload_n hx hb dL_law_294 rfl (lv_at hl 3 rfl) ?_
  refine lv_iconst (v := 1) hx hb dL_law_295 (by decide) ?_
  refine lv_iadd hx hb dL_law_296 ?_
  refine fr_topi (show ((nI i) + 1) = nI (i + 1) from nI_add i 1) ?_
  refine fr_sld (j := i + 1) hx hb hX hbl hbA hS rfl (by omega) hL dL_law_297 ?_
  refine lv_aload_n hx hb dL_law_298 rfl (lv_at hl 0 rfl) ?_
  refine lv_iload_n hx hb dL_law_299 rfl (lv_at hl 3 rfl) ?_
  refine lv_iconst (v := 2) hx hb dL_law_300 (by decide) ?_
  refine lv_iadd hx hb dL_law_301 ?_
  refine fr_topi (show ((nI i) + 2) = nI (i + 2) from nI_add i 2) ?_
  refine fr_sld (j := i + 2) hx hb hX hbl hbA hS rfl (by omega) hL dL_law_302 ?_
  refine fr_xl hI2 hI1 (fun q h2 h1 => hdj q h1 h2) hS hA (fr_runV (As := [.int (xs (i + 1)), .int (xs (i + 2))]) (rest := [.long (fr_gt (Z j) (N j) (xs (i + 2)))]) (ci := 3) ⟨hx, hb, hml, hown, hts⟩ (metX4_get l D k (fr_B L2 H) H.size L2 f2 y made mz N Z hm (xs (i + 1)) j hj ej (xs (i + 2))) (cwV 2 hts (lw_V q420 q421 q422 q12 q423) rfl rfl rfl (by decide +kernel) ⟨Nat.le_of_ble_eq_true rfl, Nat.le_of_ble_eq_true rfl⟩) hK (hI2.weaken fun q hq _ => Or.inl hq) m_y v_y rfl rfl rfl hl.1 rfl (Nat.le_of_ble_eq_true rfl) dL_law_303 ⟨show (ce + 0) + 0 ≤ 1200096 by omega, show (sl + 0) + 0 ≤ 5501386 by omega⟩) (fun r0 L2 f2 H locs hI2 hq hI1 hdj hS => ?_)
  have hdj := fun q (h1 : q ∈ L1) (h2 : q ∈ L2) => hdj q h2 h1
  obtain ⟨rfl, hm⟩ := hq
  refine W.lcmp hx hb dL_law_306 ?_
  refine lv_if_eq (tgt := 544) hx hb dL_law_307 (by decide) (fun _ => ?_) (fun c_9 => absurd (show (lg_cmp (fr_gt (Z j) (N j) (xs (i + 2))) (fr_gt (Z j) (N j) (xs (i + 2)))) = 0 from (lg_cmp_eq _ _).mpr rfl) c_9)
  refine W.widen (k := ce + 8) (n := sl + 500) (by omega) (by omega) ?_
  exact hc _ _ _ _ H locs ⟨L1, f1, L2, f2, hI1, hI2, hdj, hd, hm⟩ hS ls (lv_sub hl [0, 1, 2, 3] rfl)
set_option maxHeartbeats 4000000 in
set_option maxRecDepth 100000 in
/-- the law's call 7: first of both -/
theorem law_c7 {p : Program} {l : Launch} {e : Env} {s : State} {m : MethodId} {below : List Frame} {meth : Method} {c : Code} {b L : Nat} {xs : Nat → Int32} {D : va_G} {k : fr_k} {Q : State → Prop} (hL : L ≤ 288) (C0 : lw_At p s m meth c b L xs) (hK : fr_K D k s) {x y i ce sl : Nat} (hi : i + 6 ≤ L) (hce : ce + 8 ≤ 1200096) (hsl : sl + 500 ≤ 5501386) {made : Nat} {mz : Nat → Int64} {N : Nat → Nat} {Z : Nat → Nat → Int64} {H : Heap} {locs : List Loc} {ls : Array Slot} (hV : fr_Inv D k (fr_A s) x y made mz N Z H) (hS : va_S (fr_A s) s.heap H locs) (hl : lv_has ls 4 [(0, .ref b), (1, .ref x), (2, .ref y), (3, .int (nI i))]) (hc : fr_Cont p l e s m below meth c b x y i D k Q (ce + 8) (sl + 500)) : W p l e room_1 s m #[Value.ref b] below meth c H locs ce sl Q (F0 m 312 ls []) := by
  obtain ⟨hx, hb, hr, hml, hown, hts0, hX, hbl, hlocks, hgv⟩ := C0
  have hts : ∀ w ∈ lw_all, w.before #[Value.ref b] s = true := fun w h => hts0 w (lw_all_tbl h)
  have hA : ∀ q : Nat, s.heap.size ≤ q → fr_A s q := fun _ h => h
  have hbA : ¬ fr_A s b := Nat.not_le.mpr hbl
  obtain ⟨L1, f1, L2, f2, hI1, hI2, hdj, hd, hm⟩ := hV
  obtain ⟨fsx, m_x, v_x⟩ := hd.recv
  obtain ⟨fsy, m_y, v_y⟩ := hm.recv
  obtain ⟨j, hj, ej⟩ := fr_3 (xs (i + 1))
  refine lv_aload_n hx hb dL_law_312 rfl (lv_at hl 1 rfl) ?_
  refine lv_aload_n hx hb dL_law_313 rfl (lv_at hl 0 rfl) ?_
  refine lv_iload_n hx hb dL_law_314 rfl (lv_at hl 3 rfl) ?_
  refine lv_iconst (v := 1) hx hb dL_law_315 (by decide) ?_
  refine lv_iadd hx hb dL_law_316 ?_
  refine fr_topi (show ((nI i) + 1) = nI (i + 1) from nI_add i 1) ?_
  refine fr_sld (j := i + 1) hx hb hX hbl hbA hS rfl (by omega) hL dL_law_317 ?_
  refine lv_aload_n hx hb dL_law_318 rfl (lv_at hl 0 rfl) ?_
  refine lv_iload_n hx hb dL_law_319 rfl (lv_at hl 3 rfl) ?_
  refine lv_iconst (v := 2) hx hb dL_law_320 (by decide) ?_
  refine lv_iadd hx hb dL_law_321 ?_
  refine fr_topi (show ((nI i) + 2) = nI (i + 2) from nI_add i 2) ?_
  refine fr_sld (j := i + 2) hx hb hX hbl hbA hS rfl (by omega) hL dL_law_322 ?_
  refine lv_aload_n hx hb dL_law_323 rfl (lv_at hl 0 rfl) ?_
  refine lv_iload_n hx hb dL_law_324 rfl (lv_at hl 3 rfl) ?_
  refine lv_iconst (v := 3) hx hb dL_law_325 (by decide) ?_
  refine lv_iadd hx hb dL_law_326 ?_
  refine fr_topi (show ((nI i) + 3) = nI (i + 3) from nI_add i 3) ?_
  refine fr_sld (j := i + 3) hx hb hX hbl hbA hS rfl (by omega) hL dL_law_327 ?_
  refine fr_xi hI1 hI2 hdj hS hA (fr_runV (As := [.int (xs (i + 1)), .int (xs (i + 2)), .int (xs (i + 3))]) (rest := []) (ci := 0) ⟨hx, hb, hml, hown, hts⟩ (metX0_first l D k (fr_B L1 H) H.size L1 f1 x made mz N Z hd (xs (i + 1)) j hj ej (xs (i + 2)) (xs (i + 3))) (cwV 3 hts (lw_V q315 q316 q317 q4 q318) rfl rfl rfl (by decide +kernel) ⟨Nat.le_of_ble_eq_true rfl, Nat.le_of_ble_eq_true rfl⟩) hK (hI1.weaken fun q hq _ => Or.inl hq) m_x v_x rfl rfl rfl hl.1 rfl (Nat.le_of_ble_eq_true rfl) dL_law_328 ⟨show ce + 0 ≤ 1200096 by omega, show sl + 0 ≤ 5501386 by omega⟩) (fun r0 L1 f1 H locs hI1 hq hI2 hdj hS => ?_)
  obtain ⟨rfl, hd⟩ := hq
  refine lv_aload_n hx hb dL_law_331 rfl (lv_at hl 2 rfl) ?_
  refine lv_aload_n hx hb dL_law_332 rfl (lv_at hl 0 rfl) ?_
  refine lv_iload_n hx hb dL_law_333 rfl (lv_at hl 3 rfl) ?_
  refine lv_iconst (v := 1) hx hb dL_law_334 (by decide) ?_
  refine lv_iadd hx hb dL_law_335 ?_
  refine fr_topi (show ((nI i) + 1) = nI (i + 1) from nI_add i 1) ?_
  refine fr_sld (j := i + 1) hx hb hX hbl hbA hS rfl (by omega) hL dL_law_336 ?_
  refine lv_aload_n hx hb dL_law_337 rfl (lv_at hl 0 rfl) ?_
  refine lv_iload_n hx hb dL_law_338 rfl (lv_at hl 3 rfl) ?_
  refine lv_iconst (v := 2) hx hb dL_law_339 (by decide) ?_
  refine lv_iadd hx hb dL_law_340 ?_
  refine fr_topi (show ((nI i) + 2) = nI (i + 2) from nI_add i 2) ?_
  refine fr_sld (j := i + 2) hx hb hX hbl hbA hS rfl (by omega) hL dL_law_341 ?_
  refine lv_aload_n hx hb dL_law_342 rfl (lv_at hl 0 rfl) ?_
  refine lv_iload_n hx hb dL_law_343 rfl (lv_at hl 3 rfl) ?_
  refine lv_iconst (v := 3) hx hb dL_law_344 (by decide) ?_
  refine lv_iadd hx hb dL_law_345 ?_
  refine fr_topi (show ((nI i) + 3) = nI (i + 3) from nI_add i 3) ?_
  refine fr_sld (j := i + 3) hx hb hX hbl hbA hS rfl (by omega) hL dL_law_346 ?_
  refine fr_xi hI2 hI1 (fun q h2 h1 => hdj q h1 h2) hS hA (fr_runV (As := [.int (xs (i + 1)), .int (xs (i + 2)), .int (xs (i + 3))]) (rest := [.int (fr_ff (Z j) (fr_J (xs (i + 2)) (xs (i + 3))) (N j) 0)]) (ci := 3) ⟨hx, hb, hml, hown, hts⟩ (metX4_first l D k (fr_B L2 H) H.size L2 f2 y made mz N Z hm (xs (i + 1)) j hj ej (xs (i + 2)) (xs (i + 3))) (cwV 3 hts (lw_V q424 q425 q426 q12 q427) rfl rfl rfl (by decide +kernel) ⟨Nat.le_of_ble_eq_true rfl, Nat.le_of_ble_eq_true rfl⟩) hK (hI2.weaken fun q hq _ => Or.inl hq) m_y v_y rfl rfl rfl hl.1 rfl (Nat.le_of_ble_eq_true rfl) dL_law_347 ⟨show (ce + 0) + 0 ≤ 1200096 by omega, show (sl + 0) + 0 ≤ 5501386 by omega⟩) (fun r0 L2 f2 H locs hI2 hq hI1 hdj hS => ?_)
  have hdj := fun q (h1 : q ∈ L1) (h2 : q ∈ L2) => hdj q h2 h1
  obtain ⟨rfl, hm⟩ := hq
  refine lv_icmp_eq (tgt := 544) hx hb dL_law_350 (by decide) (fun _ => ?_) (fun c_9 => absurd (show (fr_ff (Z j) (fr_J (xs (i + 2)) (xs (i + 3))) (N j) 0) = (fr_ff (Z j) (fr_J (xs (i + 2)) (xs (i + 3))) (N j) 0) from rfl) c_9)
  refine W.widen (k := ce + 8) (n := sl + 500) (by omega) (by omega) ?_
  exact hc _ _ _ _ H locs ⟨L1, f1, L2, f2, hI1, hI2, hdj, hd, hm⟩ hS ls (lv_sub hl [0, 1, 2, 3] rfl)
set_option maxHeartbeats 4000000 in
set_option maxRecDepth 100000 in
/-- the law's call 8: last of both -/
theorem law_c8 {p : Program} {l : Launch} {e : Env} {s : State} {m : MethodId} {below : List Frame} {meth : Method} {c : Code} {b L : Nat} {xs : Nat → Int32} {D : va_G} {k : fr_k} {Q : State → Prop} (hL : L ≤ 288) (C0 : lw_At p s m meth c b L xs) (hK : fr_K D k s) {x y i ce sl : Nat} (hi : i + 6 ≤ L) (hce : ce + 8 ≤ 1200096) (hsl : sl + 500 ≤ 5501386) {made : Nat} {mz : Nat → Int64} {N : Nat → Nat} {Z : Nat → Nat → Int64} {H : Heap} {locs : List Loc} {ls : Array Slot} (hV : fr_Inv D k (fr_A s) x y made mz N Z H) (hS : va_S (fr_A s) s.heap H locs) (hl : lv_has ls 4 [(0, .ref b), (1, .ref x), (2, .ref y), (3, .int (nI i))]) (hc : fr_Cont p l e s m below meth c b x y i D k Q (ce + 8) (sl + 500)) : W p l e room_1 s m #[Value.ref b] below meth c H locs ce sl Q (F0 m 355 ls []) := by
  obtain ⟨hx, hb, hr, hml, hown, hts0, hX, hbl, hlocks, hgv⟩ := C0
  have hts : ∀ w ∈ lw_all, w.before #[Value.ref b] s = true := fun w h => hts0 w (lw_all_tbl h)
  have hA : ∀ q : Nat, s.heap.size ≤ q → fr_A s q := fun _ h => h
  have hbA : ¬ fr_A s b := Nat.not_le.mpr hbl
  obtain ⟨L1, f1, L2, f2, hI1, hI2, hdj, hd, hm⟩ := hV
  obtain ⟨fsx, m_x, v_x⟩ := hd.recv
  obtain ⟨fsy, m_y, v_y⟩ := hm.recv
  obtain ⟨j, hj, ej⟩ := fr_3 (xs (i + 1))
  refine lv_aload_n hx hb dL_law_355 rfl (lv_at hl 1 rfl) ?_
  refine lv_aload_n hx hb dL_law_356 rfl (lv_at hl 0 rfl) ?_
  refine lv_iload_n hx hb dL_law_357 rfl (lv_at hl 3 rfl) ?_
  refine lv_iconst (v := 1) hx hb dL_law_358 (by decide) ?_
  refine lv_iadd hx hb dL_law_359 ?_
  refine fr_topi (show ((nI i) + 1) = nI (i + 1) from nI_add i 1) ?_
  refine fr_sld (j := i + 1) hx hb hX hbl hbA hS rfl (by omega) hL dL_law_360 ?_
  refine lv_aload_n hx hb dL_law_361 rfl (lv_at hl 0 rfl) ?_
  refine lv_iload_n hx hb dL_law_362 rfl (lv_at hl 3 rfl) ?_
  refine lv_iconst (v := 2) hx hb dL_law_363 (by decide) ?_
  refine lv_iadd hx hb dL_law_364 ?_
  refine fr_topi (show ((nI i) + 2) = nI (i + 2) from nI_add i 2) ?_
  refine fr_sld (j := i + 2) hx hb hX hbl hbA hS rfl (by omega) hL dL_law_365 ?_
  refine lv_aload_n hx hb dL_law_366 rfl (lv_at hl 0 rfl) ?_
  refine lv_iload_n hx hb dL_law_367 rfl (lv_at hl 3 rfl) ?_
  refine lv_iconst (v := 3) hx hb dL_law_368 (by decide) ?_
  refine lv_iadd hx hb dL_law_369 ?_
  refine fr_topi (show ((nI i) + 3) = nI (i + 3) from nI_add i 3) ?_
  refine fr_sld (j := i + 3) hx hb hX hbl hbA hS rfl (by omega) hL dL_law_370 ?_
  refine fr_xi hI1 hI2 hdj hS hA (fr_runV (As := [.int (xs (i + 1)), .int (xs (i + 2)), .int (xs (i + 3))]) (rest := []) (ci := 0) ⟨hx, hb, hml, hown, hts⟩ (metX0_last l D k (fr_B L1 H) H.size L1 f1 x made mz N Z hd (xs (i + 1)) j hj ej (xs (i + 2)) (xs (i + 3))) (cwV 3 hts (lw_V q323 q324 q325 q4 q326) rfl rfl rfl (by decide +kernel) ⟨Nat.le_of_ble_eq_true rfl, Nat.le_of_ble_eq_true rfl⟩) hK (hI1.weaken fun q hq _ => Or.inl hq) m_x v_x rfl rfl rfl hl.1 rfl (Nat.le_of_ble_eq_true rfl) dL_law_371 ⟨show ce + 0 ≤ 1200096 by omega, show sl + 0 ≤ 5501386 by omega⟩) (fun r0 L1 f1 H locs hI1 hq hI2 hdj hS => ?_)
  obtain ⟨rfl, hd⟩ := hq
  refine lv_aload_n hx hb dL_law_374 rfl (lv_at hl 2 rfl) ?_
  refine lv_aload_n hx hb dL_law_375 rfl (lv_at hl 0 rfl) ?_
  refine lv_iload_n hx hb dL_law_376 rfl (lv_at hl 3 rfl) ?_
  refine lv_iconst (v := 1) hx hb dL_law_377 (by decide) ?_
  refine lv_iadd hx hb dL_law_378 ?_
  refine fr_topi (show ((nI i) + 1) = nI (i + 1) from nI_add i 1) ?_
  refine fr_sld (j := i + 1) hx hb hX hbl hbA hS rfl (by omega) hL dL_law_379 ?_
  refine lv_aload_n hx hb dL_law_380 rfl (lv_at hl 0 rfl) ?_
  refine lv_iload_n hx hb dL_law_381 rfl (lv_at hl 3 rfl) ?_
  refine lv_iconst (v := 2) hx hb dL_law_382 (by decide) ?_
  refine lv_iadd hx hb dL_law_383 ?_
  refine fr_topi (show ((nI i) + 2) = nI (i + 2) from nI_add i 2) ?_
  refine fr_sld (j := i + 2) hx hb hX hbl hbA hS rfl (by omega) hL dL_law_384 ?_
  refine lv_aload_n hx hb dL_law_385 rfl (lv_at hl 0 rfl) ?_
  refine lv_iload_n hx hb dL_law_386 rfl (lv_at hl 3 rfl) ?_
  refine lv_iconst (v := 3) hx hb dL_law_387 (by decide) ?_
  refine lv_iadd hx hb dL_law_388 ?_
  refine fr_topi (show ((nI i) + 3) = nI (i + 3) from nI_add i 3) ?_
  refine fr_sld (j := i + 3) hx hb hX hbl hbA hS rfl (by omega) hL dL_law_389 ?_
  refine fr_xi hI2 hI1 (fun q h2 h1 => hdj q h1 h2) hS hA (fr_runV (As := [.int (xs (i + 1)), .int (xs (i + 2)), .int (xs (i + 3))]) (rest := [.int (fr_fl (Z j) (fr_J (xs (i + 2)) (xs (i + 3))) (N j))]) (ci := 3) ⟨hx, hb, hml, hown, hts⟩ (metX4_last l D k (fr_B L2 H) H.size L2 f2 y made mz N Z hm (xs (i + 1)) j hj ej (xs (i + 2)) (xs (i + 3))) (cwV 3 hts (lw_V q428 q429 q430 q12 q431) rfl rfl rfl (by decide +kernel) ⟨Nat.le_of_ble_eq_true rfl, Nat.le_of_ble_eq_true rfl⟩) hK (hI2.weaken fun q hq _ => Or.inl hq) m_y v_y rfl rfl rfl hl.1 rfl (Nat.le_of_ble_eq_true rfl) dL_law_390 ⟨show (ce + 0) + 0 ≤ 1200096 by omega, show (sl + 0) + 0 ≤ 5501386 by omega⟩) (fun r0 L2 f2 H locs hI2 hq hI1 hdj hS => ?_)
  have hdj := fun q (h1 : q ∈ L1) (h2 : q ∈ L2) => hdj q h2 h1
  obtain ⟨rfl, hm⟩ := hq
  refine lv_icmp_eq (tgt := 544) hx hb dL_law_393 (by decide) (fun _ => ?_) (fun c_9 => absurd (show (fr_fl (Z j) (fr_J (xs (i + 2)) (xs (i + 3))) (N j)) = (fr_fl (Z j) (fr_J (xs (i + 2)) (xs (i + 3))) (N j)) from rfl) c_9)
  refine W.widen (k := ce + 8) (n := sl + 500) (by omega) (by omega) ?_
  exact hc _ _ _ _ H locs ⟨L1, f1, L2, f2, hI1, hI2, hdj, hd, hm⟩ hS ls (lv_sub hl [0, 1, 2, 3] rfl)
set_option maxHeartbeats 4000000 in
set_option maxRecDepth 100000 in
/-- the law's call 9: holds of both -/
theorem law_c9 {p : Program} {l : Launch} {e : Env} {s : State} {m : MethodId} {below : List Frame} {meth : Method} {c : Code} {b L : Nat} {xs : Nat → Int32} {D : va_G} {k : fr_k} {Q : State → Prop} (hL : L ≤ 288) (C0 : lw_At p s m meth c b L xs) (hK : fr_K D k s) {x y i ce sl : Nat} (hi : i + 6 ≤ L) (hce : ce + 8 ≤ 1200096) (hsl : sl + 500 ≤ 5501386) {made : Nat} {mz : Nat → Int64} {N : Nat → Nat} {Z : Nat → Nat → Int64} {H : Heap} {locs : List Loc} {ls : Array Slot} (hV : fr_Inv D k (fr_A s) x y made mz N Z H) (hS : va_S (fr_A s) s.heap H locs) (hl : lv_has ls 4 [(0, .ref b), (1, .ref x), (2, .ref y), (3, .int (nI i))]) (hc : fr_Cont p l e s m below meth c b x y i D k Q (ce + 8) (sl + 500)) : W p l e room_1 s m #[Value.ref b] below meth c H locs ce sl Q (F0 m 398 ls []) := by
  obtain ⟨hx, hb, hr, hml, hown, hts0, hX, hbl, hlocks, hgv⟩ := C0
  have hts : ∀ w ∈ lw_all, w.before #[Value.ref b] s = true := fun w h => hts0 w (lw_all_tbl h)
  have hA : ∀ q : Nat, s.heap.size ≤ q → fr_A s q := fun _ h => h
  have hbA : ¬ fr_A s b := Nat.not_le.mpr hbl
  obtain ⟨L1, f1, L2, f2, hI1, hI2, hdj, hd, hm⟩ := hV
  obtain ⟨fsx, m_x, v_x⟩ := hd.recv
  obtain ⟨fsy, m_y, v_y⟩ := hm.recv
  obtain ⟨j, hj, ej⟩ := fr_3 (xs (i + 1))
  refine lv_aload_n hx hb dL_law_398 rfl (lv_at hl 1 rfl) ?_
  refine lv_aload_n hx hb dL_law_399 rfl (lv_at hl 0 rfl) ?_
  refine lv_iload_n hx hb dL_law_400 rfl (lv_at hl 3 rfl) ?_
  refine lv_iconst (v := 1) hx hb dL_law_401 (by decide) ?_
  refine lv_iadd hx hb dL_law_402 ?_
  refine fr_topi (show ((nI i) + 1) = nI (i + 1) from nI_add i 1) ?_
  refine fr_sld (j := i + 1) hx hb hX hbl hbA hS rfl (by omega) hL dL_law_403 ?_
  refine lv_aload_n hx hb dL_law_404 rfl (lv_at hl 0 rfl) ?_
  refine lv_iload_n hx hb dL_law_405 rfl (lv_at hl 3 rfl) ?_
  refine lv_iconst (v := 2) hx hb dL_law_406 (by decide) ?_
  refine lv_iadd hx hb dL_law_407 ?_
  refine fr_topi (show ((nI i) + 2) = nI (i + 2) from nI_add i 2) ?_
  refine fr_sld (j := i + 2) hx hb hX hbl hbA hS rfl (by omega) hL dL_law_408 ?_
  refine lv_aload_n hx hb dL_law_409 rfl (lv_at hl 0 rfl) ?_
  refine lv_iload_n hx hb dL_law_410 rfl (lv_at hl 3 rfl) ?_
  refine lv_iconst (v := 3) hx hb dL_law_411 (by decide) ?_
  refine lv_iadd hx hb dL_law_412 ?_
  refine fr_topi (show ((nI i) + 3) = nI (i + 3) from nI_add i 3) ?_
  refine fr_sld (j := i + 3) hx hb hX hbl hbA hS rfl (by omega) hL dL_law_413 ?_
  refine fr_xi hI1 hI2 hdj hS hA (fr_runV (As := [.int (xs (i + 1)), .int (xs (i + 2)), .int (xs (i + 3))]) (rest := []) (ci := 0) ⟨hx, hb, hml, hown, hts⟩ (metX0_holds l D k (fr_B L1 H) H.size L1 f1 x made mz N Z hd (xs (i + 1)) j hj ej (xs (i + 2)) (xs (i + 3))) (cwV 3 hts (lw_V q331 q332 q333 q4 q334) rfl rfl rfl (by decide +kernel) ⟨Nat.le_of_ble_eq_true rfl, Nat.le_of_ble_eq_true rfl⟩) hK (hI1.weaken fun q hq _ => Or.inl hq) m_x v_x rfl rfl rfl hl.1 rfl (Nat.le_of_ble_eq_true rfl) dL_law_414 ⟨show ce + 0 ≤ 1200096 by omega, show sl + 0 ≤ 5501386 by omega⟩) (fun r0 L1 f1 H locs hI1 hq hI2 hdj hS => ?_)
  obtain ⟨rfl, hd⟩ := hq
  refine lv_aload_n hx hb dL_law_417 rfl (lv_at hl 2 rfl) ?_
  refine lv_aload_n hx hb dL_law_418 rfl (lv_at hl 0 rfl) ?_
  refine lv_iload_n hx hb dL_law_419 rfl (lv_at hl 3 rfl) ?_
  refine lv_iconst (v := 1) hx hb dL_law_420 (by decide) ?_
  refine lv_iadd hx hb dL_law_421 ?_
  refine fr_topi (show ((nI i) + 1) = nI (i + 1) from nI_add i 1) ?_
  refine fr_sld (j := i + 1) hx hb hX hbl hbA hS rfl (by omega) hL dL_law_422 ?_
  refine lv_aload_n hx hb dL_law_423 rfl (lv_at hl 0 rfl) ?_
  refine lv_iload_n hx hb dL_law_424 rfl (lv_at hl 3 rfl) ?_
  refine lv_iconst (v := 2) hx hb dL_law_425 (by decide) ?_
  refine lv_iadd hx hb dL_law_426 ?_
  refine fr_topi (show ((nI i) + 2) = nI (i + 2) from nI_add i 2) ?_
  refine fr_sld (j := i + 2) hx hb hX hbl hbA hS rfl (by omega) hL dL_law_427 ?_
  refine lv_aload_n hx hb dL_law_428 rfl (lv_at hl 0 rfl) ?_
  refine lv_iload_n hx hb dL_law_429 rfl (lv_at hl 3 rfl) ?_
  refine lv_iconst (v := 3) hx hb dL_law_430 (by decide) ?_
  refine lv_iadd hx hb dL_law_431 ?_
  refine fr_topi (show ((nI i) + 3) = nI (i + 3) from nI_add i 3) ?_
  refine fr_sld (j := i + 3) hx hb hX hbl hbA hS rfl (by omega) hL dL_law_432 ?_
  refine fr_xi hI2 hI1 (fun q h2 h1 => hdj q h1 h2) hS hA (fr_runV (As := [.int (xs (i + 1)), .int (xs (i + 2)), .int (xs (i + 3))]) (rest := [.int (fr_ct (fr_ff (Z j) (fr_J (xs (i + 2)) (xs (i + 3))) (N j) 0))]) (ci := 3) ⟨hx, hb, hml, hown, hts⟩ (metX4_holds l D k (fr_B L2 H) H.size L2 f2 y made mz N Z hm (xs (i + 1)) j hj ej (xs (i + 2)) (xs (i + 3))) (cwV 3 hts (lw_V q432 q433 q434 q12 q435) rfl rfl rfl (by decide +kernel) ⟨Nat.le_of_ble_eq_true rfl, Nat.le_of_ble_eq_true rfl⟩) hK (hI2.weaken fun q hq _ => Or.inl hq) m_y v_y rfl rfl rfl hl.1 rfl (Nat.le_of_ble_eq_true rfl) dL_law_433 ⟨show (ce + 0) + 0 ≤ 1200096 by omega, show (sl + 0) + 0 ≤ 5501386 by omega⟩) (fun r0 L2 f2 H locs hI2 hq hI1 hdj hS => ?_)
  have hdj := fun q (h1 : q ∈ L1) (h2 : q ∈ L2) => hdj q h2 h1
  obtain ⟨rfl, hm⟩ := hq
  refine lv_icmp_eq (tgt := 544) hx hb dL_law_436 (by decide) (fun _ => ?_) (fun c_9 => absurd (show (fr_ct (fr_ff (Z j) (fr_J (xs (i + 2)) (xs (i + 3))) (N j) 0)) = (fr_ct (fr_ff (Z j) (fr_J (xs (i + 2)) (xs (i + 3))) (N j) 0)) from rfl) c_9)
  refine W.widen (k := ce + 8) (n := sl + 500) (by omega) (by omega) ?_
  exact hc _ _ _ _ H locs ⟨L1, f1, L2, f2, hI1, hI2, hdj, hd, hm⟩ hS ls (lv_sub hl [0, 1, 2, 3] rfl)
set_option maxHeartbeats 4000000 in
set_option maxRecDepth 100000 in
/-- the law's call 10: length of both -/
theorem law_c10 {p : Program} {l : Launch} {e : Env} {s : State} {m : MethodId} {below : List Frame} {meth : Method} {c : Code} {b L : Nat} {xs : Nat → Int32} {D : va_G} {k : fr_k} {Q : State → Prop} (hL : L ≤ 288) (C0 : lw_At p s m meth c b L xs) (hK : fr_K D k s) {x y i ce sl : Nat} (hi : i + 6 ≤ L) (hce : ce + 8 ≤ 1200096) (hsl : sl + 500 ≤ 5501386) {made : Nat} {mz : Nat → Int64} {N : Nat → Nat} {Z : Nat → Nat → Int64} {H : Heap} {locs : List Loc} {ls : Array Slot} (hV : fr_Inv D k (fr_A s) x y made mz N Z H) (hS : va_S (fr_A s) s.heap H locs) (hl : lv_has ls 4 [(0, .ref b), (1, .ref x), (2, .ref y), (3, .int (nI i))]) (hc : fr_Cont p l e s m below meth c b x y i D k Q (ce + 8) (sl + 500)) : W p l e room_1 s m #[Value.ref b] below meth c H locs ce sl Q (F0 m 441 ls []) := by
  obtain ⟨hx, hb, hr, hml, hown, hts0, hX, hbl, hlocks, hgv⟩ := C0
  have hts : ∀ w ∈ lw_all, w.before #[Value.ref b] s = true := fun w h => hts0 w (lw_all_tbl h)
  have hA : ∀ q : Nat, s.heap.size ≤ q → fr_A s q := fun _ h => h
  have hbA : ¬ fr_A s b := Nat.not_le.mpr hbl
  obtain ⟨L1, f1, L2, f2, hI1, hI2, hdj, hd, hm⟩ := hV
  obtain ⟨fsx, m_x, v_x⟩ := hd.recv
  obtain ⟨fsy, m_y, v_y⟩ := hm.recv
  obtain ⟨j, hj, ej⟩ := fr_3 (xs (i + 1))
  refine lv_aload_n hx hb dL_law_441 rfl (lv_at hl 1 rfl) ?_
  refine lv_aload_n hx hb dL_law_442 rfl (lv_at hl 0 rfl) ?_
  refine lv_iload_n hx hb dL_law_443 rfl (lv_at hl 3 rfl) ?_
  refine lv_iconst (v := 1) hx hb dL_law_444 (by decide) ?_
  refine lv_iadd hx hb dL_law_445 ?_
  refine fr_topi (show ((nI i) + 1) = nI (i + 1) from nI_add i 1) ?_
  refine fr_sld (j := i + 1) hx hb hX hbl hbA hS rfl (by omega) hL dL_law_446 ?_
  refine fr_xi hI1 hI2 hdj hS hA (fr_runV (As := [.int (xs (i + 1))]) (rest := []) (ci := 0) ⟨hx, hb, hml, hown, hts⟩ (metX0_length l D k (fr_B L1 H) H.size L1 f1 x made mz N Z hd (xs (i + 1)) j hj ej) (cwV 1 hts (lw_V q340 q341 q342 q4 q343) rfl rfl rfl (by decide +kernel) ⟨Nat.le_of_ble_eq_true rfl, Nat.le_of_ble_eq_true rfl⟩) hK (hI1.weaken fun q hq _ => Or.inl hq) m_x v_x rfl rfl rfl hl.1 rfl (Nat.le_of_ble_eq_true rfl) dL_law_447 ⟨show ce + 0 ≤ 1200096 by omega, show sl + 0 ≤ 5501386 by omega⟩) (fun r0 L1 f1 H locs hI1 hq hI2 hdj hS => ?_)
  obtain ⟨rfl, hd⟩ := hq
  refine lv_aload_n hx hb dL_law_450 rfl (lv_at hl 2 rfl) ?_
  refine lv_aload_n hx hb dL_law_451 rfl (lv_at hl 0 rfl) ?_
  refine lv_iload_n hx hb dL_law_452 rfl (lv_at hl 3 rfl) ?_
  refine lv_iconst (v := 1) hx hb dL_law_453 (by decide) ?_
  refine lv_iadd hx hb dL_law_454 ?_
  refine fr_topi (show ((nI i) + 1) = nI (i + 1) from nI_add i 1) ?_
  refine fr_sld (j := i + 1) hx hb hX hbl hbA hS rfl (by omega) hL dL_law_455 ?_
  refine fr_xi hI2 hI1 (fun q h2 h1 => hdj q h1 h2) hS hA (fr_runV (As := [.int (xs (i + 1))]) (rest := [.int (nI (N j))]) (ci := 3) ⟨hx, hb, hml, hown, hts⟩ (metX4_length l D k (fr_B L2 H) H.size L2 f2 y made mz N Z hm (xs (i + 1)) j hj ej) (cwV 1 hts (lw_V q437 q438 q439 q12 q440) rfl rfl rfl (by decide +kernel) ⟨Nat.le_of_ble_eq_true rfl, Nat.le_of_ble_eq_true rfl⟩) hK (hI2.weaken fun q hq _ => Or.inl hq) m_y v_y rfl rfl rfl hl.1 rfl (Nat.le_of_ble_eq_true rfl) dL_law_456 ⟨show (ce + 0) + 0 ≤ 1200096 by omega, show (sl + 0) + 0 ≤ 5501386 by omega⟩) (fun r0 L2 f2 H locs hI2 hq hI1 hdj hS => ?_)
  have hdj := fun q (h1 : q ∈ L1) (h2 : q ∈ L2) => hdj q h2 h1
  obtain ⟨rfl, hm⟩ := hq
  refine lv_icmp_eq (tgt := 544) hx hb dL_law_459 (by decide) (fun _ => ?_) (fun c_9 => absurd (show (nI (N j)) = (nI (N j)) from rfl) c_9)
  refine W.widen (k := ce + 8) (n := sl + 500) (by omega) (by omega) ?_
  exact hc _ _ _ _ H locs ⟨L1, f1, L2, f2, hI1, hI2, hdj, hd, hm⟩ hS ls (lv_sub hl [0, 1, 2, 3] rfl)
set_option maxHeartbeats 4000000 in
set_option maxRecDepth 100000 in
/-- the law's call 11: same of both -/
theorem law_c11 {p : Program} {l : Launch} {e : Env} {s : State} {m : MethodId} {below : List Frame} {meth : Method} {c : Code} {b L : Nat} {xs : Nat → Int32} {D : va_G} {k : fr_k} {Q : State → Prop} (hL : L ≤ 288) (C0 : lw_At p s m meth c b L xs) (hK : fr_K D k s) {x y i ce sl : Nat} (hi : i + 6 ≤ L) (hce : ce + 8 ≤ 1200096) (hsl : sl + 500 ≤ 5501386) {made : Nat} {mz : Nat → Int64} {N : Nat → Nat} {Z : Nat → Nat → Int64} {H : Heap} {locs : List Loc} {ls : Array Slot} (hV : fr_Inv D k (fr_A s) x y made mz N Z H) (hS : va_S (fr_A s) s.heap H locs) (hl : lv_has ls 4 [(0, .ref b), (1, .ref x), (2, .ref y), (3, .int (nI i))]) (hc : fr_Cont p l e s m below meth c b x y i D k Q (ce + 8) (sl + 500)) : W p l e room_1 s m #[Value.ref b] below meth c H locs ce sl Q (F0 m 464 ls []) := by
  obtain ⟨hx, hb, hr, hml, hown, hts0, hX, hbl, hlocks, hgv⟩ := C0
  have hts : ∀ w ∈ lw_all, w.before #[Value.ref b] s = true := fun w h => hts0 w (lw_all_tbl h)
  have hA : ∀ q : Nat, s.heap.size ≤ q → fr_A s q := fun _ h => h
  have hbA : ¬ fr_A s b := Nat.not_le.mpr hbl
  obtain ⟨L1, f1, L2, f2, hI1, hI2, hdj, hd, hm⟩ := hV
  obtain ⟨fsx, m_x, v_x⟩ := hd.recv
  obtain ⟨fsy, m_y, v_y⟩ := hm.recv
  obtain ⟨j, hj, ej⟩ := fr_3 (xs (i + 1))
  obtain ⟨t, ht, et⟩ := fr_3 (xs (i + 2))
  refine lv_aload_n hx hb dL_law_464 rfl (lv_at hl 1 rfl) ?_
  refine lv_aload_n hx hb dL_law_465 rfl (lv_at hl 0 rfl) ?_
  refine lv_iload_n hx hb dL_law_466 rfl (lv_at hl 3 rfl) ?_
  refine lv_iconst (v := 1) hx hb dL_law_467 (by decide) ?_
  refine lv_iadd hx hb dL_law_468 ?_
  refine fr_topi (show ((nI i) + 1) = nI (i + 1) from nI_add i 1) ?_
  refine fr_sld (j := i + 1) hx hb hX hbl hbA hS rfl (by omega) hL dL_law_469 ?_
  refine lv_aload_n hx hb dL_law_470 rfl (lv_at hl 0 rfl) ?_
  refine lv_iload_n hx hb dL_law_471 rfl (lv_at hl 3 rfl) ?_
  refine lv_iconst (v := 2) hx hb dL_law_472 (by decide) ?_
  refine lv_iadd hx hb dL_law_473 ?_
  refine fr_topi (show ((nI i) + 2) = nI (i + 2) from nI_add i 2) ?_
  refine fr_sld (j := i + 2) hx hb hX hbl hbA hS rfl (by omega) hL dL_law_474 ?_
  refine fr_xi hI1 hI2 hdj hS hA (fr_runV (As := [.int (xs (i + 1)), .int (xs (i + 2))]) (rest := []) (ci := 0) ⟨hx, hb, hml, hown, hts⟩ (metX0_same l D k (fr_B L1 H) H.size L1 f1 x made mz N Z hd (xs (i + 1)) (xs (i + 2)) j t hj ej ht et) (cwV 2 hts (lw_V q344 q345 q346 q4 q347) rfl rfl rfl (by decide +kernel) ⟨Nat.le_of_ble_eq_true rfl, Nat.le_of_ble_eq_true rfl⟩) hK (hI1.weaken fun q hq _ => Or.inl hq) m_x v_x rfl rfl rfl hl.1 rfl (Nat.le_of_ble_eq_true rfl) dL_law_475 ⟨show ce + 0 ≤ 1200096 by omega, show sl + 0 ≤ 5501386 by omega⟩) (fun r0 L1 f1 H locs hI1 hq hI2 hdj hS => ?_)
  obtain ⟨rfl, hd⟩ := hq
  refine lv_aload_n hx hb dL_law_478 rfl (lv_at hl 2 rfl) ?_
  refine lv_aload_n hx hb dL_law_479 rfl (lv_at hl 0 rfl) ?_
  refine lv_iload_n hx hb dL_law_480 rfl (lv_at hl 3 rfl) ?_
  refine lv_iconst (v := 1) hx hb dL_law_481 (by decide) ?_
  refine lv_iadd hx hb dL_law_482 ?_
  refine fr_topi (show ((nI i) + 1) = nI (i + 1) from nI_add i 1) ?_
  refine fr_sld (j := i + 1) hx hb hX hbl hbA hS rfl (by omega) hL dL_law_483 ?_
  refine lv_aload_n hx hb dL_law_484 rfl (lv_at hl 0 rfl) ?_
  refine lv_iload_n hx hb dL_law_485 rfl (lv_at hl 3 rfl) ?_
  refine lv_iconst (v := 2) hx hb dL_law_486 (by decide) ?_
  refine lv_iadd hx hb dL_law_487 ?_
  refine fr_topi (show ((nI i) + 2) = nI (i + 2) from nI_add i 2) ?_
  refine fr_sld (j := i + 2) hx hb hX hbl hbA hS rfl (by omega) hL dL_law_488 ?_
  refine fr_xi hI2 hI1 (fun q h2 h1 => hdj q h1 h2) hS hA (fr_runV (As := [.int (xs (i + 1)), .int (xs (i + 2))]) (rest := [.int (if N j = N t then fr_eqb (Z j) (Z t) (N j) 0 else 0)]) (ci := 3) ⟨hx, hb, hml, hown, hts⟩ (metX4_same l D k (fr_B L2 H) H.size L2 f2 y made mz N Z hm (xs (i + 1)) (xs (i + 2)) j t hj ej ht et) (cwV 2 hts (lw_V q441 q442 q443 q12 q444) rfl rfl rfl (by decide +kernel) ⟨Nat.le_of_ble_eq_true rfl, Nat.le_of_ble_eq_true rfl⟩) hK (hI2.weaken fun q hq _ => Or.inl hq) m_y v_y rfl rfl rfl hl.1 rfl (Nat.le_of_ble_eq_true rfl) dL_law_489 ⟨show (ce + 0) + 0 ≤ 1200096 by omega, show (sl + 0) + 0 ≤ 5501386 by omega⟩) (fun r0 L2 f2 H locs hI2 hq hI1 hdj hS => ?_)
  have hdj := fun q (h1 : q ∈ L1) (h2 : q ∈ L2) => hdj q h2 h1
  obtain ⟨rfl, hm⟩ := hq
  refine lv_icmp_eq (tgt := 544) hx hb dL_law_492 (by decide) (fun _ => ?_) (fun c_9 => absurd (show (if N j = N t then fr_eqb (Z j) (Z t) (N j) 0 else 0) = (if N j = N t then fr_eqb (Z j) (Z t) (N j) 0 else 0) from rfl) c_9)
  refine W.widen (k := ce + 8) (n := sl + 500) (by omega) (by omega) ?_
  exact hc _ _ _ _ H locs ⟨L1, f1, L2, f2, hI1, hI2, hdj, hd, hm⟩ hS ls (lv_sub hl [0, 1, 2, 3] rfl)
set_option maxHeartbeats 4000000 in
set_option maxRecDepth 100000 in
/-- the law's call 12: hash of both -/
theorem law_c12 {p : Program} {l : Launch} {e : Env} {s : State} {m : MethodId} {below : List Frame} {meth : Method} {c : Code} {b L : Nat} {xs : Nat → Int32} {D : va_G} {k : fr_k} {Q : State → Prop} (hL : L ≤ 288) (C0 : lw_At p s m meth c b L xs) (hK : fr_K D k s) {x y i ce sl : Nat} (hi : i + 6 ≤ L) (hce : ce + 8 ≤ 1200096) (hsl : sl + 500 ≤ 5501386) {made : Nat} {mz : Nat → Int64} {N : Nat → Nat} {Z : Nat → Nat → Int64} {H : Heap} {locs : List Loc} {ls : Array Slot} (hV : fr_Inv D k (fr_A s) x y made mz N Z H) (hS : va_S (fr_A s) s.heap H locs) (hl : lv_has ls 4 [(0, .ref b), (1, .ref x), (2, .ref y), (3, .int (nI i))]) (hc : fr_Cont p l e s m below meth c b x y i D k Q (ce + 8) (sl + 500)) : W p l e room_1 s m #[Value.ref b] below meth c H locs ce sl Q (F0 m 497 ls []) := by
  obtain ⟨hx, hb, hr, hml, hown, hts0, hX, hbl, hlocks, hgv⟩ := C0
  have hts : ∀ w ∈ lw_all, w.before #[Value.ref b] s = true := fun w h => hts0 w (lw_all_tbl h)
  have hA : ∀ q : Nat, s.heap.size ≤ q → fr_A s q := fun _ h => h
  have hbA : ¬ fr_A s b := Nat.not_le.mpr hbl
  obtain ⟨L1, f1, L2, f2, hI1, hI2, hdj, hd, hm⟩ := hV
  obtain ⟨fsx, m_x, v_x⟩ := hd.recv
  obtain ⟨fsy, m_y, v_y⟩ := hm.recv
  obtain ⟨j, hj, ej⟩ := fr_3 (xs (i + 1))
  refine lv_aload_n hx hb dL_law_497 rfl (lv_at hl 1 rfl) ?_
  refine lv_aload_n hx hb dL_law_498 rfl (lv_at hl 0 rfl) ?_
  refine lv_iload_n hx hb dL_law_499 rfl (lv_at hl 3 rfl) ?_
  refine lv_iconst (v := 1) hx hb dL_law_500 (by decide) ?_
  refine lv_iadd hx hb dL_law_501 ?_
  refine fr_topi (show ((nI i) + 1) = nI (i + 1) from nI_add i 1) ?_
  refine fr_sld (j := i + 1) hx hb hX hbl hbA hS rfl (by omega) hL dL_law_502 ?_
  refine fr_xi hI1 hI2 hdj hS hA (fr_runV (As := [.int (xs (i + 1))]) (rest := []) (ci := 0) ⟨hx, hb, hml, hown, hts⟩ (metX0_hash l D k (fr_B L1 H) H.size L1 f1 x made mz N Z hd (xs (i + 1)) j hj ej) (cwV 1 hts (lw_V q353 q354 q355 q4 q356) rfl rfl rfl (by decide +kernel) ⟨Nat.le_of_ble_eq_true rfl, Nat.le_of_ble_eq_true rfl⟩) hK (hI1.weaken fun q hq _ => Or.inl hq) m_x v_x rfl rfl rfl hl.1 rfl (Nat.le_of_ble_eq_true rfl) dL_law_503 ⟨show ce + 0 ≤ 1200096 by omega, show sl + 0 ≤ 5501386 by omega⟩) (fun r0 L1 f1 H locs hI1 hq hI2 hdj hS => ?_)
  obtain ⟨rfl, hd⟩ := hq
  refine lv_aload_n hx hb dL_law_506 rfl (lv_at hl 2 rfl) ?_
  refine lv_aload_n hx hb dL_law_507 rfl (lv_at hl 0 rfl) ?_
  refine lv_iload_n hx hb dL_law_508 rfl (lv_at hl 3 rfl) ?_
  refine lv_iconst (v := 1) hx hb dL_law_509 (by decide) ?_
  refine lv_iadd hx hb dL_law_510 ?_
  refine fr_topi (show ((nI i) + 1) = nI (i + 1) from nI_add i 1) ?_
  refine fr_sld (j := i + 1) hx hb hX hbl hbA hS rfl (by omega) hL dL_law_511 ?_
  refine fr_xi hI2 hI1 (fun q h2 h1 => hdj q h1 h2) hS hA (fr_runV (As := [.int (xs (i + 1))]) (rest := [.int (fr_hs (Z j) (N j))]) (ci := 3) ⟨hx, hb, hml, hown, hts⟩ (metX4_hash l D k (fr_B L2 H) H.size L2 f2 y made mz N Z hm (xs (i + 1)) j hj ej) (cwV 1 hts (lw_V q445 q446 q447 q12 q448) rfl rfl rfl (by decide +kernel) ⟨Nat.le_of_ble_eq_true rfl, Nat.le_of_ble_eq_true rfl⟩) hK (hI2.weaken fun q hq _ => Or.inl hq) m_y v_y rfl rfl rfl hl.1 rfl (Nat.le_of_ble_eq_true rfl) dL_law_512 ⟨show (ce + 0) + 0 ≤ 1200096 by omega, show (sl + 0) + 0 ≤ 5501386 by omega⟩) (fun r0 L2 f2 H locs hI2 hq hI1 hdj hS => ?_)
  have hdj := fun q (h1 : q ∈ L1) (h2 : q ∈ L2) => hdj q h2 h1
  obtain ⟨rfl, hm⟩ := hq
  refine lv_icmp_eq (tgt := 544) hx hb dL_law_515 (by decide) (fun _ => ?_) (fun c_9 => absurd (show (fr_hs (Z j) (N j)) = (fr_hs (Z j) (N j)) from rfl) c_9)
  refine W.widen (k := ce + 8) (n := sl + 500) (by omega) (by omega) ?_
  exact hc _ _ _ _ H locs ⟨L1, f1, L2, f2, hI1, hI2, hdj, hd, hm⟩ hS ls (lv_sub hl [0, 1, 2, 3] rfl)
set_option maxHeartbeats 4000000 in
set_option maxRecDepth 100000 in
/-- the law's call 13: whole of both -/
theorem law_c13 {p : Program} {l : Launch} {e : Env} {s : State} {m : MethodId} {below : List Frame} {meth : Method} {c : Code} {b L : Nat} {xs : Nat → Int32} {D : va_G} {k : fr_k} {Q : State → Prop} (hL : L ≤ 288) (C0 : lw_At p s m meth c b L xs) (hK : fr_K D k s) {x y i ce sl : Nat} (hi : i + 6 ≤ L) (hce : ce + 8 ≤ 1200096) (hsl : sl + 500 ≤ 5501386) {made : Nat} {mz : Nat → Int64} {N : Nat → Nat} {Z : Nat → Nat → Int64} {H : Heap} {locs : List Loc} {ls : Array Slot} (hV : fr_Inv D k (fr_A s) x y made mz N Z H) (hS : va_S (fr_A s) s.heap H locs) (hl : lv_has ls 4 [(0, .ref b), (1, .ref x), (2, .ref y), (3, .int (nI i))]) (hc : fr_Cont p l e s m below meth c b x y i D k Q (ce + 8) (sl + 500)) : W p l e room_1 s m #[Value.ref b] below meth c H locs ce sl Q (F0 m 520 ls []) := by
  obtain ⟨hx, hb, hr, hml, hown, hts0, hX, hbl, hlocks, hgv⟩ := C0
  have hts : ∀ w ∈ lw_all, w.before #[Value.ref b] s = true := fun w h => hts0 w (lw_all_tbl h)
  have hA : ∀ q : Nat, s.heap.size ≤ q → fr_A s q := fun _ h => h
  have hbA : ¬ fr_A s b := Nat.not_le.mpr hbl
  obtain ⟨L1, f1, L2, f2, hI1, hI2, hdj, hd, hm⟩ := hV
  obtain ⟨fsx, m_x, v_x⟩ := hd.recv
  obtain ⟨fsy, m_y, v_y⟩ := hm.recv
  obtain ⟨j, hj, ej⟩ := fr_3 (xs (i + 1))
  refine lv_aload_n hx hb dL_law_520 rfl (lv_at hl 1 rfl) ?_
  refine lv_aload_n hx hb dL_law_521 rfl (lv_at hl 0 rfl) ?_
  refine lv_iload_n hx hb dL_law_522 rfl (lv_at hl 3 rfl) ?_
  refine lv_iconst (v := 1) hx hb dL_law_523 (by decide) ?_
  refine lv_iadd hx hb dL_law_524 ?_
  refine fr_topi (show ((nI i) + 1) = nI (i + 1) from nI_add i 1) ?_
  refine fr_sld (j := i + 1) hx hb hX hbl hbA hS rfl (by omega) hL dL_law_525 ?_
  refine fr_xl hI1 hI2 hdj hS hA (fr_runV (As := [.int (xs (i + 1))]) (rest := []) (ci := 0) ⟨hx, hb, hml, hown, hts⟩ (metX0_whole l D k (fr_B L1 H) H.size L1 f1 x made mz N Z hd (xs (i + 1)) j hj ej (fun q h => Or.inr h)) (cwV 1 hts (lw_V q364 q365 q366 q4 q367) rfl rfl rfl (by decide +kernel) ⟨Nat.le_of_ble_eq_true rfl, Nat.le_of_ble_eq_true rfl⟩) hK (hI1.weaken fun q hq _ => Or.inl hq) m_x v_x rfl rfl rfl hl.1 rfl (Nat.le_of_ble_eq_true rfl) dL_law_526 ⟨show ce + 1 ≤ 1200096 by omega, show sl + 200 ≤ 5501386 by omega⟩) (fun r0 L1 f1 H locs hI1 hq hI2 hdj hS => ?_)
  obtain ⟨rfl, hd⟩ := hq
  refine lv_aload_n hx hb dL_law_529 rfl (lv_at hl 2 rfl) ?_
  refine lv_aload_n hx hb dL_law_530 rfl (lv_at hl 0 rfl) ?_
  refine lv_iload_n hx hb dL_law_531 rfl (lv_at hl 3 rfl) ?_
  refine lv_iconst (v := 1) hx hb dL_law_532 (by decide) ?_
  refine lv_iadd hx hb dL_law_533 ?_
  refine fr_topi (show ((nI i) + 1) = nI (i + 1) from nI_add i 1) ?_
  refine fr_sld (j := i + 1) hx hb hX hbl hbA hS rfl (by omega) hL dL_law_534 ?_
  refine fr_xl hI2 hI1 (fun q h2 h1 => hdj q h1 h2) hS hA (fr_runV (As := [.int (xs (i + 1))]) (rest := [.long (fr_wh (Z j) (N j))]) (ci := 3) ⟨hx, hb, hml, hown, hts⟩ (metX4_whole l D k (fr_B L2 H) H.size L2 f2 y made mz N Z hm (xs (i + 1)) j hj ej) (cwV 1 hts (lw_V q449 q450 q451 q12 q452) rfl rfl rfl (by decide +kernel) ⟨Nat.le_of_ble_eq_true rfl, Nat.le_of_ble_eq_true rfl⟩) hK (hI2.weaken fun q hq _ => Or.inl hq) m_y v_y rfl rfl rfl hl.1 rfl (Nat.le_of_ble_eq_true rfl) dL_law_535 ⟨show (ce + 1) + 0 ≤ 1200096 by omega, show (sl + 200) + 0 ≤ 5501386 by omega⟩) (fun r0 L2 f2 H locs hI2 hq hI1 hdj hS => ?_)
  have hdj := fun q (h1 : q ∈ L1) (h2 : q ∈ L2) => hdj q h2 h1
  obtain ⟨rfl, hm⟩ := hq
  refine W.lcmp hx hb dL_law_538 ?_
  refine lv_if_eq (tgt := 544) hx hb dL_law_539 (by decide) (fun _ => ?_) (fun c_9 => absurd (show (lg_cmp (fr_wh (Z j) (N j)) (fr_wh (Z j) (N j))) = 0 from (lg_cmp_eq _ _).mpr rfl) c_9)
  refine W.widen (k := ce + 8) (n := sl + 500) (by omega) (by omega) ?_
  exact hc _ _ _ _ H locs ⟨L1, f1, L2, f2, hI1, hI2, hdj, hd, hm⟩ hS ls (lv_sub hl [0, 1, 2, 3] rfl)
end
section
set_option maxRecDepth 100000
set_option maxHeartbeats 4000000 in
set_option maxRecDepth 100000 in
/-- THE LAW'S LOOP, at its head: t calls of six ints made -/
theorem law_loop {p : Program} {l : Launch} {e : Env} {s : State} {m : MethodId} {below : List Frame} {meth : Method} {c : Code} {b L : Nat} {xs : Nat → Int32} {D : va_G} {k : fr_k} (hL : L ≤ 288) (C0 : lw_At p s m meth c b L xs) (hK : fr_K D k s) {x y : Nat} : ∀ (n t : Nat), t + n = 49 → 6 * t ≤ L + 5 → ∀ (made : Nat) (mz : Nat → Int64) (N : Nat → Nat) (Z : Nat → Nat → Int64) (H : Heap) (locs : List Loc), fr_Inv D k (fr_A s) x y made mz N Z H → va_S (fr_A s) s.heap H locs → ∀ ls : Array Slot, lv_has ls 4 [(0, .ref b), (1, .ref x), (2, .ref y), (3, .int (nI (6 * t)))] → W p l e room_1 s m #[Value.ref b] below meth c H locs (20 + 8 * t) (400 + 500 * t) (lw_Z below #[Value.ref b] s) (F0 m 18 ls []) := by
  obtain ⟨hx, hb, hr, hml, hown, hts0, hX, hbl, hlocks, hgv⟩ := id C0
  have hbA : ¬ fr_A s b := Nat.not_le.mpr hbl
  intro n
  induction n with
  | zero =>
    intro t h1 h2
    exact absurd h2 (by omega)
  | succ n ih =>
    intro t h1 h2 made mz N Z H locs hV hS ls hl
    refine lv_iload_n hx hb dL_law_18 rfl (lv_at hl 3 rfl) ?_
    refine lv_aload_n hx hb dL_law_19 rfl (lv_at hl 0 rfl) ?_
    refine va_slen hx hb hX hbl hbA hS dL_law_20 ?_
    refine fr_topi (show (Int32.ofNat L) = nI L from rfl) ?_
    refine lv_bipush (v := 6) hx hb dL_law_21 (by decide) ?_
    refine lv_isub hx hb dL_law_23 ?_
    refine lv_icmp_gt (tgt := 550) hx hb dL_law_24 (by decide) (fun c_1 => ?_) (fun c_1 => ?_)
    · refine lv_iconst (v := 1) hx hb dL_law_550 (by decide) ?_
      refine va_forget (fun q hq => hS.2.2 q hq) ?_
      refine W.widen (k := 1200096) (n := 5501386) (by omega) (by omega) ?_
      exact lw_ret hx hb hr hlocks dL_law_551
    · have hlt : 6 * t + 6 ≤ L := by
        rcases Nat.lt_or_ge L (6 * t + 6) with h | h
        · exact absurd ((fr_head hL (by omega)).mpr h) c_1
        · exact h
      refine lv_aload_n hx hb dL_law_27 rfl (lv_at hl 0 rfl) ?_
      refine lv_iload_n hx hb dL_law_28 rfl (lv_at hl 3 rfl) ?_
      refine fr_sld (j := 6 * t) hx hb hX hbl hbA hS rfl (by omega) hL dL_law_29 ?_
      refine lv_bipush (v := 15) hx hb dL_law_30 (by decide) ?_
      refine lv_iand hx hb dL_law_32 ?_
      obtain ⟨d, hd, ed⟩ := fr_15 (xs (6 * t))
      refine fr_topi (show ((xs (6 * t)) &&& 15) = nI d from ed) ?_
      clear ed
      have hc : fr_Cont p l e s m below meth c b x y (6 * t) D k (lw_Z below #[Value.ref b] s) (20 + 8 * t + 8) (400 + 500 * t + 500) := by
        intro made mz N Z H locs hV hS ls hl
        refine lv_iinc (v := nI (6 * (t + 1))) (lv' := [(3, .int (nI (6 * (t + 1)))), (0, .ref b), (1, .ref x), (2, .ref y)]) hx hb dL_law_544 hl (k := 3) rfl (show (nI (6 * t)) + Int32.ofInt 6 = nI (6 * (t + 1)) from nI_add (6 * t) 6) (by decide) rfl (fun ls hl => ?_)
        refine lv_goto (tgt := 18) hx hb dL_law_547 (by decide) ?_
        refine W.widen (k := 20 + 8 * (t + 1)) (n := 400 + 500 * (t + 1)) (by omega) (by omega) ?_
        exact ih (t + 1) (by omega) (by omega) made mz N Z H locs hV hS ls (lv_sub hl [1, 2, 3, 0] rfl)
      rcases (show d = 0 ∨ d = 1 ∨ d = 2 ∨ d = 3 ∨ d = 4 ∨ d = 5 ∨ d = 6 ∨ d = 7 ∨ d = 8 ∨ d = 9 ∨ d = 10 ∨ d = 11 ∨ d = 12 ∨ d = 13 ∨ d = 14 ∨ d = 15 by omega) with rfl | rfl | rfl | rfl | rfl | rfl | rfl | rfl | rfl | rfl | rfl | rfl | rfl | rfl | rfl | rfl
      · refine lv_tableIn (tgt := 104) hx hb dL_law_33 (by decide) (by decide) rfl (by decide) ?_
        exact law_c0 hL C0 hK (by omega) (by omega) (by omega) hV hS (lv_sub hl [0, 1, 2, 3] rfl) hc
      · refine lv_tableIn (tgt := 137) hx hb dL_law_33 (by decide) (by decide) rfl (by decide) ?_
        exact law_c1 hL C0 hK (by omega) (by omega) (by omega) hV hS (lv_sub hl [0, 1, 2, 3] rfl) hc
      · refine lv_tableIn (tgt := 160) hx hb dL_law_33 (by decide) (by decide) rfl (by decide) ?_
        exact law_c2 hL C0 hK (by omega) (by omega) (by omega) hV hS (lv_sub hl [0, 1, 2, 3] rfl) hc
      · refine lv_tableIn (tgt := 183) hx hb dL_law_33 (by decide) (by decide) rfl (by decide) ?_
        exact law_c3 hL C0 hK (by omega) (by omega) (by omega) hV hS (lv_sub hl [0, 1, 2, 3] rfl) hc
      · refine lv_tableIn (tgt := 204) hx hb dL_law_33 (by decide) (by decide) rfl (by decide) ?_
        exact law_c4 hL C0 hK (by omega) (by omega) (by omega) hV hS (lv_sub hl [0, 1, 2, 3] rfl) hc
      · refine lv_tableIn (tgt := 257) hx hb dL_law_33 (by decide) (by decide) rfl (by decide) ?_
        exact law_c5 hL C0 hK (by omega) (by omega) (by omega) hV hS (lv_sub hl [0, 1, 2, 3] rfl) hc
      · refine lv_tableIn (tgt := 278) hx hb dL_law_33 (by decide) (by decide) rfl (by decide) ?_
        exact law_c6 hL C0 hK (by omega) (by omega) (by omega) hV hS (lv_sub hl [0, 1, 2, 3] rfl) hc
      · refine lv_tableIn (tgt := 312) hx hb dL_law_33 (by decide) (by decide) rfl (by decide) ?_
        exact law_c7 hL C0 hK (by omega) (by omega) (by omega) hV hS (lv_sub hl [0, 1, 2, 3] rfl) hc
      · refine lv_tableIn (tgt := 355) hx hb dL_law_33 (by decide) (by decide) rfl (by decide) ?_
        exact law_c8 hL C0 hK (by omega) (by omega) (by omega) hV hS (lv_sub hl [0, 1, 2, 3] rfl) hc
      · refine lv_tableIn (tgt := 398) hx hb dL_law_33 (by decide) (by decide) rfl (by decide) ?_
        exact law_c9 hL C0 hK (by omega) (by omega) (by omega) hV hS (lv_sub hl [0, 1, 2, 3] rfl) hc
      · refine lv_tableIn (tgt := 441) hx hb dL_law_33 (by decide) (by decide) rfl (by decide) ?_
        exact law_c10 hL C0 hK (by omega) (by omega) (by omega) hV hS (lv_sub hl [0, 1, 2, 3] rfl) hc
      · refine lv_tableIn (tgt := 464) hx hb dL_law_33 (by decide) (by decide) rfl (by decide) ?_
        exact law_c11 hL C0 hK (by omega) (by omega) (by omega) hV hS (lv_sub hl [0, 1, 2, 3] rfl) hc
      · refine lv_tableIn (tgt := 497) hx hb dL_law_33 (by decide) (by decide) rfl (by decide) ?_
        exact law_c12 hL C0 hK (by omega) (by omega) (by omega) hV hS (lv_sub hl [0, 1, 2, 3] rfl) hc
      · refine lv_tableIn (tgt := 520) hx hb dL_law_33 (by decide) (by decide) rfl (by decide) ?_
        exact law_c13 hL C0 hK (by omega) (by omega) (by omega) hV hS (lv_sub hl [0, 1, 2, 3] rfl) hc
      · refine lv_tableOut (tgt := 544) hx hb dL_law_33 (Or.inr (by decide)) (by decide) ?_
        refine W.widen (k := 20 + 8 * t + 8) (n := 400 + 500 * t + 500) (by omega) (by omega) ?_
        exact hc made mz N Z H locs hV hS ls (lv_sub hl [0, 1, 2, 3] rfl)
      · refine lv_tableOut (tgt := 544) hx hb dL_law_33 (Or.inr (by decide)) (by decide) ?_
        refine W.widen (k := 20 + 8 * t + 8) (n := 400 + 500 * t + 500) (by omega) (by omega) ?_
        exact hc made mz N Z H locs hV hS ls (lv_sub hl [0, 1, 2, 3] rfl)
/-- what the tables and the start give every method -/
theorem fr_K_start {s : State} {b : Nat} (hts0 : ∀ w ∈ lw_tbl, w.before #[Value.ref b] s = true) (hgv : (Jvm.Cond.and given_1 narrow_1).before #[Value.ref b] s = true) : ∃ (D : va_G) (k : fr_k), fr_K D k s := by
  have hts : ∀ w ∈ lw_all, w.before #[Value.ref b] s = true := fun w h => hts0 w (lw_all_tbl h)
  obtain ⟨c0, i0, k0⟩ := u_known (C := RX0) (T := TX0) (N := 3) (n := 3) hts in_X0 (hts _ q22)
  obtain ⟨c1, i1, k1⟩ := u_known (C := RX1) (T := TX1) (N := 3) (n := 3) hts in_X1 (hts _ q124)
  obtain ⟨c2, i2, k2⟩ := u_known (C := RX3) (T := TX3) (N := 2) (n := 2) hts in_X3 (hts _ q105)
  obtain ⟨c3, i3, k3⟩ := u_known (C := RX4) (T := TX4) (N := 3) (n := 3) hts in_X4 (hts _ q371)
  obtain ⟨cL, kL, compL, l1, l2, l3⟩ := Cond.arrayClass_spec (hts _ q117)
  have hQ : va_AO "ImmutableLongArray" s := va_AO.of (hts0 _ q119)
  obtain ⟨compQ, cQ, kQ, r1, -, r2, r3, r4⟩ := Cond.arrayOver_spec hQ
  have hG : va_Nw (.arrayOver (.array .long)) s := over_moved (Vm.Alike.refl _) (hts0 _ q377)
  obtain ⟨compG, cG, kG, g1, -, g2, g3, g4⟩ := arrayOverA_spec hG
  have hs := flat_of_before _ hgv
  have e1 : (Cond.exactly (Term.string "ImmutableLongArray" (7 : Nat)) "java/lang/String").before #[Value.ref b] s = true := hs _ (by decide +kernel)
  have e2 : (Cond.exactly (Term.string "Preconditions" (9 : Nat)) "java/lang/String").before #[Value.ref b] s = true := hs _ (by decide +kernel)
  obtain ⟨t1, -, -, -, v1, -⟩ := Cond.exactly_spec e1
  obtain ⟨t2, -, -, -, v2, -⟩ := Cond.exactly_spec e2
  refine ⟨(fun n => match n with | 0 => c0 | 1 => c1 | 2 => c2 | _ => c3, fun n => match n with | 0 => i0 | 1 => i1 | 2 => i2 | _ => i3), ((cL, cQ, cG), (t1, t2)), ⟨?_, ?_⟩, hQ, hG, va_Nw.of rfl (hts0 _ q206), va_Nw.of rfl (hts0 _ q132), va_Nw.of rfl (hts0 _ q134), va_Nw.of rfl (hts0 _ q237), va_Nw.of rfl (hts0 _ q238), vk_R.of (hts0 _ q32) v1, vk_R.of (hts0 _ q311) v2⟩
  · intro n q hq
    match n, hq with
    | 0, hq => cases hq; exact k0
    | 1, hq => cases hq; exact k1
    | 2, hq => cases hq; exact k2
    | 3, hq => cases hq; exact k3
    | n + 4, hq => simp [vwCl] at hq
  · intro n q hq
    match n, hq with
    | 0, hq => cases hq; exact ⟨fun N z => ⟨(fun k h => by cases h), kL, l2, compL, l3⟩, l1⟩
    | 1, hq => cases hq; exact ⟨fun N z => ⟨(fun k h => by cases h), kQ, r2, compQ, r3⟩, kQ, compQ, r2, r3, r1, r4⟩
    | 2, hq => cases hq; exact ⟨fun N z => ⟨(fun k h => by cases h), kG, g2, compG, g3⟩, g4⟩
    | n + 3, hq => simp [fr_ty] at hq
set_option maxHeartbeats 4000000 in
set_option maxRecDepth 100000 in
/-- THE LAW, from its entry -/
theorem whole_start {p : Program} {e : Env} {s : State} {m : MethodId} {below : List Frame} {meth : Method} {c : Code} (l : Launch) (hflags : l.flags = flags0) {b L : Nat} {xs : Nat → Int32} (hL : L ≤ 288) (C0 : lw_At p s m meth c b L xs) : W p l e room_1 s m #[Value.ref b] below meth c s.heap [] 0 0 (lw_Z below #[Value.ref b] s) (entryFrame m ([Value.ref b] : List Value).toArray 4) := by
  obtain ⟨hx, hb, hr, hml, hown, hts0, hX, hbl, hlocks, hgv⟩ := id C0
  have hts : ∀ w ∈ lw_all, w.before #[Value.ref b] s = true := fun w h => hts0 w (lw_all_tbl h)
  have hA : ∀ q : Nat, s.heap.size ≤ q → fr_A s q := fun _ h => h
  obtain ⟨D, k, hK⟩ := fr_K_start hts0 hgv
  have hS : va_S (fr_A s) s.heap s.heap [] := va_S.rf
  have hI0 : wI D (fr_A s) [] (fun _ => fO 0 []) s.heap := wI.nil
  have hl := lv_entry ([.ref b]) (n := 4) (Nat.le_of_ble_eq_true rfl)
  rw [lg_entry_eq]
  generalize (lg_sl ([.ref b]) ++ List.replicate (4 - (lg_sl ([.ref b])).length) Slot.unset).toArray = ls at hl ⊢
  have hl : lv_has ls 4 [(0, .ref b)] := hl
  refine fr_new (C := RX0) (T := TX0) (N := 3) (ci := 0) (fs := [.null, .int 0, .null]) hx hb hts in_X0 tyX0 tyX0_ok hown q21 q22 q4 hK hI0 hS hA rfl (fun j hj => by rcases (show j = 0 ∨ j = 1 ∨ j = 2 by omega) with rfl | rfl | rfl <;> rfl) (Nat.le_of_ble_eq_true rfl) (Nat.le_of_ble_eq_true rfl) dL_law_0 (fun x H L1 f1 q_x m_x v_x x_1 hI hS => ?_)
  refine lv_dup hx hb dL_law_3 rfl ?_
  refine fr_cv (fr_runI (As := []) (rest := [.ref x]) ⟨hx, hb, hml, hown, hts⟩ (metX0_init l D k (fr_A s) H.size L1 f1 x m_x v_x (fun q h => Nat.le_trans hS.1 h)) (cwI 0 hts (lw_meth q25) rfl rfl rfl (hts _ q4) (hts _ q23) (hts _ q24) rfl (by decide +kernel) ⟨Nat.le_of_ble_eq_true rfl, Nat.le_of_ble_eq_true rfl⟩) hK hI rfl hl.1 rfl (Nat.le_of_ble_eq_true rfl) dL_law_4 ⟨Nat.le_of_ble_eq_true rfl, Nat.le_of_ble_eq_true rfl⟩) hS (fun L1 f1 H locs hI1 hd hS => ?_)
  refine lv_astore_n (lv' := [(1, .ref x), (0, .ref b)]) hx hb dL_law_7 rfl hl (by decide) rfl (fun ls hl => ?_)
  refine fr_new (C := RX4) (T := TX4) (N := 3) (ci := 3) (fs := [.null, .int 0, .null]) hx hb hts in_X4 tyX4 tyX4_ok hown q370 q371 q12 hK hI1 hS hA rfl (fun j hj => by rcases (show j = 0 ∨ j = 1 ∨ j = 2 by omega) with rfl | rfl | rfl <;> rfl) (Nat.le_of_ble_eq_true rfl) (Nat.le_of_ble_eq_true rfl) dL_law_8 (fun y H L2 f2 q_y m_y v_y x_2 hI2 hS => ?_)
  refine lv_dup hx hb dL_law_11 rfl ?_
  have hI1 := hI1.from hI2 x_2
  have hI2 := hI2.one m_y
  have hdj : ∀ q ∈ [y], q ∉ L1 := fun q h => by rw [List.mem_singleton.mp h]; exact q_y
  have m_y : y ∈ [y] := List.mem_singleton.mpr rfl
  refine fr_xv hI2 hI1 hdj hS hA (fr_runI (As := []) (rest := [.ref y]) ⟨hx, hb, hml, hown, hts⟩ (metX4_init l D k (fr_B [y] H) H.size [y] f2 y m_y v_y (fun q h => Or.inr h)) (cwI 0 hts (lw_meth q374) rfl rfl rfl (hts _ q12) (hts _ q372) (hts _ q373) rfl (by decide +kernel) ⟨Nat.le_of_ble_eq_true rfl, Nat.le_of_ble_eq_true rfl⟩) hK (hI2.weaken fun q hq _ => Or.inl hq) rfl hl.1 rfl (Nat.le_of_ble_eq_true rfl) dL_law_12 ⟨Nat.le_of_ble_eq_true rfl, Nat.le_of_ble_eq_true rfl⟩) (fun L2 f2 H locs hI2 hm hI1 hdj hS => ?_)
  refine lv_astore_n (lv' := [(2, .ref y), (1, .ref x), (0, .ref b)]) hx hb dL_law_15 rfl hl (by decide) rfl (fun ls hl => ?_)
  refine lv_iconst (v := 0) hx hb dL_law_16 (by decide) ?_
  refine lv_istore_n (lv' := [(3, .int 0), (2, .ref y), (1, .ref x), (0, .ref b)]) hx hb dL_law_17 rfl hl (by decide) rfl (fun ls hl => ?_)
  refine W.widen (k := 20 + 8 * 0) (n := 400 + 500 * 0) (by omega) (by omega) ?_
  exact law_loop hL C0 hK 49 0 (by omega) (by omega) 0 _ _ _ H locs ⟨L1, f1, L2, f2, hI1, hI2, fun q h1 h2 => hdj q h2 h1, hd, hm⟩ hS ls (lv_sub hl [3, 2, 1, 0] rfl)
end
section
set_option maxRecDepth 100000
set_option maxHeartbeats 4000000 in
theorem lw_walk (l : Launch) (hflags : l.flags = flags0) (b : Addr) (xs : List Int32) : MetFree l x (headSpec (Jvm.Cond.code x code maxLocals ret :: tables_1) room_1) (lw_P b xs) (fun _ _ _ _ _ => True) lw_Q := by
  refine MetFree.of_bodyS (code := code) (maxLocals := maxLocals) (ret := ret) (by decide) ?_ ?_
  · intro args s m h hn
    obtain ⟨meth, c, h1, h2, h3, h4, h5, h6, -, -⟩ := Cond.code_spec hn (atoms_spec (ws := Jvm.Cond.code x code maxLocals ret :: tables_1) h _ List.mem_cons_self)
    exact ⟨meth, c, h1, h2, h3, h4, h5, h6⟩
  · intro p e s m args below meth c s₁ B hml0 hP _
    obtain ⟨rfl, hx, hbd, hgv⟩ := hP
    obtain ⟨scr, harrAt, hlist, hof, hsmall⟩ := hx
    obtain ⟨hcb, hkn, -, -⟩ := State.arrayAt?_spec harrAt
    have hown : s.vm.findClass R_law = some m.cls := findClass_of_methodNamed B.named
    have hts0 : ∀ c ∈ (Jvm.Cond.code x code maxLocals ret :: tables_1), c.before #[Value.ref b] s = true := atoms_spec (ws := Jvm.Cond.code x code maxLocals ret :: tables_1) B.pre
    have hts : ∀ w ∈ lw_tbl, w.before #[Value.ref b] s = true := k2_hts_sels lw_privs (fun w hw => hts0 w (List.mem_cons_of_mem _ hw)) lw_privs_ok
    have hml : c.maxLocals = 4 := B.maxLocals_eq (hts0 _ List.mem_cons_self)
    have X₀ : Stand p l e room_1 s m #[Value.ref b] below meth c s₁ [] 0 0 := Stand.of_body B
    have hh0 : s₁.heap = s.heap := by rw [B.state]; rfl
    have hsz : scr.slots.size = xs.length := by rw [← Array.length_toList, hlist, List.length_map]
    have hval : ∀ j : Nat, j < xs.length → scr.slots[j]? = some (.int (xs.getD j 0)) := fun j hj => by
      rw [← Array.getElem?_toList, hlist]
      simp [hj]
    have hbl : b < s.heap.size := (Array.getElem?_eq_some_iff.mp hcb).1
    have hX : va_X b xs.length (fun j => xs.getD j 0) s s.heap := ⟨scr, hcb, hof, hkn, hsz, hval⟩
    have K : W p l e room_1 s m #[Value.ref b] below meth c s₁.heap [] 0 0 (lw_Z below #[Value.ref b] s) (entryFrame m ([Value.ref b] : List Value).toArray 4) := by
      rw [hh0]
      exact whole_start l hflags hbd ⟨B.exec, B.bytes, B.returns, hml, hown, hts, hX, hbl, B.notSynchronized, hgv⟩
    obtain ⟨t, a1, o, b1, b2, b3⟩ := K s₁ rfl X₀
    exact ⟨t, o, a1, b1, b2, b3⟩
theorem lw_pre_spec {args : Array Value} {s : State} (h : (Jvm.Cond.and given_1 narrow_1).before args s = true) (hr : rest_1_c.before args s = true) : ∃ (b : Addr) (xs : List Int32), lw_P b xs args s := by
  have hs := flat_of_before _ h
  have hq := flat_of_before _ hr
  have hc : (Cond.count 1).before args s = true := hs _ (by decide +kernel)
  have harr : (Cond.arrayOf (.arg 0) .int).before args s = true := hs _ (by decide +kernel)
  have hle : (Cond.le (.length (.arg 0)) (.int 288)).before args s = true := hs _ (by decide +kernel)
  have hlen : (Cond.isInt (.length (.arg 0))).before args s = true := hq _ (by decide +kernel)
  have hall : (Cond.all (.arg 0) (.isInt (.elem (.arg 0) (.index 0)))).before args s = true := hq _ (by decide +kernel)
  obtain ⟨b, xs, hb, hx⟩ := State.ints_of_pre rfl harr hlen hall
  have hsm : xs.length < 2 ^ 31 := hx.choose_spec.2.2.2
  have hev : (Term.length (.arg 0)).eval args s none [] s = some (.int xs.length.toInt32) := hx.length_eval hb
  have hv := Cond.le_ints hev (show (Term.int 288).eval args s none [] s = some (.int 288) from rfl)
  have hd : xs.length.toInt32 ≤ 288 := by
    simpa [Cond.before, Cond.holds, hv] using hle
  have hN : xs.length ≤ 288 := (Int32.ofNat_le_ofNat hsm (by decide)).mp (show Int32.ofNat xs.length ≤ Int32.ofNat 288 from hd)
  exact ⟨b, xs, Cond.one_arg hc (show args[0]? = some (.ref b) from hb), hx, hN, h⟩
theorem lw_comes (l : Launch) (hflags : l.flags = flags0) : Comes l x (Jvm.Cond.code x code maxLocals ret :: tables_1) room_1 (fun tb e args s => Calls_1 tb e args s ∧ rest_1 tb e args s ∧ Pre_1 tb e args s)
    (fun _ _ args s o t => lw_Q args s o t) := by
  intro p e ha hc hk s m args below hf hfit hheap happ hpre
  obtain ⟨b, xs, hP⟩ := lw_pre_spec hpre.2.2 hpre.2.1
  obtain ⟨k, o, h1, h2, h3, hQ⟩ := lw_walk l hflags b xs p e ha hc hk s m args below hf ((Spec.applies_iff_loose hf).mp happ).1 hP trivial
  exact ⟨k, o, h1, h2, h3, hQ⟩
theorem lw_frame {s t : State} {o : Outcome} {args : Array Value} (h : Framed s o t [] 1200096 5501386) :
    Framed s o t (fieldLocs frame_1_writes args s ++ arrayLocs frame_1_arrays args s ++ staticLocs frame_1_statics s) 1200096 5501386 := h
theorem lw_limb (L : Cond) (hL : ∀ (args : Array Value) (s t : State), L.after args s (.returned (some (.int 1))) t = true) :
    ArmFor flags0 classFile x code maxLocals ret World_1 tables_1 room_1 Calls_1 rest_1 Pre_1
      (fun tb e a s o t => postC L tb e a s o t ∧ Framed s o t (fieldLocs frame_1_writes a s ++ arrayLocs frame_1_arrays a s ++ staticLocs frame_1_statics s) 1200096 5501386) := by
  intro l hflags _ _ p e ha hc hk s m args below hf hfit hheap happ hpre
  obtain ⟨k, o, h1, h2, h3, rfl, hF⟩ := lw_comes l hflags p e ha hc hk s m args below hf hfit hheap happ hpre
  exact ⟨k, _, h1, h2, h3, hL args s _, lw_frame hF⟩
theorem i_vc : Claimed_1_1 ∧ Claimed_1_2 := ⟨lw_limb limb_1_1 (fun args s t => by simp [limb_1_1, Cond.after, Cond.holds, Cond.value]), lw_limb limb_1_2 (fun args s t => Cond.after_iff.mpr (by
  first | (rw [show limb_1_2 = Cond.eq .result (.int 1) from rfl, Cond.eq_ints (x := 1) (y := 1) rfl rfl]; simp; done) | (simp [limb_1_2, Cond.value, Term.eval]; done)))⟩
end
