section
-- ===== PART A: goes FIRST, ahead of the names: the tables' words, and 'selects' of the private methods out of them =====
/-- a private method of a class that the tables say can be made, by its rows of tables_1 -/
def lw_okq (q : MethodName × Nat) : Prop := (q.1.cls ≠ "java/lang/invoke/MethodHandle" ∧ q.1.cls ≠ "java/lang/invoke/VarHandle") ∧ Cond.instantiable q.1.cls q.2 ∈ tables_1 ∧ Cond.privateMethod q.1 ∈ tables_1 ∧ Cond.instanceMethod q.1 ∈ tables_1
set_option maxRecDepth 100000
theorem lw_t1 {w : Cond} (h : w ∈ tables_1_1) : w ∈ tables_1 := List.mem_append_left _ h
theorem lw_t2 {w : Cond} (h : w ∈ tables_1_2) : w ∈ tables_1 := List.mem_append_right _ h
theorem lw_p0 : lw_okq (⟨"NoekeonDesk", "run", "(ZI)V"⟩, 3) := ⟨⟨by decide +kernel, by decide +kernel⟩, lw_t1 (List.mem_of_getElem? (i := 18) rfl), lw_t1 (List.mem_of_getElem? (i := 52) rfl), lw_t1 (List.mem_of_getElem? (i := 53) rfl)⟩
theorem lw_p1 : lw_okq (⟨"java/lang/Throwable", "fillInStackTrace", "(I)Ljava/lang/Throwable;"⟩, 6) := ⟨⟨by decide +kernel, by decide +kernel⟩, lw_t1 (List.mem_of_getElem? (i := 145) rfl), lw_t1 (List.mem_of_getElem? (i := 143) rfl), lw_t1 (List.mem_of_getElem? (i := 144) rfl)⟩
theorem lw_p2 : lw_okq (⟨"NoekeonEngine", "encryptBlock", "([BI[BI)I"⟩, 3) := ⟨⟨by decide +kernel, by decide +kernel⟩, lw_t1 (List.mem_of_getElem? (i := 59) rfl), lw_t2 (List.mem_of_getElem? (i := 12) rfl), lw_t2 (List.mem_of_getElem? (i := 13) rfl)⟩
theorem lw_p3 : lw_okq (⟨"NoekeonEngine", "decryptBlock", "([BI[BI)I"⟩, 3) := ⟨⟨by decide +kernel, by decide +kernel⟩, lw_t1 (List.mem_of_getElem? (i := 59) rfl), lw_t2 (List.mem_of_getElem? (i := 22) rfl), lw_t2 (List.mem_of_getElem? (i := 23) rfl)⟩
theorem lw_p4 : lw_okq (⟨"NoekeonDeskModel", "cut", "()[I"⟩, 3) := ⟨⟨by decide +kernel, by decide +kernel⟩, lw_t2 (List.mem_of_getElem? (i := 38) rfl), lw_t2 (List.mem_of_getElem? (i := 69) rfl), lw_t2 (List.mem_of_getElem? (i := 70) rfl)⟩
theorem lw_p5 : lw_okq (⟨"NoekeonDeskModel", "lays", "([I)V"⟩, 3) := ⟨⟨by decide +kernel, by decide +kernel⟩, lw_t2 (List.mem_of_getElem? (i := 38) rfl), lw_t2 (List.mem_of_getElem? (i := 97) rfl), lw_t2 (List.mem_of_getElem? (i := 98) rfl)⟩
def lw_privs_1 : List (MethodName × Nat) := [(⟨"NoekeonDesk", "run", "(ZI)V"⟩, 3), (⟨"java/lang/Throwable", "fillInStackTrace", "(I)Ljava/lang/Throwable;"⟩, 6), (⟨"NoekeonEngine", "encryptBlock", "([BI[BI)I"⟩, 3), (⟨"NoekeonEngine", "decryptBlock", "([BI[BI)I"⟩, 3), (⟨"NoekeonDeskModel", "cut", "()[I"⟩, 3), (⟨"NoekeonDeskModel", "lays", "([I)V"⟩, 3)]
theorem lw_r1 : ∀ q ∈ lw_privs_1, lw_okq q := List.forall_mem_cons.mpr ⟨lw_p0, List.forall_mem_cons.mpr ⟨lw_p1, List.forall_mem_cons.mpr ⟨lw_p2, List.forall_mem_cons.mpr ⟨lw_p3, List.forall_mem_cons.mpr ⟨lw_p4, List.forall_mem_cons.mpr ⟨lw_p5, fun _ h => absurd h List.not_mem_nil⟩⟩⟩⟩⟩⟩
def lw_privs : List (MethodName × Nat) := lw_privs_1
def lw_tbl : List Cond := k2_sels lw_privs ++ tables_1
theorem lw_privs_ok : ∀ q ∈ lw_privs, lw_okq q := lw_r1
-- ===== ONE list of words for every method: the tables' words that hold all through a run =====
def lw_all : List Cond := lw_tbl.filter goodWord
/-- a word of the tables by its place: claim/WORDS.tsv -/
theorem lw_w {w : Cond} (i : Nat) (h : lw_tbl[i]? = some w) (g : goodWord w = true) : w ∈ lw_all := List.mem_filter.mpr ⟨List.mem_of_getElem? h, g⟩
theorem lw_all_tbl {w : Cond} (h : w ∈ lw_all) : w ∈ lw_tbl := (List.mem_filter.mp h).1
theorem lw_self : GoodIn lw_all lw_all := fun w h => ⟨h, good_of_word (List.mem_filter.mp h).2⟩
/-- a class's field words, by their places -/
theorem lw_in (ws : List Cond) (ps : List Nat) (hp : ws = ps.filterMap (fun i => lw_tbl[i]?)) (hg : ws.all goodWord = true) : ∀ w ∈ ws, w ∈ lw_all := by
  intro w h
  have h1 := List.all_eq_true.mp hg w h
  rw [hp] at h
  obtain ⟨i, -, hi⟩ := List.mem_filterMap.mp h
  exact lw_w i hi h1
/-- the words of a contract for the method y with code b, L locals, answer r -/
abbrev ws_ (y : MethodName) (b : ByteArray) (L : Nat) (r : Option FieldType) : List Cond := Cond.code y b L r :: lw_all
theorem lw_meth {y : MethodName} {b : ByteArray} {L : Nat} {r : Option FieldType} (h : Cond.code y b L r ∈ lw_all) : GoodIn lw_all (ws_ y b L r) := by
  intro w hw
  rcases List.mem_cons.mp hw with e | e
  · rw [e]
    exact lw_self _ h
  · exact lw_self _ e
theorem lw_app {a c : List Cond} (ha : ∀ w ∈ a, w ∈ lw_all) (hc : GoodIn lw_all c) : GoodIn lw_all (a ++ c) := by
  intro w hw
  rcases List.mem_append.mp hw with e | e
  · exact lw_self w (ha w e)
  · exact hc w e
/-- what a call through an object asks: cwV n hts (lw_V ..) -/
theorem lw_V {own : String} {idx : Nat} {C : String} {y : MethodName} {b : ByteArray} {L : Nat} {r : Option FieldType} (h1 : Cond.methodLink own idx y ∈ lw_all) (h2 : Cond.instanceMethod y ∈ lw_all) (h3 : Cond.selects C y y ∈ lw_all) (h4 : Cond.initialized C ∈ lw_all) (h5 : Cond.code y b L r ∈ lw_all) : GoodIn lw_all (wsV own idx C y (ws_ y b L r)) := by
  refine lw_app ?_ (lw_meth h5)
  intro w hw
  simp only [List.mem_cons, List.not_mem_nil, or_false] at hw
  rcases hw with e | e | e | e
  · rw [e]; exact h1
  · rw [e]; exact h2
  · rw [e]; exact h3
  · rw [e]; exact h4
/-- what a static call asks: va_cwS n hts (lw_S ..) -/
theorem lw_S {own : String} {idx : Nat} {y : MethodName} {b : ByteArray} {L : Nat} {r : Option FieldType} (h1 : Cond.methodLink own idx y ∈ lw_all) (h2 : Cond.static y ∈ lw_all) (h3 : Cond.initialized y.cls ∈ lw_all) (h4 : Cond.code y b L r ∈ lw_all) : GoodIn lw_all (va_wsS own idx y (ws_ y b L r)) := by
  refine lw_app ?_ (lw_meth h4)
  intro w hw
  simp only [List.mem_cons, List.not_mem_nil, or_false] at hw
  rcases hw with e | e | e
  · rw [e]; exact h1
  · rw [e]; exact h2
  · rw [e]; exact h3
/-- the words of a contract for a method WITH HANDLERS (hh: its table) -/
abbrev wsW_ (y : MethodName) (b : ByteArray) (L : Nat) (r : Option FieldType) (hh : List (Nat × Nat × Nat × Nat)) : List Cond := Cond.codeWith y b L r hh :: lw_all
theorem lw_methW {y : MethodName} {b : ByteArray} {L : Nat} {r : Option FieldType} {hh : List (Nat × Nat × Nat × Nat)} (h : Cond.codeWith y b L r hh ∈ lw_all) : GoodIn lw_all (wsW_ y b L r hh) := by
  intro w hw
  rcases List.mem_cons.mp hw with e | e
  · rw [e]
    exact lw_self _ h
  · exact lw_self _ e
/-- any list of words by their places (lw_in), good -/
theorem lw_good {ws : List Cond} (h : ∀ w ∈ ws, w ∈ lw_all) : GoodIn lw_all ws := fun w hw => lw_self w (h w hw)
/-- what a call of a method with handlers asks: vx_cwVW n hts (lw_VW ..), vx_cwSW n hts (lw_SW ..) -/
theorem lw_VW {own : String} {idx : Nat} {C : String} {y : MethodName} {b : ByteArray} {L : Nat} {r : Option FieldType} {hh : List (Nat × Nat × Nat × Nat)} (h1 : Cond.methodLink own idx y ∈ lw_all) (h2 : Cond.instanceMethod y ∈ lw_all) (h3 : Cond.selects C y y ∈ lw_all) (h4 : Cond.initialized C ∈ lw_all) (h5 : Cond.codeWith y b L r hh ∈ lw_all) : GoodIn lw_all (wsV own idx C y (wsW_ y b L r hh)) := by
  refine lw_app ?_ (lw_methW h5)
  intro w hw
  simp only [List.mem_cons, List.not_mem_nil, or_false] at hw
  rcases hw with e | e | e | e
  · rw [e]; exact h1
  · rw [e]; exact h2
  · rw [e]; exact h3
  · rw [e]; exact h4
theorem lw_SW {own : String} {idx : Nat} {y : MethodName} {b : ByteArray} {L : Nat} {r : Option FieldType} {hh : List (Nat × Nat × Nat × Nat)} (h1 : Cond.methodLink own idx y ∈ lw_all) (h2 : Cond.static y ∈ lw_all) (h3 : Cond.initialized y.cls ∈ lw_all) (h4 : Cond.codeWith y b L r hh ∈ lw_all) : GoodIn lw_all (va_wsS own idx y (wsW_ y b L r hh)) := by
  refine lw_app ?_ (lw_methW h4)
  intro w hw
  simp only [List.mem_cons, List.not_mem_nil, or_false] at hw
  rcases hw with e | e | e
  · rw [e]; exact h1
  · rw [e]; exact h2
  · rw [e]; exact h3
/-- a word by its place in its run of the tables -/
theorem lw_at {r : List Cond} (hr : ∀ w ∈ r, w ∈ lw_tbl) {w : Cond} (i : Nat) (h : r[i]? = some w) : w ∈ lw_tbl := hr w (List.mem_of_getElem? h)
theorem lw_g {w : Cond} (h : w ∈ lw_tbl) (g : goodWord w = true) : w ∈ lw_all := List.mem_filter.mpr ⟨h, g⟩
theorem lw_ms : ∀ w ∈ k2_sels lw_privs, w ∈ lw_tbl := fun w h => show w ∈ k2_sels lw_privs ++ tables_1 from List.mem_append_left _ h
theorem lw_m1 : ∀ w ∈ tables_1_1, w ∈ lw_tbl := fun w h => show w ∈ k2_sels lw_privs ++ tables_1 from List.mem_append_right (k2_sels lw_privs) (show w ∈ tables_1 from List.mem_append_left _ h)
theorem lw_m2 : ∀ w ∈ tables_1_2, w ∈ lw_tbl := fun w h => show w ∈ k2_sels lw_privs ++ tables_1 from List.mem_append_right (k2_sels lw_privs) (show w ∈ tables_1 from List.mem_append_right _ h)
theorem qs0 : (Cond.selects "NoekeonDesk" ⟨"NoekeonDesk", "run", "(ZI)V"⟩ ⟨"NoekeonDesk", "run", "(ZI)V"⟩) ∈ lw_all := lw_g (lw_at lw_ms 0 rfl) rfl
theorem qs1 : (Cond.selects "java/lang/Throwable" ⟨"java/lang/Throwable", "fillInStackTrace", "(I)Ljava/lang/Throwable;"⟩ ⟨"java/lang/Throwable", "fillInStackTrace", "(I)Ljava/lang/Throwable;"⟩) ∈ lw_all := lw_g (lw_at lw_ms 1 rfl) rfl
theorem qs2 : (Cond.selects "NoekeonEngine" ⟨"NoekeonEngine", "encryptBlock", "([BI[BI)I"⟩ ⟨"NoekeonEngine", "encryptBlock", "([BI[BI)I"⟩) ∈ lw_all := lw_g (lw_at lw_ms 2 rfl) rfl
theorem qs3 : (Cond.selects "NoekeonEngine" ⟨"NoekeonEngine", "decryptBlock", "([BI[BI)I"⟩ ⟨"NoekeonEngine", "decryptBlock", "([BI[BI)I"⟩) ∈ lw_all := lw_g (lw_at lw_ms 3 rfl) rfl
theorem qs4 : (Cond.selects "NoekeonDeskModel" ⟨"NoekeonDeskModel", "cut", "()[I"⟩ ⟨"NoekeonDeskModel", "cut", "()[I"⟩) ∈ lw_all := lw_g (lw_at lw_ms 4 rfl) rfl
theorem qs5 : (Cond.selects "NoekeonDeskModel" ⟨"NoekeonDeskModel", "lays", "([I)V"⟩ ⟨"NoekeonDeskModel", "lays", "([I)V"⟩) ∈ lw_all := lw_g (lw_at lw_ms 5 rfl) rfl
end
section
/-! DECODE ROWS BY BYTES: one lemma an opcode; a method's code is cut into short pieces once, and a row reads its own piece alone. -/
set_option maxRecDepth 100000
/-- the code has just these bytes from pc on -/
def DkAt (code : ByteArray) (pc : Nat) (bs : List UInt8) : Prop := ∀ (j : Nat) (b : UInt8), bs[j]? = some b → code.data.toList[pc + j]? = some b
/-- the piece W has the bytes bs from its place j on -/
def dkIn (W : List UInt8) (j : Nat) (bs : List UInt8) : Bool := decide ((W.drop j).take bs.length = bs)
theorem dk_seg {l W T : List UInt8} {o o2 : Nat} (h : l.drop o = W ++ T) (n : Nat) (hn : W.length = n) (ho : o + n = o2) : l.drop o2 = T := by
  subst ho
  rw [← List.drop_drop, h, List.drop_left' hn]
theorem dk_at {code : ByteArray} {W T bs : List UInt8} {o pc : Nat} (h : code.data.toList.drop o = W ++ T) (j : Nat) (hp : o + j = pc) (hw : dkIn W j bs = true) : DkAt code pc bs := by
  subst hp
  intro i b e
  have h1 := of_decide_eq_true hw
  have h2 : i < bs.length := (List.getElem?_eq_some_iff.mp e).1
  have h3 : W[j + i]? = some b := by
    rw [← h1, List.getElem?_take, if_pos h2, List.getElem?_drop] at e
    exact e
  have h4 : j + i < W.length := (List.getElem?_eq_some_iff.mp h3).1
  have h5 : (code.data.toList.drop o)[j + i]? = some b := by
    rw [h, List.getElem?_append_left h4]
    exact h3
  rw [List.getElem?_drop, ← Nat.add_assoc] at h5
  exact h5
theorem dk_u1 {A : ByteArray} {p : Nat} {b : UInt8} (h : A.data.toList[p]? = some b) : (Reader.u1 : Reader DecodeError Nat) A p = .ok (b.toNat, p + 1) := by
  obtain ⟨h1, h2⟩ := List.getElem?_eq_some_iff.mp h
  have h3 : p < A.size := by simpa using h1
  have h4 : A[p]'h3 = b := h2
  have e : (Reader.u1 : Reader DecodeError Nat) A p = (if h : p < A.size then .ok (A[p].toNat, p + 1) else .error (HasTruncated.truncated p)) := by
    show (do if h : p < A.size then do set (p + 1); Pure.pure A[p].toNat else MonadExcept.throw (HasTruncated.truncated p) : Reader DecodeError Nat) A p = _
    by_cases hi : p < A.size
    · rw [dif_pos hi, dif_pos hi]; rfl
    · rw [dif_neg hi, dif_neg hi]; rfl
  rw [e, dif_pos h3, h4]
theorem dk_bind {α β : Type} {r : Reader DecodeError α} {f : α → Reader DecodeError β} {A : ByteArray} {p s : Nat} {a : α} (h : r A p = .ok (a, s)) : (r >>= f) A p = f a A s := by
  show (do let (a, s) ← r A p; f a A s : Except DecodeError (β × Nat)) = _
  rw [h]
  rfl
theorem dk_map {α β : Type} {r : Reader DecodeError α} {g : α → β} {A : ByteArray} {p s : Nat} {a : α} (h : r A p = .ok (a, s)) : (g <$> r) A p = .ok (g a, s) := by
  show (do let (a, s) ← r A p; .ok (g a, s) : Except DecodeError (β × Nat)) = _
  rw [h]
  rfl
theorem dk_u2 {A : ByteArray} {p : Nat} {a b : UInt8} (h : A.data.toList[p]? = some a) (h2 : A.data.toList[p + 1]? = some b) : (Reader.u2 : Reader DecodeError Nat) A p = .ok (a.toNat * 256 + b.toNat, p + 2) := by
  show (Reader.u1 >>= fun hi => Reader.u1 >>= fun lo => Pure.pure (hi * 256 + lo) : Reader DecodeError Nat) A p = _
  rw [dk_bind (dk_u1 h), dk_bind (dk_u1 h2)]
  rfl
theorem dk_of {code : ByteArray} {pc n : Nat} {i : Instr} (h : Decoder.instr pc code pc = .ok (i, pc + n)) : decode code pc = .ok (i, n) := by
  have e : decode code pc = (match Decoder.instr pc code pc with | .error x => .error x | .ok (j, s) => .ok (j, s - pc)) := by
    show (do let (j, s) ← Decoder.instr pc code pc; Pure.pure (j, s - pc) : Except DecodeError (Instr × Nat)) = _
    cases Decoder.instr pc code pc <;> rfl
  rw [e, h]
  show Except.ok (i, pc + n - pc) = _
  rw [Nat.add_sub_cancel_left]
theorem dk_2 {code : ByteArray} {pc : Nat} (h : DkAt code pc [2]) : decode code pc = .ok (.iconst (-1), 1) := dk_of ((dk_bind (dk_u1 (h 0 _ rfl))).trans rfl)
theorem dk_3 {code : ByteArray} {pc : Nat} (h : DkAt code pc [3]) : decode code pc = .ok (.iconst 0, 1) := dk_of ((dk_bind (dk_u1 (h 0 _ rfl))).trans rfl)
theorem dk_4 {code : ByteArray} {pc : Nat} (h : DkAt code pc [4]) : decode code pc = .ok (.iconst 1, 1) := dk_of ((dk_bind (dk_u1 (h 0 _ rfl))).trans rfl)
theorem dk_5 {code : ByteArray} {pc : Nat} (h : DkAt code pc [5]) : decode code pc = .ok (.iconst 2, 1) := dk_of ((dk_bind (dk_u1 (h 0 _ rfl))).trans rfl)
theorem dk_6 {code : ByteArray} {pc : Nat} (h : DkAt code pc [6]) : decode code pc = .ok (.iconst 3, 1) := dk_of ((dk_bind (dk_u1 (h 0 _ rfl))).trans rfl)
theorem dk_7 {code : ByteArray} {pc : Nat} (h : DkAt code pc [7]) : decode code pc = .ok (.iconst 4, 1) := dk_of ((dk_bind (dk_u1 (h 0 _ rfl))).trans rfl)
theorem dk_8 {code : ByteArray} {pc : Nat} (h : DkAt code pc [8]) : decode code pc = .ok (.iconst 5, 1) := dk_of ((dk_bind (dk_u1 (h 0 _ rfl))).trans rfl)
theorem dk_16 {code : ByteArray} {pc : Nat} (a : UInt8) (h : DkAt code pc [16, a]) : decode code pc = .ok (.bipush (Reader.signed 8 a.toNat), 2) := dk_of ((dk_bind (dk_u1 (h 0 _ rfl))).trans ((dk_bind (dk_map (dk_u1 (h 1 _ rfl)))).trans rfl))
theorem dk_17 {code : ByteArray} {pc : Nat} (a b : UInt8) (h : DkAt code pc [17, a, b]) : decode code pc = .ok (.sipush (Reader.signed 16 (a.toNat * 256 + b.toNat)), 3) := dk_of ((dk_bind (dk_u1 (h 0 _ rfl))).trans ((dk_bind (dk_map (dk_u2 (h 1 _ rfl) (h 2 _ rfl)))).trans rfl))
theorem dk_18 {code : ByteArray} {pc : Nat} (a : UInt8) (h : DkAt code pc [18, a]) : decode code pc = .ok (.ldc a.toNat, 2) := dk_of ((dk_bind (dk_u1 (h 0 _ rfl))).trans ((dk_bind (dk_u1 (h 1 _ rfl))).trans rfl))
theorem dk_21 {code : ByteArray} {pc : Nat} (a : UInt8) (h : DkAt code pc [21, a]) : decode code pc = .ok (.iload a.toNat, 2) := dk_of ((dk_bind (dk_u1 (h 0 _ rfl))).trans ((dk_bind (dk_u1 (h 1 _ rfl))).trans rfl))
theorem dk_25 {code : ByteArray} {pc : Nat} (a : UInt8) (h : DkAt code pc [25, a]) : decode code pc = .ok (.aload a.toNat, 2) := dk_of ((dk_bind (dk_u1 (h 0 _ rfl))).trans ((dk_bind (dk_u1 (h 1 _ rfl))).trans rfl))
theorem dk_26 {code : ByteArray} {pc : Nat} (h : DkAt code pc [26]) : decode code pc = .ok (.iload_n 0, 1) := dk_of ((dk_bind (dk_u1 (h 0 _ rfl))).trans rfl)
theorem dk_27 {code : ByteArray} {pc : Nat} (h : DkAt code pc [27]) : decode code pc = .ok (.iload_n 1, 1) := dk_of ((dk_bind (dk_u1 (h 0 _ rfl))).trans rfl)
theorem dk_28 {code : ByteArray} {pc : Nat} (h : DkAt code pc [28]) : decode code pc = .ok (.iload_n 2, 1) := dk_of ((dk_bind (dk_u1 (h 0 _ rfl))).trans rfl)
theorem dk_29 {code : ByteArray} {pc : Nat} (h : DkAt code pc [29]) : decode code pc = .ok (.iload_n 3, 1) := dk_of ((dk_bind (dk_u1 (h 0 _ rfl))).trans rfl)
theorem dk_42 {code : ByteArray} {pc : Nat} (h : DkAt code pc [42]) : decode code pc = .ok (.aload_n 0, 1) := dk_of ((dk_bind (dk_u1 (h 0 _ rfl))).trans rfl)
theorem dk_43 {code : ByteArray} {pc : Nat} (h : DkAt code pc [43]) : decode code pc = .ok (.aload_n 1, 1) := dk_of ((dk_bind (dk_u1 (h 0 _ rfl))).trans rfl)
theorem dk_44 {code : ByteArray} {pc : Nat} (h : DkAt code pc [44]) : decode code pc = .ok (.aload_n 2, 1) := dk_of ((dk_bind (dk_u1 (h 0 _ rfl))).trans rfl)
theorem dk_45 {code : ByteArray} {pc : Nat} (h : DkAt code pc [45]) : decode code pc = .ok (.aload_n 3, 1) := dk_of ((dk_bind (dk_u1 (h 0 _ rfl))).trans rfl)
theorem dk_46 {code : ByteArray} {pc : Nat} (h : DkAt code pc [46]) : decode code pc = .ok (.iaload, 1) := dk_of ((dk_bind (dk_u1 (h 0 _ rfl))).trans rfl)
theorem dk_51 {code : ByteArray} {pc : Nat} (h : DkAt code pc [51]) : decode code pc = .ok (.baload, 1) := dk_of ((dk_bind (dk_u1 (h 0 _ rfl))).trans rfl)
theorem dk_54 {code : ByteArray} {pc : Nat} (a : UInt8) (h : DkAt code pc [54, a]) : decode code pc = .ok (.istore a.toNat, 2) := dk_of ((dk_bind (dk_u1 (h 0 _ rfl))).trans ((dk_bind (dk_u1 (h 1 _ rfl))).trans rfl))
theorem dk_58 {code : ByteArray} {pc : Nat} (a : UInt8) (h : DkAt code pc [58, a]) : decode code pc = .ok (.astore a.toNat, 2) := dk_of ((dk_bind (dk_u1 (h 0 _ rfl))).trans ((dk_bind (dk_u1 (h 1 _ rfl))).trans rfl))
theorem dk_60 {code : ByteArray} {pc : Nat} (h : DkAt code pc [60]) : decode code pc = .ok (.istore_n 1, 1) := dk_of ((dk_bind (dk_u1 (h 0 _ rfl))).trans rfl)
theorem dk_61 {code : ByteArray} {pc : Nat} (h : DkAt code pc [61]) : decode code pc = .ok (.istore_n 2, 1) := dk_of ((dk_bind (dk_u1 (h 0 _ rfl))).trans rfl)
theorem dk_62 {code : ByteArray} {pc : Nat} (h : DkAt code pc [62]) : decode code pc = .ok (.istore_n 3, 1) := dk_of ((dk_bind (dk_u1 (h 0 _ rfl))).trans rfl)
theorem dk_76 {code : ByteArray} {pc : Nat} (h : DkAt code pc [76]) : decode code pc = .ok (.astore_n 1, 1) := dk_of ((dk_bind (dk_u1 (h 0 _ rfl))).trans rfl)
theorem dk_77 {code : ByteArray} {pc : Nat} (h : DkAt code pc [77]) : decode code pc = .ok (.astore_n 2, 1) := dk_of ((dk_bind (dk_u1 (h 0 _ rfl))).trans rfl)
theorem dk_78 {code : ByteArray} {pc : Nat} (h : DkAt code pc [78]) : decode code pc = .ok (.astore_n 3, 1) := dk_of ((dk_bind (dk_u1 (h 0 _ rfl))).trans rfl)
theorem dk_79 {code : ByteArray} {pc : Nat} (h : DkAt code pc [79]) : decode code pc = .ok (.iastore, 1) := dk_of ((dk_bind (dk_u1 (h 0 _ rfl))).trans rfl)
theorem dk_84 {code : ByteArray} {pc : Nat} (h : DkAt code pc [84]) : decode code pc = .ok (.bastore, 1) := dk_of ((dk_bind (dk_u1 (h 0 _ rfl))).trans rfl)
theorem dk_87 {code : ByteArray} {pc : Nat} (h : DkAt code pc [87]) : decode code pc = .ok (.pop, 1) := dk_of ((dk_bind (dk_u1 (h 0 _ rfl))).trans rfl)
theorem dk_89 {code : ByteArray} {pc : Nat} (h : DkAt code pc [89]) : decode code pc = .ok (.dup, 1) := dk_of ((dk_bind (dk_u1 (h 0 _ rfl))).trans rfl)
theorem dk_92 {code : ByteArray} {pc : Nat} (h : DkAt code pc [92]) : decode code pc = .ok (.dup2, 1) := dk_of ((dk_bind (dk_u1 (h 0 _ rfl))).trans rfl)
theorem dk_96 {code : ByteArray} {pc : Nat} (h : DkAt code pc [96]) : decode code pc = .ok (.iadd, 1) := dk_of ((dk_bind (dk_u1 (h 0 _ rfl))).trans rfl)
theorem dk_100 {code : ByteArray} {pc : Nat} (h : DkAt code pc [100]) : decode code pc = .ok (.isub, 1) := dk_of ((dk_bind (dk_u1 (h 0 _ rfl))).trans rfl)
theorem dk_104 {code : ByteArray} {pc : Nat} (h : DkAt code pc [104]) : decode code pc = .ok (.imul, 1) := dk_of ((dk_bind (dk_u1 (h 0 _ rfl))).trans rfl)
theorem dk_116 {code : ByteArray} {pc : Nat} (h : DkAt code pc [116]) : decode code pc = .ok (.ineg, 1) := dk_of ((dk_bind (dk_u1 (h 0 _ rfl))).trans rfl)
theorem dk_120 {code : ByteArray} {pc : Nat} (h : DkAt code pc [120]) : decode code pc = .ok (.ishl, 1) := dk_of ((dk_bind (dk_u1 (h 0 _ rfl))).trans rfl)
theorem dk_122 {code : ByteArray} {pc : Nat} (h : DkAt code pc [122]) : decode code pc = .ok (.ishr, 1) := dk_of ((dk_bind (dk_u1 (h 0 _ rfl))).trans rfl)
theorem dk_124 {code : ByteArray} {pc : Nat} (h : DkAt code pc [124]) : decode code pc = .ok (.iushr, 1) := dk_of ((dk_bind (dk_u1 (h 0 _ rfl))).trans rfl)
theorem dk_126 {code : ByteArray} {pc : Nat} (h : DkAt code pc [126]) : decode code pc = .ok (.iand, 1) := dk_of ((dk_bind (dk_u1 (h 0 _ rfl))).trans rfl)
theorem dk_128 {code : ByteArray} {pc : Nat} (h : DkAt code pc [128]) : decode code pc = .ok (.ior, 1) := dk_of ((dk_bind (dk_u1 (h 0 _ rfl))).trans rfl)
theorem dk_130 {code : ByteArray} {pc : Nat} (h : DkAt code pc [130]) : decode code pc = .ok (.ixor, 1) := dk_of ((dk_bind (dk_u1 (h 0 _ rfl))).trans rfl)
theorem dk_132 {code : ByteArray} {pc : Nat} (a b : UInt8) (h : DkAt code pc [132, a, b]) : decode code pc = .ok (.iinc a.toNat (Reader.signed 8 b.toNat), 3) := dk_of ((dk_bind (dk_u1 (h 0 _ rfl))).trans ((dk_bind (dk_u1 (h 1 _ rfl))).trans ((dk_bind (dk_map (dk_u1 (h 2 _ rfl)))).trans rfl)))
theorem dk_145 {code : ByteArray} {pc : Nat} (h : DkAt code pc [145]) : decode code pc = .ok (.i2b, 1) := dk_of ((dk_bind (dk_u1 (h 0 _ rfl))).trans rfl)
theorem dk_153 {code : ByteArray} {pc : Nat} (a b : UInt8) (h : DkAt code pc [153, a, b]) : decode code pc = .ok (.ifCond .eq (Reader.signed 16 (a.toNat * 256 + b.toNat)), 3) := dk_of ((dk_bind (dk_u1 (h 0 _ rfl))).trans ((dk_bind (dk_map (dk_u2 (h 1 _ rfl) (h 2 _ rfl)))).trans rfl))
theorem dk_154 {code : ByteArray} {pc : Nat} (a b : UInt8) (h : DkAt code pc [154, a, b]) : decode code pc = .ok (.ifCond .ne (Reader.signed 16 (a.toNat * 256 + b.toNat)), 3) := dk_of ((dk_bind (dk_u1 (h 0 _ rfl))).trans ((dk_bind (dk_map (dk_u2 (h 1 _ rfl) (h 2 _ rfl)))).trans rfl))
theorem dk_156 {code : ByteArray} {pc : Nat} (a b : UInt8) (h : DkAt code pc [156, a, b]) : decode code pc = .ok (.ifCond .ge (Reader.signed 16 (a.toNat * 256 + b.toNat)), 3) := dk_of ((dk_bind (dk_u1 (h 0 _ rfl))).trans ((dk_bind (dk_map (dk_u2 (h 1 _ rfl) (h 2 _ rfl)))).trans rfl))
theorem dk_158 {code : ByteArray} {pc : Nat} (a b : UInt8) (h : DkAt code pc [158, a, b]) : decode code pc = .ok (.ifCond .le (Reader.signed 16 (a.toNat * 256 + b.toNat)), 3) := dk_of ((dk_bind (dk_u1 (h 0 _ rfl))).trans ((dk_bind (dk_map (dk_u2 (h 1 _ rfl) (h 2 _ rfl)))).trans rfl))
theorem dk_159 {code : ByteArray} {pc : Nat} (a b : UInt8) (h : DkAt code pc [159, a, b]) : decode code pc = .ok (.if_icmp .eq (Reader.signed 16 (a.toNat * 256 + b.toNat)), 3) := dk_of ((dk_bind (dk_u1 (h 0 _ rfl))).trans ((dk_bind (dk_map (dk_u2 (h 1 _ rfl) (h 2 _ rfl)))).trans rfl))
theorem dk_161 {code : ByteArray} {pc : Nat} (a b : UInt8) (h : DkAt code pc [161, a, b]) : decode code pc = .ok (.if_icmp .lt (Reader.signed 16 (a.toNat * 256 + b.toNat)), 3) := dk_of ((dk_bind (dk_u1 (h 0 _ rfl))).trans ((dk_bind (dk_map (dk_u2 (h 1 _ rfl) (h 2 _ rfl)))).trans rfl))
theorem dk_162 {code : ByteArray} {pc : Nat} (a b : UInt8) (h : DkAt code pc [162, a, b]) : decode code pc = .ok (.if_icmp .ge (Reader.signed 16 (a.toNat * 256 + b.toNat)), 3) := dk_of ((dk_bind (dk_u1 (h 0 _ rfl))).trans ((dk_bind (dk_map (dk_u2 (h 1 _ rfl) (h 2 _ rfl)))).trans rfl))
theorem dk_163 {code : ByteArray} {pc : Nat} (a b : UInt8) (h : DkAt code pc [163, a, b]) : decode code pc = .ok (.if_icmp .gt (Reader.signed 16 (a.toNat * 256 + b.toNat)), 3) := dk_of ((dk_bind (dk_u1 (h 0 _ rfl))).trans ((dk_bind (dk_map (dk_u2 (h 1 _ rfl) (h 2 _ rfl)))).trans rfl))
theorem dk_164 {code : ByteArray} {pc : Nat} (a b : UInt8) (h : DkAt code pc [164, a, b]) : decode code pc = .ok (.if_icmp .le (Reader.signed 16 (a.toNat * 256 + b.toNat)), 3) := dk_of ((dk_bind (dk_u1 (h 0 _ rfl))).trans ((dk_bind (dk_map (dk_u2 (h 1 _ rfl) (h 2 _ rfl)))).trans rfl))
theorem dk_167 {code : ByteArray} {pc : Nat} (a b : UInt8) (h : DkAt code pc [167, a, b]) : decode code pc = .ok (.goto (Reader.signed 16 (a.toNat * 256 + b.toNat)), 3) := dk_of ((dk_bind (dk_u1 (h 0 _ rfl))).trans ((dk_bind (dk_map (dk_u2 (h 1 _ rfl) (h 2 _ rfl)))).trans rfl))
theorem dk_172 {code : ByteArray} {pc : Nat} (h : DkAt code pc [172]) : decode code pc = .ok (.ireturn, 1) := dk_of ((dk_bind (dk_u1 (h 0 _ rfl))).trans rfl)
theorem dk_176 {code : ByteArray} {pc : Nat} (h : DkAt code pc [176]) : decode code pc = .ok (.areturn, 1) := dk_of ((dk_bind (dk_u1 (h 0 _ rfl))).trans rfl)
theorem dk_177 {code : ByteArray} {pc : Nat} (h : DkAt code pc [177]) : decode code pc = .ok (.return_, 1) := dk_of ((dk_bind (dk_u1 (h 0 _ rfl))).trans rfl)
theorem dk_178 {code : ByteArray} {pc : Nat} (a b : UInt8) (h : DkAt code pc [178, a, b]) : decode code pc = .ok (.getstatic (a.toNat * 256 + b.toNat), 3) := dk_of ((dk_bind (dk_u1 (h 0 _ rfl))).trans ((dk_bind (dk_u2 (h 1 _ rfl) (h 2 _ rfl))).trans rfl))
theorem dk_180 {code : ByteArray} {pc : Nat} (a b : UInt8) (h : DkAt code pc [180, a, b]) : decode code pc = .ok (.getfield (a.toNat * 256 + b.toNat), 3) := dk_of ((dk_bind (dk_u1 (h 0 _ rfl))).trans ((dk_bind (dk_u2 (h 1 _ rfl) (h 2 _ rfl))).trans rfl))
theorem dk_181 {code : ByteArray} {pc : Nat} (a b : UInt8) (h : DkAt code pc [181, a, b]) : decode code pc = .ok (.putfield (a.toNat * 256 + b.toNat), 3) := dk_of ((dk_bind (dk_u1 (h 0 _ rfl))).trans ((dk_bind (dk_u2 (h 1 _ rfl) (h 2 _ rfl))).trans rfl))
theorem dk_182 {code : ByteArray} {pc : Nat} (a b : UInt8) (h : DkAt code pc [182, a, b]) : decode code pc = .ok (.invokevirtual (a.toNat * 256 + b.toNat), 3) := dk_of ((dk_bind (dk_u1 (h 0 _ rfl))).trans ((dk_bind (dk_u2 (h 1 _ rfl) (h 2 _ rfl))).trans rfl))
theorem dk_183 {code : ByteArray} {pc : Nat} (a b : UInt8) (h : DkAt code pc [183, a, b]) : decode code pc = .ok (.invokespecial (a.toNat * 256 + b.toNat), 3) := dk_of ((dk_bind (dk_u1 (h 0 _ rfl))).trans ((dk_bind (dk_u2 (h 1 _ rfl) (h 2 _ rfl))).trans rfl))
theorem dk_184 {code : ByteArray} {pc : Nat} (a b : UInt8) (h : DkAt code pc [184, a, b]) : decode code pc = .ok (.invokestatic (a.toNat * 256 + b.toNat), 3) := dk_of ((dk_bind (dk_u1 (h 0 _ rfl))).trans ((dk_bind (dk_u2 (h 1 _ rfl) (h 2 _ rfl))).trans rfl))
theorem dk_187 {code : ByteArray} {pc : Nat} (a b : UInt8) (h : DkAt code pc [187, a, b]) : decode code pc = .ok (.new (a.toNat * 256 + b.toNat), 3) := dk_of ((dk_bind (dk_u1 (h 0 _ rfl))).trans ((dk_bind (dk_u2 (h 1 _ rfl) (h 2 _ rfl))).trans rfl))
theorem dk_188_8 {code : ByteArray} {pc : Nat} (h : DkAt code pc [188, 8]) : decode code pc = .ok (.newarray .byte, 2) := dk_of ((dk_bind (dk_u1 (h 0 _ rfl))).trans ((dk_bind (dk_u1 (h 1 _ rfl))).trans rfl))
theorem dk_188_10 {code : ByteArray} {pc : Nat} (h : DkAt code pc [188, 10]) : decode code pc = .ok (.newarray .int, 2) := dk_of ((dk_bind (dk_u1 (h 0 _ rfl))).trans ((dk_bind (dk_u1 (h 1 _ rfl))).trans rfl))
theorem dk_190 {code : ByteArray} {pc : Nat} (h : DkAt code pc [190]) : decode code pc = .ok (.arraylength, 1) := dk_of ((dk_bind (dk_u1 (h 0 _ rfl))).trans rfl)
theorem dk_191 {code : ByteArray} {pc : Nat} (h : DkAt code pc [191]) : decode code pc = .ok (.athrow, 1) := dk_of ((dk_bind (dk_u1 (h 0 _ rfl))).trans rfl)
theorem dk_192 {code : ByteArray} {pc : Nat} (a b : UInt8) (h : DkAt code pc [192, a, b]) : decode code pc = .ok (.checkcast (a.toNat * 256 + b.toNat), 3) := dk_of ((dk_bind (dk_u1 (h 0 _ rfl))).trans ((dk_bind (dk_u2 (h 1 _ rfl) (h 2 _ rfl))).trans rfl))
theorem dk_193 {code : ByteArray} {pc : Nat} (a b : UInt8) (h : DkAt code pc [193, a, b]) : decode code pc = .ok (.instanceof (a.toNat * 256 + b.toNat), 3) := dk_of ((dk_bind (dk_u1 (h 0 _ rfl))).trans ((dk_bind (dk_u2 (h 1 _ rfl) (h 2 _ rfl))).trans rfl))
theorem q41 : (Jvm.Cond.arrayClass Jvm.ClassFile.FieldType.byte) ∈ lw_all := lw_g (lw_at lw_m1 35 rfl) rfl
set_option maxRecDepth 100000
theorem q80 : (Jvm.Cond.arrayClass Jvm.ClassFile.FieldType.int) ∈ lw_all := lw_g (lw_at lw_m1 74 rfl) rfl

theorem q11 : (Jvm.Cond.initialized "java/lang/System") ∈ lw_all := lw_g (lw_at lw_m1 5 rfl) rfl
set_option maxRecDepth 100000
theorem q98 : (Jvm.Cond.static ({ cls := "java/lang/System", name := "arraycopy", desc := "(Ljava/lang/Object;ILjava/lang/Object;II)V" } : Jvm.MethodName)) ∈ lw_all := lw_g (lw_at lw_m1 92 rfl) rfl
theorem q99 : (Jvm.Cond.native ({ cls := "java/lang/System", name := "arraycopy", desc := "(Ljava/lang/Object;ILjava/lang/Object;II)V" } : Jvm.MethodName)) ∈ lw_all := lw_g (lw_at lw_m1 93 rfl) rfl

theorem q102 : (Jvm.Cond.interfaceMethod "BlockCipher" "BlockCipher" "init" "(ZLCipherParameters;)V") ∈ lw_tbl := lw_at lw_m1 96 rfl
set_option maxRecDepth 100000
theorem q103 : (Jvm.Cond.declares ({ cls := "BlockCipher", name := "init", desc := "(ZLCipherParameters;)V" } : Jvm.MethodName)) ∈ lw_tbl := lw_at lw_m1 97 rfl
theorem q198 : (Jvm.Cond.interfaceMethod "BlockCipher" "BlockCipher" "processBlock" "([BI[BI)I") ∈ lw_tbl := lw_at lw_m1 192 rfl
theorem q199 : (Jvm.Cond.declares ({ cls := "BlockCipher", name := "processBlock", desc := "([BI[BI)I" } : Jvm.MethodName)) ∈ lw_tbl := lw_at lw_m1 193 rfl

theorem q6 : (Jvm.Cond.initialized "NoekeonDeskLaw") ∈ lw_all := lw_g (lw_at lw_m1 0 rfl) rfl
set_option maxRecDepth 100000
theorem q23 : (Jvm.Cond.classLink "NoekeonDeskLaw" (7 : Nat) "NoekeonDesk") ∈ lw_all := lw_g (lw_at lw_m1 17 rfl) rfl
theorem q25 : (Jvm.Cond.methodLink "NoekeonDeskLaw" (9 : Nat) ({ cls := "NoekeonDesk", name := "<init>", desc := "()V" } : Jvm.MethodName)) ∈ lw_all := lw_g (lw_at lw_m1 19 rfl) rfl
theorem q42 : (Jvm.Cond.methodLink "NoekeonDeskLaw" (13 : Nat) ({ cls := "NoekeonDesk", name := "key", desc := "(IIIII)V" } : Jvm.MethodName)) ∈ lw_all := lw_g (lw_at lw_m1 36 rfl) rfl
theorem q49 : (Jvm.Cond.methodLink "NoekeonDeskLaw" (18 : Nat) ({ cls := "NoekeonDesk", name := "block", desc := "(IIII)V" } : Jvm.MethodName)) ∈ lw_all := lw_g (lw_at lw_m1 43 rfl) rfl
theorem q53 : (Jvm.Cond.methodLink "NoekeonDeskLaw" (23 : Nat) ({ cls := "NoekeonDesk", name := "lock", desc := "(I)V" } : Jvm.MethodName)) ∈ lw_all := lw_g (lw_at lw_m1 47 rfl) rfl
theorem q271 : (Jvm.Cond.methodLink "NoekeonDeskLaw" (28 : Nat) ({ cls := "NoekeonDesk", name := "open", desc := "(I)V" } : Jvm.MethodName)) ∈ lw_all := lw_g (lw_at lw_m2 25 rfl) rfl
theorem q275 : (Jvm.Cond.methodLink "NoekeonDeskLaw" (32 : Nat) ({ cls := "NoekeonDesk", name := "again", desc := "()V" } : Jvm.MethodName)) ∈ lw_all := lw_g (lw_at lw_m2 29 rfl) rfl
theorem q279 : (Jvm.Cond.methodLink "NoekeonDeskLaw" (36 : Nat) ({ cls := "NoekeonDesk", name := "out", desc := "(I)I" } : Jvm.MethodName)) ∈ lw_all := lw_g (lw_at lw_m2 33 rfl) rfl
theorem q283 : (Jvm.Cond.classLink "NoekeonDeskLaw" (10 : Nat) "NoekeonDeskModel") ∈ lw_all := lw_g (lw_at lw_m2 37 rfl) rfl
theorem q285 : (Jvm.Cond.methodLink "NoekeonDeskLaw" (12 : Nat) ({ cls := "NoekeonDeskModel", name := "<init>", desc := "()V" } : Jvm.MethodName)) ∈ lw_all := lw_g (lw_at lw_m2 39 rfl) rfl
theorem q299 : (Jvm.Cond.methodLink "NoekeonDeskLaw" (17 : Nat) ({ cls := "NoekeonDeskModel", name := "key", desc := "(IIIII)V" } : Jvm.MethodName)) ∈ lw_all := lw_g (lw_at lw_m2 53 rfl) rfl
theorem q306 : (Jvm.Cond.methodLink "NoekeonDeskLaw" (22 : Nat) ({ cls := "NoekeonDeskModel", name := "block", desc := "(IIII)V" } : Jvm.MethodName)) ∈ lw_all := lw_g (lw_at lw_m2 60 rfl) rfl
theorem q310 : (Jvm.Cond.methodLink "NoekeonDeskLaw" (27 : Nat) ({ cls := "NoekeonDeskModel", name := "lock", desc := "(I)V" } : Jvm.MethodName)) ∈ lw_all := lw_g (lw_at lw_m2 64 rfl) rfl
theorem q346 : (Jvm.Cond.methodLink "NoekeonDeskLaw" (31 : Nat) ({ cls := "NoekeonDeskModel", name := "open", desc := "(I)V" } : Jvm.MethodName)) ∈ lw_all := lw_g (lw_at lw_m2 100 rfl) rfl
theorem q350 : (Jvm.Cond.methodLink "NoekeonDeskLaw" (35 : Nat) ({ cls := "NoekeonDeskModel", name := "again", desc := "()V" } : Jvm.MethodName)) ∈ lw_all := lw_g (lw_at lw_m2 104 rfl) rfl
theorem q354 : (Jvm.Cond.methodLink "NoekeonDeskLaw" (40 : Nat) ({ cls := "NoekeonDeskModel", name := "out", desc := "(I)I" } : Jvm.MethodName)) ∈ lw_all := lw_g (lw_at lw_m2 108 rfl) rfl

/-! java/lang/Object -/
set_option maxRecDepth 100000
def RJ6 : String := "java/lang/Object"
abbrev cJ6_init : ByteArray := object_method_1_code
def yJ6_init : MethodName := ⟨RJ6, "<init>", "()V"⟩
theorem dJ6_init_0 : decode cJ6_init 0 = .ok (.return_, 1) := by decide +kernel
theorem q29 : (Jvm.Cond.instanceMethod ({ cls := "java/lang/Object", name := "<init>", desc := "()V" } : Jvm.MethodName)) ∈ lw_all := lw_g (lw_at lw_m1 23 rfl) rfl
theorem q30 : (Jvm.Cond.code ({ cls := "java/lang/Object", name := "<init>", desc := "()V" } : Jvm.MethodName) object_method_1_code (1 : Nat) (Option.none : Option Jvm.ClassFile.FieldType)) ∈ lw_all := lw_g (lw_at lw_m1 24 rfl) rfl

/-! java/lang/Integer -/
set_option maxRecDepth 100000
def RJ4 : String := "java/lang/Integer"
abbrev cJ4_rotateLeft : ByteArray := prog_16_method_50_code
def yJ4_rotateLeft : MethodName := ⟨RJ4, "rotateLeft", "(II)I"⟩
def dkwJ4_rotateLeft_0 : List UInt8 := [26, 27, 120, 26, 27, 116, 124, 128, 172]
abbrev dktJ4_rotateLeft_0 : List UInt8 := dkwJ4_rotateLeft_0 ++ []
theorem dksJ4_rotateLeft_0 : cJ4_rotateLeft.data.toList.drop 0 = dktJ4_rotateLeft_0 := by decide +kernel
theorem dJ4_rotateLeft_0 : decode cJ4_rotateLeft 0 = .ok (.iload_n 0, 1) := dk_26 (dk_at dksJ4_rotateLeft_0 0 rfl rfl)
theorem dJ4_rotateLeft_1 : decode cJ4_rotateLeft 1 = .ok (.iload_n 1, 1) := dk_27 (dk_at dksJ4_rotateLeft_0 1 rfl rfl)
theorem dJ4_rotateLeft_2 : decode cJ4_rotateLeft 2 = .ok (.ishl, 1) := dk_120 (dk_at dksJ4_rotateLeft_0 2 rfl rfl)
theorem dJ4_rotateLeft_3 : decode cJ4_rotateLeft 3 = .ok (.iload_n 0, 1) := dk_26 (dk_at dksJ4_rotateLeft_0 3 rfl rfl)
theorem dJ4_rotateLeft_4 : decode cJ4_rotateLeft 4 = .ok (.iload_n 1, 1) := dk_27 (dk_at dksJ4_rotateLeft_0 4 rfl rfl)
theorem dJ4_rotateLeft_5 : decode cJ4_rotateLeft 5 = .ok (.ineg, 1) := dk_116 (dk_at dksJ4_rotateLeft_0 5 rfl rfl)
theorem dJ4_rotateLeft_6 : decode cJ4_rotateLeft 6 = .ok (.iushr, 1) := dk_124 (dk_at dksJ4_rotateLeft_0 6 rfl rfl)
theorem dJ4_rotateLeft_7 : decode cJ4_rotateLeft 7 = .ok (.ior, 1) := dk_128 (dk_at dksJ4_rotateLeft_0 7 rfl rfl)
theorem dJ4_rotateLeft_8 : decode cJ4_rotateLeft 8 = .ok (.ireturn, 1) := dk_172 (dk_at dksJ4_rotateLeft_0 8 rfl rfl)
theorem q18 : (Jvm.Cond.initialized "java/lang/Integer") ∈ lw_all := lw_g (lw_at lw_m1 12 rfl) rfl
theorem q194 : (Jvm.Cond.static ({ cls := "java/lang/Integer", name := "rotateLeft", desc := "(II)I" } : Jvm.MethodName)) ∈ lw_all := lw_g (lw_at lw_m1 188 rfl) rfl
theorem q195 : (Jvm.Cond.code ({ cls := "java/lang/Integer", name := "rotateLeft", desc := "(II)I" } : Jvm.MethodName) prog_16_method_50_code (2 : Nat) (Option.some Jvm.ClassFile.FieldType.int)) ∈ lw_all := lw_g (lw_at lw_m1 189 rfl) rfl

/-! Integers -/
set_option maxRecDepth 100000
def RX5 : String := "Integers"
abbrev cX5_rotateLeft : ByteArray := prog_4_method_2_code
def yX5_rotateLeft : MethodName := ⟨RX5, "rotateLeft", "(II)I"⟩
def dkwX5_rotateLeft_0 : List UInt8 := [26, 27, 184, 0, 7, 172]
abbrev dktX5_rotateLeft_0 : List UInt8 := dkwX5_rotateLeft_0 ++ []
theorem dksX5_rotateLeft_0 : cX5_rotateLeft.data.toList.drop 0 = dktX5_rotateLeft_0 := by decide +kernel
theorem dX5_rotateLeft_0 : decode cX5_rotateLeft 0 = .ok (.iload_n 0, 1) := dk_26 (dk_at dksX5_rotateLeft_0 0 rfl rfl)
theorem dX5_rotateLeft_1 : decode cX5_rotateLeft 1 = .ok (.iload_n 1, 1) := dk_27 (dk_at dksX5_rotateLeft_0 1 rfl rfl)
theorem dX5_rotateLeft_2 : decode cX5_rotateLeft 2 = .ok (.invokestatic 7, 3) := dk_184 0 7 (dk_at dksX5_rotateLeft_0 2 rfl rfl)
theorem dX5_rotateLeft_5 : decode cX5_rotateLeft 5 = .ok (.ireturn, 1) := dk_172 (dk_at dksX5_rotateLeft_0 5 rfl rfl)
theorem q17 : (Jvm.Cond.initialized "Integers") ∈ lw_all := lw_g (lw_at lw_m1 11 rfl) rfl
theorem q191 : (Jvm.Cond.static ({ cls := "Integers", name := "rotateLeft", desc := "(II)I" } : Jvm.MethodName)) ∈ lw_all := lw_g (lw_at lw_m1 185 rfl) rfl
theorem q192 : (Jvm.Cond.code ({ cls := "Integers", name := "rotateLeft", desc := "(II)I" } : Jvm.MethodName) prog_4_method_2_code (2 : Nat) (Option.some Jvm.ClassFile.FieldType.int)) ∈ lw_all := lw_g (lw_at lw_m1 186 rfl) rfl
theorem q193 : (Jvm.Cond.methodLink "Integers" (7 : Nat) ({ cls := "java/lang/Integer", name := "rotateLeft", desc := "(II)I" } : Jvm.MethodName)) ∈ lw_all := lw_g (lw_at lw_m1 187 rfl) rfl

/-! Pack -/
set_option maxRecDepth 100000
def RX4 : String := "Pack"
abbrev cX4_bigEndianToInt : ByteArray := prog_11_method_3_code
def yX4_bigEndianToInt : MethodName := ⟨RX4, "bigEndianToInt", "([BI[III)V"⟩
def dkwX4_bigEndianToInt_1 : List UInt8 := [132, 5, 1, 167, 255, 232, 177]
abbrev dktX4_bigEndianToInt_1 : List UInt8 := dkwX4_bigEndianToInt_1 ++ []
def dkwX4_bigEndianToInt_0 : List UInt8 := [3, 54, 5, 21, 5, 21, 4, 162, 0, 23, 44, 29, 21, 5, 96, 42, 27, 184, 0, 7, 79, 132, 1, 4]
abbrev dktX4_bigEndianToInt_0 : List UInt8 := dkwX4_bigEndianToInt_0 ++ dktX4_bigEndianToInt_1
theorem dksX4_bigEndianToInt_0 : cX4_bigEndianToInt.data.toList.drop 0 = dktX4_bigEndianToInt_0 := by decide +kernel
theorem dksX4_bigEndianToInt_1 : cX4_bigEndianToInt.data.toList.drop 24 = dktX4_bigEndianToInt_1 := dk_seg dksX4_bigEndianToInt_0 24 rfl rfl
theorem dX4_bigEndianToInt_0 : decode cX4_bigEndianToInt 0 = .ok (.iconst 0, 1) := dk_3 (dk_at dksX4_bigEndianToInt_0 0 rfl rfl)
theorem dX4_bigEndianToInt_1 : decode cX4_bigEndianToInt 1 = .ok (.istore 5, 2) := dk_54 5 (dk_at dksX4_bigEndianToInt_0 1 rfl rfl)
theorem dX4_bigEndianToInt_3 : decode cX4_bigEndianToInt 3 = .ok (.iload 5, 2) := dk_21 5 (dk_at dksX4_bigEndianToInt_0 3 rfl rfl)
theorem dX4_bigEndianToInt_5 : decode cX4_bigEndianToInt 5 = .ok (.iload 4, 2) := dk_21 4 (dk_at dksX4_bigEndianToInt_0 5 rfl rfl)
theorem dX4_bigEndianToInt_7 : decode cX4_bigEndianToInt 7 = .ok (.if_icmp .ge 23, 3) := dk_162 0 23 (dk_at dksX4_bigEndianToInt_0 7 rfl rfl)
theorem dX4_bigEndianToInt_10 : decode cX4_bigEndianToInt 10 = .ok (.aload_n 2, 1) := dk_44 (dk_at dksX4_bigEndianToInt_0 10 rfl rfl)
theorem dX4_bigEndianToInt_11 : decode cX4_bigEndianToInt 11 = .ok (.iload_n 3, 1) := dk_29 (dk_at dksX4_bigEndianToInt_0 11 rfl rfl)
theorem dX4_bigEndianToInt_12 : decode cX4_bigEndianToInt 12 = .ok (.iload 5, 2) := dk_21 5 (dk_at dksX4_bigEndianToInt_0 12 rfl rfl)
theorem dX4_bigEndianToInt_14 : decode cX4_bigEndianToInt 14 = .ok (.iadd, 1) := dk_96 (dk_at dksX4_bigEndianToInt_0 14 rfl rfl)
theorem dX4_bigEndianToInt_15 : decode cX4_bigEndianToInt 15 = .ok (.aload_n 0, 1) := dk_42 (dk_at dksX4_bigEndianToInt_0 15 rfl rfl)
theorem dX4_bigEndianToInt_16 : decode cX4_bigEndianToInt 16 = .ok (.iload_n 1, 1) := dk_27 (dk_at dksX4_bigEndianToInt_0 16 rfl rfl)
theorem dX4_bigEndianToInt_17 : decode cX4_bigEndianToInt 17 = .ok (.invokestatic 7, 3) := dk_184 0 7 (dk_at dksX4_bigEndianToInt_0 17 rfl rfl)
theorem dX4_bigEndianToInt_20 : decode cX4_bigEndianToInt 20 = .ok (.iastore, 1) := dk_79 (dk_at dksX4_bigEndianToInt_0 20 rfl rfl)
theorem dX4_bigEndianToInt_21 : decode cX4_bigEndianToInt 21 = .ok (.iinc 1 4, 3) := dk_132 1 4 (dk_at dksX4_bigEndianToInt_0 21 rfl rfl)
theorem dX4_bigEndianToInt_24 : decode cX4_bigEndianToInt 24 = .ok (.iinc 5 1, 3) := dk_132 5 1 (dk_at dksX4_bigEndianToInt_1 0 rfl rfl)
theorem dX4_bigEndianToInt_27 : decode cX4_bigEndianToInt 27 = .ok (.goto (-24), 3) := dk_167 255 232 (dk_at dksX4_bigEndianToInt_1 3 rfl rfl)
theorem dX4_bigEndianToInt_30 : decode cX4_bigEndianToInt 30 = .ok (.return_, 1) := dk_177 (dk_at dksX4_bigEndianToInt_1 6 rfl rfl)
abbrev cX4_bigEndianToInt_2 : ByteArray := prog_11_method_2_code
def yX4_bigEndianToInt_2 : MethodName := ⟨RX4, "bigEndianToInt", "([BI)I"⟩
def dkwX4_bigEndianToInt_2_2 : List UInt8 := [17, 0, 255, 126, 128, 61, 28, 172]
abbrev dktX4_bigEndianToInt_2_2 : List UInt8 := dkwX4_bigEndianToInt_2_2 ++ []
def dkwX4_bigEndianToInt_2_1 : List UInt8 := [42, 132, 1, 1, 27, 51, 17, 0, 255, 126, 16, 8, 120, 128, 61, 28, 42, 132, 1, 1, 27, 51]
abbrev dktX4_bigEndianToInt_2_1 : List UInt8 := dkwX4_bigEndianToInt_2_1 ++ dktX4_bigEndianToInt_2_2
def dkwX4_bigEndianToInt_2_0 : List UInt8 := [42, 27, 51, 16, 24, 120, 61, 28, 42, 132, 1, 1, 27, 51, 17, 0, 255, 126, 16, 16, 120, 128, 61, 28]
abbrev dktX4_bigEndianToInt_2_0 : List UInt8 := dkwX4_bigEndianToInt_2_0 ++ dktX4_bigEndianToInt_2_1
theorem dksX4_bigEndianToInt_2_0 : cX4_bigEndianToInt_2.data.toList.drop 0 = dktX4_bigEndianToInt_2_0 := by decide +kernel
theorem dksX4_bigEndianToInt_2_1 : cX4_bigEndianToInt_2.data.toList.drop 24 = dktX4_bigEndianToInt_2_1 := dk_seg dksX4_bigEndianToInt_2_0 24 rfl rfl
theorem dksX4_bigEndianToInt_2_2 : cX4_bigEndianToInt_2.data.toList.drop 46 = dktX4_bigEndianToInt_2_2 := dk_seg dksX4_bigEndianToInt_2_1 22 rfl rfl
theorem dX4_bigEndianToInt_2_0 : decode cX4_bigEndianToInt_2 0 = .ok (.aload_n 0, 1) := dk_42 (dk_at dksX4_bigEndianToInt_2_0 0 rfl rfl)
theorem dX4_bigEndianToInt_2_1 : decode cX4_bigEndianToInt_2 1 = .ok (.iload_n 1, 1) := dk_27 (dk_at dksX4_bigEndianToInt_2_0 1 rfl rfl)
theorem dX4_bigEndianToInt_2_2 : decode cX4_bigEndianToInt_2 2 = .ok (.baload, 1) := dk_51 (dk_at dksX4_bigEndianToInt_2_0 2 rfl rfl)
theorem dX4_bigEndianToInt_2_3 : decode cX4_bigEndianToInt_2 3 = .ok (.bipush 24, 2) := dk_16 24 (dk_at dksX4_bigEndianToInt_2_0 3 rfl rfl)
theorem dX4_bigEndianToInt_2_5 : decode cX4_bigEndianToInt_2 5 = .ok (.ishl, 1) := dk_120 (dk_at dksX4_bigEndianToInt_2_0 5 rfl rfl)
theorem dX4_bigEndianToInt_2_6 : decode cX4_bigEndianToInt_2 6 = .ok (.istore_n 2, 1) := dk_61 (dk_at dksX4_bigEndianToInt_2_0 6 rfl rfl)
theorem dX4_bigEndianToInt_2_7 : decode cX4_bigEndianToInt_2 7 = .ok (.iload_n 2, 1) := dk_28 (dk_at dksX4_bigEndianToInt_2_0 7 rfl rfl)
theorem dX4_bigEndianToInt_2_8 : decode cX4_bigEndianToInt_2 8 = .ok (.aload_n 0, 1) := dk_42 (dk_at dksX4_bigEndianToInt_2_0 8 rfl rfl)
theorem dX4_bigEndianToInt_2_9 : decode cX4_bigEndianToInt_2 9 = .ok (.iinc 1 1, 3) := dk_132 1 1 (dk_at dksX4_bigEndianToInt_2_0 9 rfl rfl)
theorem dX4_bigEndianToInt_2_12 : decode cX4_bigEndianToInt_2 12 = .ok (.iload_n 1, 1) := dk_27 (dk_at dksX4_bigEndianToInt_2_0 12 rfl rfl)
theorem dX4_bigEndianToInt_2_13 : decode cX4_bigEndianToInt_2 13 = .ok (.baload, 1) := dk_51 (dk_at dksX4_bigEndianToInt_2_0 13 rfl rfl)
theorem dX4_bigEndianToInt_2_14 : decode cX4_bigEndianToInt_2 14 = .ok (.sipush 255, 3) := dk_17 0 255 (dk_at dksX4_bigEndianToInt_2_0 14 rfl rfl)
theorem dX4_bigEndianToInt_2_17 : decode cX4_bigEndianToInt_2 17 = .ok (.iand, 1) := dk_126 (dk_at dksX4_bigEndianToInt_2_0 17 rfl rfl)
theorem dX4_bigEndianToInt_2_18 : decode cX4_bigEndianToInt_2 18 = .ok (.bipush 16, 2) := dk_16 16 (dk_at dksX4_bigEndianToInt_2_0 18 rfl rfl)
theorem dX4_bigEndianToInt_2_20 : decode cX4_bigEndianToInt_2 20 = .ok (.ishl, 1) := dk_120 (dk_at dksX4_bigEndianToInt_2_0 20 rfl rfl)
theorem dX4_bigEndianToInt_2_21 : decode cX4_bigEndianToInt_2 21 = .ok (.ior, 1) := dk_128 (dk_at dksX4_bigEndianToInt_2_0 21 rfl rfl)
theorem dX4_bigEndianToInt_2_22 : decode cX4_bigEndianToInt_2 22 = .ok (.istore_n 2, 1) := dk_61 (dk_at dksX4_bigEndianToInt_2_0 22 rfl rfl)
theorem dX4_bigEndianToInt_2_23 : decode cX4_bigEndianToInt_2 23 = .ok (.iload_n 2, 1) := dk_28 (dk_at dksX4_bigEndianToInt_2_0 23 rfl rfl)
theorem dX4_bigEndianToInt_2_24 : decode cX4_bigEndianToInt_2 24 = .ok (.aload_n 0, 1) := dk_42 (dk_at dksX4_bigEndianToInt_2_1 0 rfl rfl)
theorem dX4_bigEndianToInt_2_25 : decode cX4_bigEndianToInt_2 25 = .ok (.iinc 1 1, 3) := dk_132 1 1 (dk_at dksX4_bigEndianToInt_2_1 1 rfl rfl)
theorem dX4_bigEndianToInt_2_28 : decode cX4_bigEndianToInt_2 28 = .ok (.iload_n 1, 1) := dk_27 (dk_at dksX4_bigEndianToInt_2_1 4 rfl rfl)
theorem dX4_bigEndianToInt_2_29 : decode cX4_bigEndianToInt_2 29 = .ok (.baload, 1) := dk_51 (dk_at dksX4_bigEndianToInt_2_1 5 rfl rfl)
theorem dX4_bigEndianToInt_2_30 : decode cX4_bigEndianToInt_2 30 = .ok (.sipush 255, 3) := dk_17 0 255 (dk_at dksX4_bigEndianToInt_2_1 6 rfl rfl)
theorem dX4_bigEndianToInt_2_33 : decode cX4_bigEndianToInt_2 33 = .ok (.iand, 1) := dk_126 (dk_at dksX4_bigEndianToInt_2_1 9 rfl rfl)
theorem dX4_bigEndianToInt_2_34 : decode cX4_bigEndianToInt_2 34 = .ok (.bipush 8, 2) := dk_16 8 (dk_at dksX4_bigEndianToInt_2_1 10 rfl rfl)
theorem dX4_bigEndianToInt_2_36 : decode cX4_bigEndianToInt_2 36 = .ok (.ishl, 1) := dk_120 (dk_at dksX4_bigEndianToInt_2_1 12 rfl rfl)
theorem dX4_bigEndianToInt_2_37 : decode cX4_bigEndianToInt_2 37 = .ok (.ior, 1) := dk_128 (dk_at dksX4_bigEndianToInt_2_1 13 rfl rfl)
theorem dX4_bigEndianToInt_2_38 : decode cX4_bigEndianToInt_2 38 = .ok (.istore_n 2, 1) := dk_61 (dk_at dksX4_bigEndianToInt_2_1 14 rfl rfl)
theorem dX4_bigEndianToInt_2_39 : decode cX4_bigEndianToInt_2 39 = .ok (.iload_n 2, 1) := dk_28 (dk_at dksX4_bigEndianToInt_2_1 15 rfl rfl)
theorem dX4_bigEndianToInt_2_40 : decode cX4_bigEndianToInt_2 40 = .ok (.aload_n 0, 1) := dk_42 (dk_at dksX4_bigEndianToInt_2_1 16 rfl rfl)
theorem dX4_bigEndianToInt_2_41 : decode cX4_bigEndianToInt_2 41 = .ok (.iinc 1 1, 3) := dk_132 1 1 (dk_at dksX4_bigEndianToInt_2_1 17 rfl rfl)
theorem dX4_bigEndianToInt_2_44 : decode cX4_bigEndianToInt_2 44 = .ok (.iload_n 1, 1) := dk_27 (dk_at dksX4_bigEndianToInt_2_1 20 rfl rfl)
theorem dX4_bigEndianToInt_2_45 : decode cX4_bigEndianToInt_2 45 = .ok (.baload, 1) := dk_51 (dk_at dksX4_bigEndianToInt_2_1 21 rfl rfl)
theorem dX4_bigEndianToInt_2_46 : decode cX4_bigEndianToInt_2 46 = .ok (.sipush 255, 3) := dk_17 0 255 (dk_at dksX4_bigEndianToInt_2_2 0 rfl rfl)
theorem dX4_bigEndianToInt_2_49 : decode cX4_bigEndianToInt_2 49 = .ok (.iand, 1) := dk_126 (dk_at dksX4_bigEndianToInt_2_2 3 rfl rfl)
theorem dX4_bigEndianToInt_2_50 : decode cX4_bigEndianToInt_2 50 = .ok (.ior, 1) := dk_128 (dk_at dksX4_bigEndianToInt_2_2 4 rfl rfl)
theorem dX4_bigEndianToInt_2_51 : decode cX4_bigEndianToInt_2 51 = .ok (.istore_n 2, 1) := dk_61 (dk_at dksX4_bigEndianToInt_2_2 5 rfl rfl)
theorem dX4_bigEndianToInt_2_52 : decode cX4_bigEndianToInt_2 52 = .ok (.iload_n 2, 1) := dk_28 (dk_at dksX4_bigEndianToInt_2_2 6 rfl rfl)
theorem dX4_bigEndianToInt_2_53 : decode cX4_bigEndianToInt_2 53 = .ok (.ireturn, 1) := dk_172 (dk_at dksX4_bigEndianToInt_2_2 7 rfl rfl)
abbrev cX4_intToBigEndian : ByteArray := prog_11_method_4_code
def yX4_intToBigEndian : MethodName := ⟨RX4, "intToBigEndian", "(I[BI)V"⟩
def dkwX4_intToBigEndian_1 : List UInt8 := [26, 16, 8, 124, 145, 84, 43, 132, 2, 1, 28, 26, 145, 84, 177]
abbrev dktX4_intToBigEndian_1 : List UInt8 := dkwX4_intToBigEndian_1 ++ []
def dkwX4_intToBigEndian_0 : List UInt8 := [43, 28, 26, 16, 24, 124, 145, 84, 43, 132, 2, 1, 28, 26, 16, 16, 124, 145, 84, 43, 132, 2, 1, 28]
abbrev dktX4_intToBigEndian_0 : List UInt8 := dkwX4_intToBigEndian_0 ++ dktX4_intToBigEndian_1
theorem dksX4_intToBigEndian_0 : cX4_intToBigEndian.data.toList.drop 0 = dktX4_intToBigEndian_0 := by decide +kernel
theorem dksX4_intToBigEndian_1 : cX4_intToBigEndian.data.toList.drop 24 = dktX4_intToBigEndian_1 := dk_seg dksX4_intToBigEndian_0 24 rfl rfl
theorem dX4_intToBigEndian_0 : decode cX4_intToBigEndian 0 = .ok (.aload_n 1, 1) := dk_43 (dk_at dksX4_intToBigEndian_0 0 rfl rfl)
theorem dX4_intToBigEndian_1 : decode cX4_intToBigEndian 1 = .ok (.iload_n 2, 1) := dk_28 (dk_at dksX4_intToBigEndian_0 1 rfl rfl)
theorem dX4_intToBigEndian_2 : decode cX4_intToBigEndian 2 = .ok (.iload_n 0, 1) := dk_26 (dk_at dksX4_intToBigEndian_0 2 rfl rfl)
theorem dX4_intToBigEndian_3 : decode cX4_intToBigEndian 3 = .ok (.bipush 24, 2) := dk_16 24 (dk_at dksX4_intToBigEndian_0 3 rfl rfl)
theorem dX4_intToBigEndian_5 : decode cX4_intToBigEndian 5 = .ok (.iushr, 1) := dk_124 (dk_at dksX4_intToBigEndian_0 5 rfl rfl)
theorem dX4_intToBigEndian_6 : decode cX4_intToBigEndian 6 = .ok (.i2b, 1) := dk_145 (dk_at dksX4_intToBigEndian_0 6 rfl rfl)
theorem dX4_intToBigEndian_7 : decode cX4_intToBigEndian 7 = .ok (.bastore, 1) := dk_84 (dk_at dksX4_intToBigEndian_0 7 rfl rfl)
theorem dX4_intToBigEndian_8 : decode cX4_intToBigEndian 8 = .ok (.aload_n 1, 1) := dk_43 (dk_at dksX4_intToBigEndian_0 8 rfl rfl)
theorem dX4_intToBigEndian_9 : decode cX4_intToBigEndian 9 = .ok (.iinc 2 1, 3) := dk_132 2 1 (dk_at dksX4_intToBigEndian_0 9 rfl rfl)
theorem dX4_intToBigEndian_12 : decode cX4_intToBigEndian 12 = .ok (.iload_n 2, 1) := dk_28 (dk_at dksX4_intToBigEndian_0 12 rfl rfl)
theorem dX4_intToBigEndian_13 : decode cX4_intToBigEndian 13 = .ok (.iload_n 0, 1) := dk_26 (dk_at dksX4_intToBigEndian_0 13 rfl rfl)
theorem dX4_intToBigEndian_14 : decode cX4_intToBigEndian 14 = .ok (.bipush 16, 2) := dk_16 16 (dk_at dksX4_intToBigEndian_0 14 rfl rfl)
theorem dX4_intToBigEndian_16 : decode cX4_intToBigEndian 16 = .ok (.iushr, 1) := dk_124 (dk_at dksX4_intToBigEndian_0 16 rfl rfl)
theorem dX4_intToBigEndian_17 : decode cX4_intToBigEndian 17 = .ok (.i2b, 1) := dk_145 (dk_at dksX4_intToBigEndian_0 17 rfl rfl)
theorem dX4_intToBigEndian_18 : decode cX4_intToBigEndian 18 = .ok (.bastore, 1) := dk_84 (dk_at dksX4_intToBigEndian_0 18 rfl rfl)
theorem dX4_intToBigEndian_19 : decode cX4_intToBigEndian 19 = .ok (.aload_n 1, 1) := dk_43 (dk_at dksX4_intToBigEndian_0 19 rfl rfl)
theorem dX4_intToBigEndian_20 : decode cX4_intToBigEndian 20 = .ok (.iinc 2 1, 3) := dk_132 2 1 (dk_at dksX4_intToBigEndian_0 20 rfl rfl)
theorem dX4_intToBigEndian_23 : decode cX4_intToBigEndian 23 = .ok (.iload_n 2, 1) := dk_28 (dk_at dksX4_intToBigEndian_0 23 rfl rfl)
theorem dX4_intToBigEndian_24 : decode cX4_intToBigEndian 24 = .ok (.iload_n 0, 1) := dk_26 (dk_at dksX4_intToBigEndian_1 0 rfl rfl)
theorem dX4_intToBigEndian_25 : decode cX4_intToBigEndian 25 = .ok (.bipush 8, 2) := dk_16 8 (dk_at dksX4_intToBigEndian_1 1 rfl rfl)
theorem dX4_intToBigEndian_27 : decode cX4_intToBigEndian 27 = .ok (.iushr, 1) := dk_124 (dk_at dksX4_intToBigEndian_1 3 rfl rfl)
theorem dX4_intToBigEndian_28 : decode cX4_intToBigEndian 28 = .ok (.i2b, 1) := dk_145 (dk_at dksX4_intToBigEndian_1 4 rfl rfl)
theorem dX4_intToBigEndian_29 : decode cX4_intToBigEndian 29 = .ok (.bastore, 1) := dk_84 (dk_at dksX4_intToBigEndian_1 5 rfl rfl)
theorem dX4_intToBigEndian_30 : decode cX4_intToBigEndian 30 = .ok (.aload_n 1, 1) := dk_43 (dk_at dksX4_intToBigEndian_1 6 rfl rfl)
theorem dX4_intToBigEndian_31 : decode cX4_intToBigEndian 31 = .ok (.iinc 2 1, 3) := dk_132 2 1 (dk_at dksX4_intToBigEndian_1 7 rfl rfl)
theorem dX4_intToBigEndian_34 : decode cX4_intToBigEndian 34 = .ok (.iload_n 2, 1) := dk_28 (dk_at dksX4_intToBigEndian_1 10 rfl rfl)
theorem dX4_intToBigEndian_35 : decode cX4_intToBigEndian 35 = .ok (.iload_n 0, 1) := dk_26 (dk_at dksX4_intToBigEndian_1 11 rfl rfl)
theorem dX4_intToBigEndian_36 : decode cX4_intToBigEndian 36 = .ok (.i2b, 1) := dk_145 (dk_at dksX4_intToBigEndian_1 12 rfl rfl)
theorem dX4_intToBigEndian_37 : decode cX4_intToBigEndian 37 = .ok (.bastore, 1) := dk_84 (dk_at dksX4_intToBigEndian_1 13 rfl rfl)
theorem dX4_intToBigEndian_38 : decode cX4_intToBigEndian 38 = .ok (.return_, 1) := dk_177 (dk_at dksX4_intToBigEndian_1 14 rfl rfl)
theorem q16 : (Jvm.Cond.initialized "Pack") ∈ lw_all := lw_g (lw_at lw_m1 10 rfl) rfl
theorem q185 : (Jvm.Cond.static ({ cls := "Pack", name := "bigEndianToInt", desc := "([BI[III)V" } : Jvm.MethodName)) ∈ lw_all := lw_g (lw_at lw_m1 179 rfl) rfl
theorem q186 : (Jvm.Cond.code ({ cls := "Pack", name := "bigEndianToInt", desc := "([BI[III)V" } : Jvm.MethodName) prog_11_method_3_code (6 : Nat) (Option.none : Option Jvm.ClassFile.FieldType)) ∈ lw_all := lw_g (lw_at lw_m1 180 rfl) rfl
theorem q187 : (Jvm.Cond.methodLink "Pack" (7 : Nat) ({ cls := "Pack", name := "bigEndianToInt", desc := "([BI)I" } : Jvm.MethodName)) ∈ lw_all := lw_g (lw_at lw_m1 181 rfl) rfl
theorem q188 : (Jvm.Cond.static ({ cls := "Pack", name := "bigEndianToInt", desc := "([BI)I" } : Jvm.MethodName)) ∈ lw_all := lw_g (lw_at lw_m1 182 rfl) rfl
theorem q189 : (Jvm.Cond.code ({ cls := "Pack", name := "bigEndianToInt", desc := "([BI)I" } : Jvm.MethodName) prog_11_method_2_code (3 : Nat) (Option.some Jvm.ClassFile.FieldType.int)) ∈ lw_all := lw_g (lw_at lw_m1 183 rfl) rfl
theorem q265 : (Jvm.Cond.static ({ cls := "Pack", name := "intToBigEndian", desc := "(I[BI)V" } : Jvm.MethodName)) ∈ lw_all := lw_g (lw_at lw_m2 19 rfl) rfl
theorem q266 : (Jvm.Cond.code ({ cls := "Pack", name := "intToBigEndian", desc := "(I[BI)V" } : Jvm.MethodName) prog_11_method_4_code (3 : Nat) (Option.none : Option Jvm.ClassFile.FieldType)) ∈ lw_all := lw_g (lw_at lw_m2 20 rfl) rfl

/-! KeyParameter -/
set_option maxRecDepth 100000
def RX3 : String := "KeyParameter"
def TX3 : u_T := fun k => match k with
  | _ => ("KeyParameter", "key", "[B", false)
def tyX3 : Nat → FieldType := fun k => match k with
  | _ => .array .byte
abbrev wsX30 : List Cond := u_ws RX3 TX3 1
theorem nmX3 : ∀ a, a < 1 → ∀ b, b < 1 → a ≠ b → (TX3 a).2.1 ≠ (TX3 b).2.1 := by decide +kernel
theorem tyX3_ok : ∀ k, k < 1 → parseFieldDescriptor (TX3 k).2.2.1 = some (tyX3 k) := by decide +kernel
abbrev cX3_init : ByteArray := prog_5_method_1_code
def yX3_init : MethodName := ⟨RX3, "<init>", "([B)V"⟩
def dkwX3_init_0 : List UInt8 := [42, 43, 3, 43, 190, 183, 0, 1, 177]
abbrev dktX3_init_0 : List UInt8 := dkwX3_init_0 ++ []
theorem dksX3_init_0 : cX3_init.data.toList.drop 0 = dktX3_init_0 := by decide +kernel
theorem dX3_init_0 : decode cX3_init 0 = .ok (.aload_n 0, 1) := dk_42 (dk_at dksX3_init_0 0 rfl rfl)
theorem dX3_init_1 : decode cX3_init 1 = .ok (.aload_n 1, 1) := dk_43 (dk_at dksX3_init_0 1 rfl rfl)
theorem dX3_init_2 : decode cX3_init 2 = .ok (.iconst 0, 1) := dk_3 (dk_at dksX3_init_0 2 rfl rfl)
theorem dX3_init_3 : decode cX3_init 3 = .ok (.aload_n 1, 1) := dk_43 (dk_at dksX3_init_0 3 rfl rfl)
theorem dX3_init_4 : decode cX3_init 4 = .ok (.arraylength, 1) := dk_190 (dk_at dksX3_init_0 4 rfl rfl)
theorem dX3_init_5 : decode cX3_init 5 = .ok (.invokespecial 1, 3) := dk_183 0 1 (dk_at dksX3_init_0 5 rfl rfl)
theorem dX3_init_8 : decode cX3_init 8 = .ok (.return_, 1) := dk_177 (dk_at dksX3_init_0 8 rfl rfl)
abbrev cX3_init_2 : ByteArray := prog_5_method_2_code
def yX3_init_2 : MethodName := ⟨RX3, "<init>", "([BII)V"⟩
def dkwX3_init_2_0 : List UInt8 := [42, 29, 183, 0, 7, 43, 28, 42, 180, 0, 10, 3, 29, 184, 0, 14, 177]
abbrev dktX3_init_2_0 : List UInt8 := dkwX3_init_2_0 ++ []
theorem dksX3_init_2_0 : cX3_init_2.data.toList.drop 0 = dktX3_init_2_0 := by decide +kernel
theorem dX3_init_2_0 : decode cX3_init_2 0 = .ok (.aload_n 0, 1) := dk_42 (dk_at dksX3_init_2_0 0 rfl rfl)
theorem dX3_init_2_1 : decode cX3_init_2 1 = .ok (.iload_n 3, 1) := dk_29 (dk_at dksX3_init_2_0 1 rfl rfl)
theorem dX3_init_2_2 : decode cX3_init_2 2 = .ok (.invokespecial 7, 3) := dk_183 0 7 (dk_at dksX3_init_2_0 2 rfl rfl)
theorem dX3_init_2_5 : decode cX3_init_2 5 = .ok (.aload_n 1, 1) := dk_43 (dk_at dksX3_init_2_0 5 rfl rfl)
theorem dX3_init_2_6 : decode cX3_init_2 6 = .ok (.iload_n 2, 1) := dk_28 (dk_at dksX3_init_2_0 6 rfl rfl)
theorem dX3_init_2_7 : decode cX3_init_2 7 = .ok (.aload_n 0, 1) := dk_42 (dk_at dksX3_init_2_0 7 rfl rfl)
theorem dX3_init_2_8 : decode cX3_init_2 8 = .ok (.getfield 10, 3) := dk_180 0 10 (dk_at dksX3_init_2_0 8 rfl rfl)
theorem dX3_init_2_11 : decode cX3_init_2 11 = .ok (.iconst 0, 1) := dk_3 (dk_at dksX3_init_2_0 11 rfl rfl)
theorem dX3_init_2_12 : decode cX3_init_2 12 = .ok (.iload_n 3, 1) := dk_29 (dk_at dksX3_init_2_0 12 rfl rfl)
theorem dX3_init_2_13 : decode cX3_init_2 13 = .ok (.invokestatic 14, 3) := dk_184 0 14 (dk_at dksX3_init_2_0 13 rfl rfl)
theorem dX3_init_2_16 : decode cX3_init_2 16 = .ok (.return_, 1) := dk_177 (dk_at dksX3_init_2_0 16 rfl rfl)
abbrev cX3_init_3 : ByteArray := prog_5_method_3_code
def yX3_init_3 : MethodName := ⟨RX3, "<init>", "(I)V"⟩
def dkwX3_init_3_0 : List UInt8 := [42, 183, 0, 20, 42, 27, 188, 8, 181, 0, 10, 177]
abbrev dktX3_init_3_0 : List UInt8 := dkwX3_init_3_0 ++ []
theorem dksX3_init_3_0 : cX3_init_3.data.toList.drop 0 = dktX3_init_3_0 := by decide +kernel
theorem dX3_init_3_0 : decode cX3_init_3 0 = .ok (.aload_n 0, 1) := dk_42 (dk_at dksX3_init_3_0 0 rfl rfl)
theorem dX3_init_3_1 : decode cX3_init_3 1 = .ok (.invokespecial 20, 3) := dk_183 0 20 (dk_at dksX3_init_3_0 1 rfl rfl)
theorem dX3_init_3_4 : decode cX3_init_3 4 = .ok (.aload_n 0, 1) := dk_42 (dk_at dksX3_init_3_0 4 rfl rfl)
theorem dX3_init_3_5 : decode cX3_init_3 5 = .ok (.iload_n 1, 1) := dk_27 (dk_at dksX3_init_3_0 5 rfl rfl)
theorem dX3_init_3_6 : decode cX3_init_3 6 = .ok (.newarray .byte, 2) := dk_188_8 (dk_at dksX3_init_3_0 6 rfl rfl)
theorem dX3_init_3_8 : decode cX3_init_3 8 = .ok (.putfield 10, 3) := dk_181 0 10 (dk_at dksX3_init_3_0 8 rfl rfl)
theorem dX3_init_3_11 : decode cX3_init_3 11 = .ok (.return_, 1) := dk_177 (dk_at dksX3_init_3_0 11 rfl rfl)
abbrev cX3_getKey : ByteArray := prog_5_method_4_code
def yX3_getKey : MethodName := ⟨RX3, "getKey", "()[B"⟩
theorem dX3_getKey_0 : decode cX3_getKey 0 = .ok (.aload_n 0, 1) := by decide +kernel
theorem dX3_getKey_1 : decode cX3_getKey 1 = .ok (.getfield 10, 3) := by decide +kernel
theorem dX3_getKey_4 : decode cX3_getKey 4 = .ok (.areturn, 1) := by decide +kernel
theorem q10 : (Jvm.Cond.initialized "KeyParameter") ∈ lw_all := lw_g (lw_at lw_m1 4 rfl) rfl
theorem q82 : (Jvm.Cond.instantiable "KeyParameter" (1 : Nat)) ∈ lw_all := lw_g (lw_at lw_m1 76 rfl) rfl
theorem q84 : (Jvm.Cond.instanceMethod ({ cls := "KeyParameter", name := "<init>", desc := "([B)V" } : Jvm.MethodName)) ∈ lw_all := lw_g (lw_at lw_m1 78 rfl) rfl
theorem q85 : (Jvm.Cond.code ({ cls := "KeyParameter", name := "<init>", desc := "([B)V" } : Jvm.MethodName) prog_5_method_1_code (2 : Nat) (Option.none : Option Jvm.ClassFile.FieldType)) ∈ lw_all := lw_g (lw_at lw_m1 79 rfl) rfl
theorem q86 : (Jvm.Cond.methodLink "KeyParameter" (1 : Nat) ({ cls := "KeyParameter", name := "<init>", desc := "([BII)V" } : Jvm.MethodName)) ∈ lw_all := lw_g (lw_at lw_m1 80 rfl) rfl
theorem q87 : (Jvm.Cond.instanceMethod ({ cls := "KeyParameter", name := "<init>", desc := "([BII)V" } : Jvm.MethodName)) ∈ lw_all := lw_g (lw_at lw_m1 81 rfl) rfl
theorem q88 : (Jvm.Cond.code ({ cls := "KeyParameter", name := "<init>", desc := "([BII)V" } : Jvm.MethodName) prog_5_method_2_code (4 : Nat) (Option.none : Option Jvm.ClassFile.FieldType)) ∈ lw_all := lw_g (lw_at lw_m1 82 rfl) rfl
theorem q89 : (Jvm.Cond.methodLink "KeyParameter" (7 : Nat) ({ cls := "KeyParameter", name := "<init>", desc := "(I)V" } : Jvm.MethodName)) ∈ lw_all := lw_g (lw_at lw_m1 83 rfl) rfl
theorem q90 : (Jvm.Cond.instanceMethod ({ cls := "KeyParameter", name := "<init>", desc := "(I)V" } : Jvm.MethodName)) ∈ lw_all := lw_g (lw_at lw_m1 84 rfl) rfl
theorem q91 : (Jvm.Cond.code ({ cls := "KeyParameter", name := "<init>", desc := "(I)V" } : Jvm.MethodName) prog_5_method_3_code (2 : Nat) (Option.none : Option Jvm.ClassFile.FieldType)) ∈ lw_all := lw_g (lw_at lw_m1 85 rfl) rfl
theorem q92 : (Jvm.Cond.methodLink "KeyParameter" (20 : Nat) ({ cls := "java/lang/Object", name := "<init>", desc := "()V" } : Jvm.MethodName)) ∈ lw_all := lw_g (lw_at lw_m1 86 rfl) rfl
theorem q93 : (Jvm.Cond.fieldLink "KeyParameter" (10 : Nat) "KeyParameter" "key" "[B") ∈ lw_all := lw_g (lw_at lw_m1 87 rfl) rfl
theorem q94 : (Jvm.Cond.lays "KeyParameter" "KeyParameter" "key" "[B") ∈ lw_all := lw_g (lw_at lw_m1 88 rfl) rfl
theorem q95 : (Jvm.Cond.soleField "KeyParameter" "key") ∈ lw_all := lw_g (lw_at lw_m1 89 rfl) rfl
theorem q96 : (Jvm.Cond.superclass "KeyParameter" "java/lang/Object") ∈ lw_all := lw_g (lw_at lw_m1 90 rfl) rfl
theorem q97 : (Jvm.Cond.methodLink "KeyParameter" (14 : Nat) ({ cls := "java/lang/System", name := "arraycopy", desc := "(Ljava/lang/Object;ILjava/lang/Object;II)V" } : Jvm.MethodName)) ∈ lw_all := lw_g (lw_at lw_m1 91 rfl) rfl
theorem q180 : (Jvm.Cond.instanceMethod ({ cls := "KeyParameter", name := "getKey", desc := "()[B" } : Jvm.MethodName)) ∈ lw_all := lw_g (lw_at lw_m1 174 rfl) rfl
theorem q181 : (Jvm.Cond.selects "KeyParameter" ({ cls := "KeyParameter", name := "getKey", desc := "()[B" } : Jvm.MethodName) ({ cls := "KeyParameter", name := "getKey", desc := "()[B" } : Jvm.MethodName)) ∈ lw_all := lw_g (lw_at lw_m1 175 rfl) rfl
theorem q182 : (Jvm.Cond.code ({ cls := "KeyParameter", name := "getKey", desc := "()[B" } : Jvm.MethodName) prog_5_method_4_code (1 : Nat) (Option.some (Jvm.ClassFile.FieldType.array Jvm.ClassFile.FieldType.byte))) ∈ lw_all := lw_g (lw_at lw_m1 176 rfl) rfl
theorem in_X3 : ∀ w ∈ wsX30, w ∈ lw_all := lw_in wsX30 [94] (by decide +kernel) (by decide +kernel)

/-! NoekeonDesk -/
set_option maxRecDepth 100000
def RX0 : String := "NoekeonDesk"
def TX0 : u_T := fun k => match k with
  | 0 => ("NoekeonDesk", "key", "[B", true)
  | 1 => ("NoekeonDesk", "block", "[B", true)
  | _ => ("NoekeonDesk", "out", "[B", true)
def tyX0 : Nat → FieldType := fun k => match k with
  | 0 => .array .byte
  | 1 => .array .byte
  | _ => .array .byte
abbrev wsX00 : List Cond := u_ws RX0 TX0 3
theorem nmX0 : ∀ a, a < 3 → ∀ b, b < 3 → a ≠ b → (TX0 a).2.1 ≠ (TX0 b).2.1 := by decide +kernel
theorem tyX0_ok : ∀ k, k < 3 → parseFieldDescriptor (TX0 k).2.2.1 = some (tyX0 k) := by decide +kernel
abbrev cX0_init : ByteArray := prog_6_method_1_code
def yX0_init : MethodName := ⟨RX0, "<init>", "()V"⟩
def dkwX0_init_1 : List UInt8 := [188, 8, 181, 0, 16, 177]
abbrev dktX0_init_1 : List UInt8 := dkwX0_init_1 ++ []
def dkwX0_init_0 : List UInt8 := [42, 183, 0, 1, 42, 16, 32, 188, 8, 181, 0, 7, 42, 16, 16, 188, 8, 181, 0, 13, 42, 16, 16]
abbrev dktX0_init_0 : List UInt8 := dkwX0_init_0 ++ dktX0_init_1
theorem dksX0_init_0 : cX0_init.data.toList.drop 0 = dktX0_init_0 := by decide +kernel
theorem dksX0_init_1 : cX0_init.data.toList.drop 23 = dktX0_init_1 := dk_seg dksX0_init_0 23 rfl rfl
theorem dX0_init_0 : decode cX0_init 0 = .ok (.aload_n 0, 1) := dk_42 (dk_at dksX0_init_0 0 rfl rfl)
theorem dX0_init_1 : decode cX0_init 1 = .ok (.invokespecial 1, 3) := dk_183 0 1 (dk_at dksX0_init_0 1 rfl rfl)
theorem dX0_init_4 : decode cX0_init 4 = .ok (.aload_n 0, 1) := dk_42 (dk_at dksX0_init_0 4 rfl rfl)
theorem dX0_init_5 : decode cX0_init 5 = .ok (.bipush 32, 2) := dk_16 32 (dk_at dksX0_init_0 5 rfl rfl)
theorem dX0_init_7 : decode cX0_init 7 = .ok (.newarray .byte, 2) := dk_188_8 (dk_at dksX0_init_0 7 rfl rfl)
theorem dX0_init_9 : decode cX0_init 9 = .ok (.putfield 7, 3) := dk_181 0 7 (dk_at dksX0_init_0 9 rfl rfl)
theorem dX0_init_12 : decode cX0_init 12 = .ok (.aload_n 0, 1) := dk_42 (dk_at dksX0_init_0 12 rfl rfl)
theorem dX0_init_13 : decode cX0_init 13 = .ok (.bipush 16, 2) := dk_16 16 (dk_at dksX0_init_0 13 rfl rfl)
theorem dX0_init_15 : decode cX0_init 15 = .ok (.newarray .byte, 2) := dk_188_8 (dk_at dksX0_init_0 15 rfl rfl)
theorem dX0_init_17 : decode cX0_init 17 = .ok (.putfield 13, 3) := dk_181 0 13 (dk_at dksX0_init_0 17 rfl rfl)
theorem dX0_init_20 : decode cX0_init 20 = .ok (.aload_n 0, 1) := dk_42 (dk_at dksX0_init_0 20 rfl rfl)
theorem dX0_init_21 : decode cX0_init 21 = .ok (.bipush 16, 2) := dk_16 16 (dk_at dksX0_init_0 21 rfl rfl)
theorem dX0_init_23 : decode cX0_init 23 = .ok (.newarray .byte, 2) := dk_188_8 (dk_at dksX0_init_1 0 rfl rfl)
theorem dX0_init_25 : decode cX0_init 25 = .ok (.putfield 16, 3) := dk_181 0 16 (dk_at dksX0_init_1 2 rfl rfl)
theorem dX0_init_28 : decode cX0_init 28 = .ok (.return_, 1) := dk_177 (dk_at dksX0_init_1 5 rfl rfl)
abbrev cX0_key : ByteArray := prog_6_method_3_code
def yX0_key : MethodName := ⟨RX0, "key", "(IIIII)V"⟩
def dkwX0_key_2 : List UInt8 := [21, 6, 16, 12, 96, 21, 5, 184, 0, 19, 177]
abbrev dktX0_key_2 : List UInt8 := dkwX0_key_2 ++ []
def dkwX0_key_1 : List UInt8 := [96, 29, 184, 0, 19, 42, 180, 0, 7, 21, 6, 16, 8, 96, 21, 4, 184, 0, 19, 42, 180, 0, 7]
abbrev dktX0_key_1 : List UInt8 := dkwX0_key_1 ++ dktX0_key_2
def dkwX0_key_0 : List UInt8 := [27, 4, 126, 7, 120, 54, 6, 42, 180, 0, 7, 21, 6, 28, 184, 0, 19, 42, 180, 0, 7, 21, 6, 7]
abbrev dktX0_key_0 : List UInt8 := dkwX0_key_0 ++ dktX0_key_1
theorem dksX0_key_0 : cX0_key.data.toList.drop 0 = dktX0_key_0 := by decide +kernel
theorem dksX0_key_1 : cX0_key.data.toList.drop 24 = dktX0_key_1 := dk_seg dksX0_key_0 24 rfl rfl
theorem dksX0_key_2 : cX0_key.data.toList.drop 47 = dktX0_key_2 := dk_seg dksX0_key_1 23 rfl rfl
theorem dX0_key_0 : decode cX0_key 0 = .ok (.iload_n 1, 1) := dk_27 (dk_at dksX0_key_0 0 rfl rfl)
theorem dX0_key_1 : decode cX0_key 1 = .ok (.iconst 1, 1) := dk_4 (dk_at dksX0_key_0 1 rfl rfl)
theorem dX0_key_2 : decode cX0_key 2 = .ok (.iand, 1) := dk_126 (dk_at dksX0_key_0 2 rfl rfl)
theorem dX0_key_3 : decode cX0_key 3 = .ok (.iconst 4, 1) := dk_7 (dk_at dksX0_key_0 3 rfl rfl)
theorem dX0_key_4 : decode cX0_key 4 = .ok (.ishl, 1) := dk_120 (dk_at dksX0_key_0 4 rfl rfl)
theorem dX0_key_5 : decode cX0_key 5 = .ok (.istore 6, 2) := dk_54 6 (dk_at dksX0_key_0 5 rfl rfl)
theorem dX0_key_7 : decode cX0_key 7 = .ok (.aload_n 0, 1) := dk_42 (dk_at dksX0_key_0 7 rfl rfl)
theorem dX0_key_8 : decode cX0_key 8 = .ok (.getfield 7, 3) := dk_180 0 7 (dk_at dksX0_key_0 8 rfl rfl)
theorem dX0_key_11 : decode cX0_key 11 = .ok (.iload 6, 2) := dk_21 6 (dk_at dksX0_key_0 11 rfl rfl)
theorem dX0_key_13 : decode cX0_key 13 = .ok (.iload_n 2, 1) := dk_28 (dk_at dksX0_key_0 13 rfl rfl)
theorem dX0_key_14 : decode cX0_key 14 = .ok (.invokestatic 19, 3) := dk_184 0 19 (dk_at dksX0_key_0 14 rfl rfl)
theorem dX0_key_17 : decode cX0_key 17 = .ok (.aload_n 0, 1) := dk_42 (dk_at dksX0_key_0 17 rfl rfl)
theorem dX0_key_18 : decode cX0_key 18 = .ok (.getfield 7, 3) := dk_180 0 7 (dk_at dksX0_key_0 18 rfl rfl)
theorem dX0_key_21 : decode cX0_key 21 = .ok (.iload 6, 2) := dk_21 6 (dk_at dksX0_key_0 21 rfl rfl)
theorem dX0_key_23 : decode cX0_key 23 = .ok (.iconst 4, 1) := dk_7 (dk_at dksX0_key_0 23 rfl rfl)
theorem dX0_key_24 : decode cX0_key 24 = .ok (.iadd, 1) := dk_96 (dk_at dksX0_key_1 0 rfl rfl)
theorem dX0_key_25 : decode cX0_key 25 = .ok (.iload_n 3, 1) := dk_29 (dk_at dksX0_key_1 1 rfl rfl)
theorem dX0_key_26 : decode cX0_key 26 = .ok (.invokestatic 19, 3) := dk_184 0 19 (dk_at dksX0_key_1 2 rfl rfl)
theorem dX0_key_29 : decode cX0_key 29 = .ok (.aload_n 0, 1) := dk_42 (dk_at dksX0_key_1 5 rfl rfl)
theorem dX0_key_30 : decode cX0_key 30 = .ok (.getfield 7, 3) := dk_180 0 7 (dk_at dksX0_key_1 6 rfl rfl)
theorem dX0_key_33 : decode cX0_key 33 = .ok (.iload 6, 2) := dk_21 6 (dk_at dksX0_key_1 9 rfl rfl)
theorem dX0_key_35 : decode cX0_key 35 = .ok (.bipush 8, 2) := dk_16 8 (dk_at dksX0_key_1 11 rfl rfl)
theorem dX0_key_37 : decode cX0_key 37 = .ok (.iadd, 1) := dk_96 (dk_at dksX0_key_1 13 rfl rfl)
theorem dX0_key_38 : decode cX0_key 38 = .ok (.iload 4, 2) := dk_21 4 (dk_at dksX0_key_1 14 rfl rfl)
theorem dX0_key_40 : decode cX0_key 40 = .ok (.invokestatic 19, 3) := dk_184 0 19 (dk_at dksX0_key_1 16 rfl rfl)
theorem dX0_key_43 : decode cX0_key 43 = .ok (.aload_n 0, 1) := dk_42 (dk_at dksX0_key_1 19 rfl rfl)
theorem dX0_key_44 : decode cX0_key 44 = .ok (.getfield 7, 3) := dk_180 0 7 (dk_at dksX0_key_1 20 rfl rfl)
theorem dX0_key_47 : decode cX0_key 47 = .ok (.iload 6, 2) := dk_21 6 (dk_at dksX0_key_2 0 rfl rfl)
theorem dX0_key_49 : decode cX0_key 49 = .ok (.bipush 12, 2) := dk_16 12 (dk_at dksX0_key_2 2 rfl rfl)
theorem dX0_key_51 : decode cX0_key 51 = .ok (.iadd, 1) := dk_96 (dk_at dksX0_key_2 4 rfl rfl)
theorem dX0_key_52 : decode cX0_key 52 = .ok (.iload 5, 2) := dk_21 5 (dk_at dksX0_key_2 5 rfl rfl)
theorem dX0_key_54 : decode cX0_key 54 = .ok (.invokestatic 19, 3) := dk_184 0 19 (dk_at dksX0_key_2 7 rfl rfl)
theorem dX0_key_57 : decode cX0_key 57 = .ok (.return_, 1) := dk_177 (dk_at dksX0_key_2 10 rfl rfl)
abbrev cX0_word : ByteArray := prog_6_method_2_code
def yX0_word : MethodName := ⟨RX0, "word", "([BII)V"⟩
def dkwX0_word_1 : List UInt8 := [16, 8, 122, 145, 84, 42, 27, 6, 96, 28, 145, 84, 177]
abbrev dktX0_word_1 : List UInt8 := dkwX0_word_1 ++ []
def dkwX0_word_0 : List UInt8 := [42, 27, 28, 16, 24, 122, 145, 84, 42, 27, 4, 96, 28, 16, 16, 122, 145, 84, 42, 27, 5, 96, 28]
abbrev dktX0_word_0 : List UInt8 := dkwX0_word_0 ++ dktX0_word_1
theorem dksX0_word_0 : cX0_word.data.toList.drop 0 = dktX0_word_0 := by decide +kernel
theorem dksX0_word_1 : cX0_word.data.toList.drop 23 = dktX0_word_1 := dk_seg dksX0_word_0 23 rfl rfl
theorem dX0_word_0 : decode cX0_word 0 = .ok (.aload_n 0, 1) := dk_42 (dk_at dksX0_word_0 0 rfl rfl)
theorem dX0_word_1 : decode cX0_word 1 = .ok (.iload_n 1, 1) := dk_27 (dk_at dksX0_word_0 1 rfl rfl)
theorem dX0_word_2 : decode cX0_word 2 = .ok (.iload_n 2, 1) := dk_28 (dk_at dksX0_word_0 2 rfl rfl)
theorem dX0_word_3 : decode cX0_word 3 = .ok (.bipush 24, 2) := dk_16 24 (dk_at dksX0_word_0 3 rfl rfl)
theorem dX0_word_5 : decode cX0_word 5 = .ok (.ishr, 1) := dk_122 (dk_at dksX0_word_0 5 rfl rfl)
theorem dX0_word_6 : decode cX0_word 6 = .ok (.i2b, 1) := dk_145 (dk_at dksX0_word_0 6 rfl rfl)
theorem dX0_word_7 : decode cX0_word 7 = .ok (.bastore, 1) := dk_84 (dk_at dksX0_word_0 7 rfl rfl)
theorem dX0_word_8 : decode cX0_word 8 = .ok (.aload_n 0, 1) := dk_42 (dk_at dksX0_word_0 8 rfl rfl)
theorem dX0_word_9 : decode cX0_word 9 = .ok (.iload_n 1, 1) := dk_27 (dk_at dksX0_word_0 9 rfl rfl)
theorem dX0_word_10 : decode cX0_word 10 = .ok (.iconst 1, 1) := dk_4 (dk_at dksX0_word_0 10 rfl rfl)
theorem dX0_word_11 : decode cX0_word 11 = .ok (.iadd, 1) := dk_96 (dk_at dksX0_word_0 11 rfl rfl)
theorem dX0_word_12 : decode cX0_word 12 = .ok (.iload_n 2, 1) := dk_28 (dk_at dksX0_word_0 12 rfl rfl)
theorem dX0_word_13 : decode cX0_word 13 = .ok (.bipush 16, 2) := dk_16 16 (dk_at dksX0_word_0 13 rfl rfl)
theorem dX0_word_15 : decode cX0_word 15 = .ok (.ishr, 1) := dk_122 (dk_at dksX0_word_0 15 rfl rfl)
theorem dX0_word_16 : decode cX0_word 16 = .ok (.i2b, 1) := dk_145 (dk_at dksX0_word_0 16 rfl rfl)
theorem dX0_word_17 : decode cX0_word 17 = .ok (.bastore, 1) := dk_84 (dk_at dksX0_word_0 17 rfl rfl)
theorem dX0_word_18 : decode cX0_word 18 = .ok (.aload_n 0, 1) := dk_42 (dk_at dksX0_word_0 18 rfl rfl)
theorem dX0_word_19 : decode cX0_word 19 = .ok (.iload_n 1, 1) := dk_27 (dk_at dksX0_word_0 19 rfl rfl)
theorem dX0_word_20 : decode cX0_word 20 = .ok (.iconst 2, 1) := dk_5 (dk_at dksX0_word_0 20 rfl rfl)
theorem dX0_word_21 : decode cX0_word 21 = .ok (.iadd, 1) := dk_96 (dk_at dksX0_word_0 21 rfl rfl)
theorem dX0_word_22 : decode cX0_word 22 = .ok (.iload_n 2, 1) := dk_28 (dk_at dksX0_word_0 22 rfl rfl)
theorem dX0_word_23 : decode cX0_word 23 = .ok (.bipush 8, 2) := dk_16 8 (dk_at dksX0_word_1 0 rfl rfl)
theorem dX0_word_25 : decode cX0_word 25 = .ok (.ishr, 1) := dk_122 (dk_at dksX0_word_1 2 rfl rfl)
theorem dX0_word_26 : decode cX0_word 26 = .ok (.i2b, 1) := dk_145 (dk_at dksX0_word_1 3 rfl rfl)
theorem dX0_word_27 : decode cX0_word 27 = .ok (.bastore, 1) := dk_84 (dk_at dksX0_word_1 4 rfl rfl)
theorem dX0_word_28 : decode cX0_word 28 = .ok (.aload_n 0, 1) := dk_42 (dk_at dksX0_word_1 5 rfl rfl)
theorem dX0_word_29 : decode cX0_word 29 = .ok (.iload_n 1, 1) := dk_27 (dk_at dksX0_word_1 6 rfl rfl)
theorem dX0_word_30 : decode cX0_word 30 = .ok (.iconst 3, 1) := dk_6 (dk_at dksX0_word_1 7 rfl rfl)
theorem dX0_word_31 : decode cX0_word 31 = .ok (.iadd, 1) := dk_96 (dk_at dksX0_word_1 8 rfl rfl)
theorem dX0_word_32 : decode cX0_word 32 = .ok (.iload_n 2, 1) := dk_28 (dk_at dksX0_word_1 9 rfl rfl)
theorem dX0_word_33 : decode cX0_word 33 = .ok (.i2b, 1) := dk_145 (dk_at dksX0_word_1 10 rfl rfl)
theorem dX0_word_34 : decode cX0_word 34 = .ok (.bastore, 1) := dk_84 (dk_at dksX0_word_1 11 rfl rfl)
theorem dX0_word_35 : decode cX0_word 35 = .ok (.return_, 1) := dk_177 (dk_at dksX0_word_1 12 rfl rfl)
abbrev cX0_block : ByteArray := prog_6_method_4_code
def yX0_block : MethodName := ⟨RX0, "block", "(IIII)V"⟩
def dkwX0_block_1 : List UInt8 := [29, 184, 0, 19, 42, 180, 0, 13, 16, 12, 21, 4, 184, 0, 19, 177]
abbrev dktX0_block_1 : List UInt8 := dkwX0_block_1 ++ []
def dkwX0_block_0 : List UInt8 := [42, 180, 0, 13, 3, 27, 184, 0, 19, 42, 180, 0, 13, 7, 28, 184, 0, 19, 42, 180, 0, 13, 16, 8]
abbrev dktX0_block_0 : List UInt8 := dkwX0_block_0 ++ dktX0_block_1
theorem dksX0_block_0 : cX0_block.data.toList.drop 0 = dktX0_block_0 := by decide +kernel
theorem dksX0_block_1 : cX0_block.data.toList.drop 24 = dktX0_block_1 := dk_seg dksX0_block_0 24 rfl rfl
theorem dX0_block_0 : decode cX0_block 0 = .ok (.aload_n 0, 1) := dk_42 (dk_at dksX0_block_0 0 rfl rfl)
theorem dX0_block_1 : decode cX0_block 1 = .ok (.getfield 13, 3) := dk_180 0 13 (dk_at dksX0_block_0 1 rfl rfl)
theorem dX0_block_4 : decode cX0_block 4 = .ok (.iconst 0, 1) := dk_3 (dk_at dksX0_block_0 4 rfl rfl)
theorem dX0_block_5 : decode cX0_block 5 = .ok (.iload_n 1, 1) := dk_27 (dk_at dksX0_block_0 5 rfl rfl)
theorem dX0_block_6 : decode cX0_block 6 = .ok (.invokestatic 19, 3) := dk_184 0 19 (dk_at dksX0_block_0 6 rfl rfl)
theorem dX0_block_9 : decode cX0_block 9 = .ok (.aload_n 0, 1) := dk_42 (dk_at dksX0_block_0 9 rfl rfl)
theorem dX0_block_10 : decode cX0_block 10 = .ok (.getfield 13, 3) := dk_180 0 13 (dk_at dksX0_block_0 10 rfl rfl)
theorem dX0_block_13 : decode cX0_block 13 = .ok (.iconst 4, 1) := dk_7 (dk_at dksX0_block_0 13 rfl rfl)
theorem dX0_block_14 : decode cX0_block 14 = .ok (.iload_n 2, 1) := dk_28 (dk_at dksX0_block_0 14 rfl rfl)
theorem dX0_block_15 : decode cX0_block 15 = .ok (.invokestatic 19, 3) := dk_184 0 19 (dk_at dksX0_block_0 15 rfl rfl)
theorem dX0_block_18 : decode cX0_block 18 = .ok (.aload_n 0, 1) := dk_42 (dk_at dksX0_block_0 18 rfl rfl)
theorem dX0_block_19 : decode cX0_block 19 = .ok (.getfield 13, 3) := dk_180 0 13 (dk_at dksX0_block_0 19 rfl rfl)
theorem dX0_block_22 : decode cX0_block 22 = .ok (.bipush 8, 2) := dk_16 8 (dk_at dksX0_block_0 22 rfl rfl)
theorem dX0_block_24 : decode cX0_block 24 = .ok (.iload_n 3, 1) := dk_29 (dk_at dksX0_block_1 0 rfl rfl)
theorem dX0_block_25 : decode cX0_block 25 = .ok (.invokestatic 19, 3) := dk_184 0 19 (dk_at dksX0_block_1 1 rfl rfl)
theorem dX0_block_28 : decode cX0_block 28 = .ok (.aload_n 0, 1) := dk_42 (dk_at dksX0_block_1 4 rfl rfl)
theorem dX0_block_29 : decode cX0_block 29 = .ok (.getfield 13, 3) := dk_180 0 13 (dk_at dksX0_block_1 5 rfl rfl)
theorem dX0_block_32 : decode cX0_block 32 = .ok (.bipush 12, 2) := dk_16 12 (dk_at dksX0_block_1 8 rfl rfl)
theorem dX0_block_34 : decode cX0_block 34 = .ok (.iload 4, 2) := dk_21 4 (dk_at dksX0_block_1 10 rfl rfl)
theorem dX0_block_36 : decode cX0_block 36 = .ok (.invokestatic 19, 3) := dk_184 0 19 (dk_at dksX0_block_1 12 rfl rfl)
theorem dX0_block_39 : decode cX0_block 39 = .ok (.return_, 1) := dk_177 (dk_at dksX0_block_1 15 rfl rfl)
abbrev cX0_lock : ByteArray := prog_6_method_7_code
def yX0_lock : MethodName := ⟨RX0, "lock", "(I)V"⟩
def dkwX0_lock_0 : List UInt8 := [42, 4, 27, 182, 0, 45, 177]
abbrev dktX0_lock_0 : List UInt8 := dkwX0_lock_0 ++ []
theorem dksX0_lock_0 : cX0_lock.data.toList.drop 0 = dktX0_lock_0 := by decide +kernel
theorem dX0_lock_0 : decode cX0_lock 0 = .ok (.aload_n 0, 1) := dk_42 (dk_at dksX0_lock_0 0 rfl rfl)
theorem dX0_lock_1 : decode cX0_lock 1 = .ok (.iconst 1, 1) := dk_4 (dk_at dksX0_lock_0 1 rfl rfl)
theorem dX0_lock_2 : decode cX0_lock 2 = .ok (.iload_n 1, 1) := dk_27 (dk_at dksX0_lock_0 2 rfl rfl)
theorem dX0_lock_3 : decode cX0_lock 3 = .ok (.invokevirtual 45, 3) := dk_182 0 45 (dk_at dksX0_lock_0 3 rfl rfl)
theorem dX0_lock_6 : decode cX0_lock 6 = .ok (.return_, 1) := dk_177 (dk_at dksX0_lock_0 6 rfl rfl)
abbrev cX0_run : ByteArray := prog_6_method_5_code
def yX0_run : MethodName := ⟨RX0, "run", "(ZI)V"⟩
def dkwX0_run_3 : List UInt8 := [180, 0, 13, 3, 42, 180, 0, 16, 3, 185, 0, 41, 5, 0, 87, 177]
abbrev dktX0_run_3 : List UInt8 := dkwX0_run_3 ++ []
def dkwX0_run_2 : List UInt8 := [58, 5, 25, 5, 27, 187, 0, 30, 89, 25, 4, 183, 0, 32, 185, 0, 35, 3, 0, 25, 5, 42]
abbrev dktX0_run_2 : List UInt8 := dkwX0_run_2 ++ dktX0_run_3
def dkwX0_run_1 : List UInt8 := [21, 5, 42, 180, 0, 7, 21, 5, 51, 84, 132, 5, 1, 167, 255, 235, 187, 0, 27, 89, 183, 0, 29]
abbrev dktX0_run_1 : List UInt8 := dkwX0_run_1 ++ dktX0_run_2
def dkwX0_run_0 : List UInt8 := [28, 6, 126, 184, 0, 23, 62, 29, 188, 8, 58, 4, 3, 54, 5, 21, 5, 29, 162, 0, 21, 25, 4]
abbrev dktX0_run_0 : List UInt8 := dkwX0_run_0 ++ dktX0_run_1
theorem dksX0_run_0 : cX0_run.data.toList.drop 0 = dktX0_run_0 := by decide +kernel
theorem dksX0_run_1 : cX0_run.data.toList.drop 23 = dktX0_run_1 := dk_seg dksX0_run_0 23 rfl rfl
theorem dksX0_run_2 : cX0_run.data.toList.drop 46 = dktX0_run_2 := dk_seg dksX0_run_1 23 rfl rfl
theorem dksX0_run_3 : cX0_run.data.toList.drop 68 = dktX0_run_3 := dk_seg dksX0_run_2 22 rfl rfl
theorem dX0_run_0 : decode cX0_run 0 = .ok (.iload_n 2, 1) := dk_28 (dk_at dksX0_run_0 0 rfl rfl)
theorem dX0_run_1 : decode cX0_run 1 = .ok (.iconst 3, 1) := dk_6 (dk_at dksX0_run_0 1 rfl rfl)
theorem dX0_run_2 : decode cX0_run 2 = .ok (.iand, 1) := dk_126 (dk_at dksX0_run_0 2 rfl rfl)
theorem dX0_run_3 : decode cX0_run 3 = .ok (.invokestatic 23, 3) := dk_184 0 23 (dk_at dksX0_run_0 3 rfl rfl)
theorem dX0_run_6 : decode cX0_run 6 = .ok (.istore_n 3, 1) := dk_62 (dk_at dksX0_run_0 6 rfl rfl)
theorem dX0_run_7 : decode cX0_run 7 = .ok (.iload_n 3, 1) := dk_29 (dk_at dksX0_run_0 7 rfl rfl)
theorem dX0_run_8 : decode cX0_run 8 = .ok (.newarray .byte, 2) := dk_188_8 (dk_at dksX0_run_0 8 rfl rfl)
theorem dX0_run_10 : decode cX0_run 10 = .ok (.astore 4, 2) := dk_58 4 (dk_at dksX0_run_0 10 rfl rfl)
theorem dX0_run_12 : decode cX0_run 12 = .ok (.iconst 0, 1) := dk_3 (dk_at dksX0_run_0 12 rfl rfl)
theorem dX0_run_13 : decode cX0_run 13 = .ok (.istore 5, 2) := dk_54 5 (dk_at dksX0_run_0 13 rfl rfl)
theorem dX0_run_15 : decode cX0_run 15 = .ok (.iload 5, 2) := dk_21 5 (dk_at dksX0_run_0 15 rfl rfl)
theorem dX0_run_17 : decode cX0_run 17 = .ok (.iload_n 3, 1) := dk_29 (dk_at dksX0_run_0 17 rfl rfl)
theorem dX0_run_18 : decode cX0_run 18 = .ok (.if_icmp .ge 21, 3) := dk_162 0 21 (dk_at dksX0_run_0 18 rfl rfl)
theorem dX0_run_21 : decode cX0_run 21 = .ok (.aload 4, 2) := dk_25 4 (dk_at dksX0_run_0 21 rfl rfl)
theorem dX0_run_23 : decode cX0_run 23 = .ok (.iload 5, 2) := dk_21 5 (dk_at dksX0_run_1 0 rfl rfl)
theorem dX0_run_25 : decode cX0_run 25 = .ok (.aload_n 0, 1) := dk_42 (dk_at dksX0_run_1 2 rfl rfl)
theorem dX0_run_26 : decode cX0_run 26 = .ok (.getfield 7, 3) := dk_180 0 7 (dk_at dksX0_run_1 3 rfl rfl)
theorem dX0_run_29 : decode cX0_run 29 = .ok (.iload 5, 2) := dk_21 5 (dk_at dksX0_run_1 6 rfl rfl)
theorem dX0_run_31 : decode cX0_run 31 = .ok (.baload, 1) := dk_51 (dk_at dksX0_run_1 8 rfl rfl)
theorem dX0_run_32 : decode cX0_run 32 = .ok (.bastore, 1) := dk_84 (dk_at dksX0_run_1 9 rfl rfl)
theorem dX0_run_33 : decode cX0_run 33 = .ok (.iinc 5 1, 3) := dk_132 5 1 (dk_at dksX0_run_1 10 rfl rfl)
theorem dX0_run_36 : decode cX0_run 36 = .ok (.goto (-21), 3) := dk_167 255 235 (dk_at dksX0_run_1 13 rfl rfl)
theorem dX0_run_39 : decode cX0_run 39 = .ok (.new 27, 3) := dk_187 0 27 (dk_at dksX0_run_1 16 rfl rfl)
theorem dX0_run_42 : decode cX0_run 42 = .ok (.dup, 1) := dk_89 (dk_at dksX0_run_1 19 rfl rfl)
theorem dX0_run_43 : decode cX0_run 43 = .ok (.invokespecial 29, 3) := dk_183 0 29 (dk_at dksX0_run_1 20 rfl rfl)
theorem dX0_run_46 : decode cX0_run 46 = .ok (.astore 5, 2) := dk_58 5 (dk_at dksX0_run_2 0 rfl rfl)
theorem dX0_run_48 : decode cX0_run 48 = .ok (.aload 5, 2) := dk_25 5 (dk_at dksX0_run_2 2 rfl rfl)
theorem dX0_run_50 : decode cX0_run 50 = .ok (.iload_n 1, 1) := dk_27 (dk_at dksX0_run_2 4 rfl rfl)
theorem dX0_run_51 : decode cX0_run 51 = .ok (.new 30, 3) := dk_187 0 30 (dk_at dksX0_run_2 5 rfl rfl)
theorem dX0_run_54 : decode cX0_run 54 = .ok (.dup, 1) := dk_89 (dk_at dksX0_run_2 8 rfl rfl)
theorem dX0_run_55 : decode cX0_run 55 = .ok (.aload 4, 2) := dk_25 4 (dk_at dksX0_run_2 9 rfl rfl)
theorem dX0_run_57 : decode cX0_run 57 = .ok (.invokespecial 32, 3) := dk_183 0 32 (dk_at dksX0_run_2 11 rfl rfl)
theorem dX0_run_60 : decode cX0_run 60 = .ok (.invokeinterface 35 3, 5) := by decide +kernel
theorem dX0_run_65 : decode cX0_run 65 = .ok (.aload 5, 2) := dk_25 5 (dk_at dksX0_run_2 19 rfl rfl)
theorem dX0_run_67 : decode cX0_run 67 = .ok (.aload_n 0, 1) := dk_42 (dk_at dksX0_run_2 21 rfl rfl)
theorem dX0_run_68 : decode cX0_run 68 = .ok (.getfield 13, 3) := dk_180 0 13 (dk_at dksX0_run_3 0 rfl rfl)
theorem dX0_run_71 : decode cX0_run 71 = .ok (.iconst 0, 1) := dk_3 (dk_at dksX0_run_3 3 rfl rfl)
theorem dX0_run_72 : decode cX0_run 72 = .ok (.aload_n 0, 1) := dk_42 (dk_at dksX0_run_3 4 rfl rfl)
theorem dX0_run_73 : decode cX0_run 73 = .ok (.getfield 16, 3) := dk_180 0 16 (dk_at dksX0_run_3 5 rfl rfl)
theorem dX0_run_76 : decode cX0_run 76 = .ok (.iconst 0, 1) := dk_3 (dk_at dksX0_run_3 8 rfl rfl)
theorem dX0_run_77 : decode cX0_run 77 = .ok (.invokeinterface 41 5, 5) := by decide +kernel
theorem dX0_run_82 : decode cX0_run 82 = .ok (.pop, 1) := dk_87 (dk_at dksX0_run_3 14 rfl rfl)
theorem dX0_run_83 : decode cX0_run 83 = .ok (.return_, 1) := dk_177 (dk_at dksX0_run_3 15 rfl rfl)
abbrev cX0_size : ByteArray := prog_6_method_6_code
def yX0_size : MethodName := ⟨RX0, "size", "(I)I"⟩
theorem dX0_size_0 : decode cX0_size 0 = .ok (.bipush 16, 2) := by decide +kernel
theorem dX0_size_2 : decode cX0_size 2 = .ok (.ireturn, 1) := by decide +kernel
abbrev cX0_open : ByteArray := prog_6_method_8_code
def yX0_open : MethodName := ⟨RX0, "open", "(I)V"⟩
def dkwX0_open_0 : List UInt8 := [42, 3, 27, 182, 0, 45, 177]
abbrev dktX0_open_0 : List UInt8 := dkwX0_open_0 ++ []
theorem dksX0_open_0 : cX0_open.data.toList.drop 0 = dktX0_open_0 := by decide +kernel
theorem dX0_open_0 : decode cX0_open 0 = .ok (.aload_n 0, 1) := dk_42 (dk_at dksX0_open_0 0 rfl rfl)
theorem dX0_open_1 : decode cX0_open 1 = .ok (.iconst 0, 1) := dk_3 (dk_at dksX0_open_0 1 rfl rfl)
theorem dX0_open_2 : decode cX0_open 2 = .ok (.iload_n 1, 1) := dk_27 (dk_at dksX0_open_0 2 rfl rfl)
theorem dX0_open_3 : decode cX0_open 3 = .ok (.invokevirtual 45, 3) := dk_182 0 45 (dk_at dksX0_open_0 3 rfl rfl)
theorem dX0_open_6 : decode cX0_open 6 = .ok (.return_, 1) := dk_177 (dk_at dksX0_open_0 6 rfl rfl)
abbrev cX0_again : ByteArray := prog_6_method_9_code
def yX0_again : MethodName := ⟨RX0, "again", "()V"⟩
def dkwX0_again_1 : List UInt8 := [167, 255, 235, 177]
abbrev dktX0_again_1 : List UInt8 := dkwX0_again_1 ++ []
def dkwX0_again_0 : List UInt8 := [3, 60, 27, 16, 16, 162, 0, 21, 42, 180, 0, 13, 27, 42, 180, 0, 16, 27, 51, 84, 132, 1, 1]
abbrev dktX0_again_0 : List UInt8 := dkwX0_again_0 ++ dktX0_again_1
theorem dksX0_again_0 : cX0_again.data.toList.drop 0 = dktX0_again_0 := by decide +kernel
theorem dksX0_again_1 : cX0_again.data.toList.drop 23 = dktX0_again_1 := dk_seg dksX0_again_0 23 rfl rfl
theorem dX0_again_0 : decode cX0_again 0 = .ok (.iconst 0, 1) := dk_3 (dk_at dksX0_again_0 0 rfl rfl)
theorem dX0_again_1 : decode cX0_again 1 = .ok (.istore_n 1, 1) := dk_60 (dk_at dksX0_again_0 1 rfl rfl)
theorem dX0_again_2 : decode cX0_again 2 = .ok (.iload_n 1, 1) := dk_27 (dk_at dksX0_again_0 2 rfl rfl)
theorem dX0_again_3 : decode cX0_again 3 = .ok (.bipush 16, 2) := dk_16 16 (dk_at dksX0_again_0 3 rfl rfl)
theorem dX0_again_5 : decode cX0_again 5 = .ok (.if_icmp .ge 21, 3) := dk_162 0 21 (dk_at dksX0_again_0 5 rfl rfl)
theorem dX0_again_8 : decode cX0_again 8 = .ok (.aload_n 0, 1) := dk_42 (dk_at dksX0_again_0 8 rfl rfl)
theorem dX0_again_9 : decode cX0_again 9 = .ok (.getfield 13, 3) := dk_180 0 13 (dk_at dksX0_again_0 9 rfl rfl)
theorem dX0_again_12 : decode cX0_again 12 = .ok (.iload_n 1, 1) := dk_27 (dk_at dksX0_again_0 12 rfl rfl)
theorem dX0_again_13 : decode cX0_again 13 = .ok (.aload_n 0, 1) := dk_42 (dk_at dksX0_again_0 13 rfl rfl)
theorem dX0_again_14 : decode cX0_again 14 = .ok (.getfield 16, 3) := dk_180 0 16 (dk_at dksX0_again_0 14 rfl rfl)
theorem dX0_again_17 : decode cX0_again 17 = .ok (.iload_n 1, 1) := dk_27 (dk_at dksX0_again_0 17 rfl rfl)
theorem dX0_again_18 : decode cX0_again 18 = .ok (.baload, 1) := dk_51 (dk_at dksX0_again_0 18 rfl rfl)
theorem dX0_again_19 : decode cX0_again 19 = .ok (.bastore, 1) := dk_84 (dk_at dksX0_again_0 19 rfl rfl)
theorem dX0_again_20 : decode cX0_again 20 = .ok (.iinc 1 1, 3) := dk_132 1 1 (dk_at dksX0_again_0 20 rfl rfl)
theorem dX0_again_23 : decode cX0_again 23 = .ok (.goto (-21), 3) := dk_167 255 235 (dk_at dksX0_again_1 0 rfl rfl)
theorem dX0_again_26 : decode cX0_again 26 = .ok (.return_, 1) := dk_177 (dk_at dksX0_again_1 3 rfl rfl)
abbrev cX0_out : ByteArray := prog_6_method_10_code
def yX0_out : MethodName := ⟨RX0, "out", "(I)I"⟩
def dkwX0_out_0 : List UInt8 := [42, 180, 0, 16, 27, 16, 15, 126, 51, 17, 0, 255, 126, 172]
abbrev dktX0_out_0 : List UInt8 := dkwX0_out_0 ++ []
theorem dksX0_out_0 : cX0_out.data.toList.drop 0 = dktX0_out_0 := by decide +kernel
theorem dX0_out_0 : decode cX0_out 0 = .ok (.aload_n 0, 1) := dk_42 (dk_at dksX0_out_0 0 rfl rfl)
theorem dX0_out_1 : decode cX0_out 1 = .ok (.getfield 16, 3) := dk_180 0 16 (dk_at dksX0_out_0 1 rfl rfl)
theorem dX0_out_4 : decode cX0_out 4 = .ok (.iload_n 1, 1) := dk_27 (dk_at dksX0_out_0 4 rfl rfl)
theorem dX0_out_5 : decode cX0_out 5 = .ok (.bipush 15, 2) := dk_16 15 (dk_at dksX0_out_0 5 rfl rfl)
theorem dX0_out_7 : decode cX0_out 7 = .ok (.iand, 1) := dk_126 (dk_at dksX0_out_0 7 rfl rfl)
theorem dX0_out_8 : decode cX0_out 8 = .ok (.baload, 1) := dk_51 (dk_at dksX0_out_0 8 rfl rfl)
theorem dX0_out_9 : decode cX0_out 9 = .ok (.sipush 255, 3) := dk_17 0 255 (dk_at dksX0_out_0 9 rfl rfl)
theorem dX0_out_12 : decode cX0_out 12 = .ok (.iand, 1) := dk_126 (dk_at dksX0_out_0 12 rfl rfl)
theorem dX0_out_13 : decode cX0_out 13 = .ok (.ireturn, 1) := dk_172 (dk_at dksX0_out_0 13 rfl rfl)
theorem q7 : (Jvm.Cond.initialized "NoekeonDesk") ∈ lw_all := lw_g (lw_at lw_m1 1 rfl) rfl
theorem q24 : (Jvm.Cond.instantiable "NoekeonDesk" (3 : Nat)) ∈ lw_all := lw_g (lw_at lw_m1 18 rfl) rfl
theorem q26 : (Jvm.Cond.instanceMethod ({ cls := "NoekeonDesk", name := "<init>", desc := "()V" } : Jvm.MethodName)) ∈ lw_all := lw_g (lw_at lw_m1 20 rfl) rfl
theorem q27 : (Jvm.Cond.code ({ cls := "NoekeonDesk", name := "<init>", desc := "()V" } : Jvm.MethodName) prog_6_method_1_code (1 : Nat) (Option.none : Option Jvm.ClassFile.FieldType)) ∈ lw_all := lw_g (lw_at lw_m1 21 rfl) rfl
theorem q28 : (Jvm.Cond.methodLink "NoekeonDesk" (1 : Nat) ({ cls := "java/lang/Object", name := "<init>", desc := "()V" } : Jvm.MethodName)) ∈ lw_all := lw_g (lw_at lw_m1 22 rfl) rfl
theorem q31 : (Jvm.Cond.fieldLink "NoekeonDesk" (7 : Nat) "NoekeonDesk" "key" "[B") ∈ lw_all := lw_g (lw_at lw_m1 25 rfl) rfl
theorem q32 : (Jvm.Cond.fieldLink "NoekeonDesk" (13 : Nat) "NoekeonDesk" "block" "[B") ∈ lw_all := lw_g (lw_at lw_m1 26 rfl) rfl
theorem q33 : (Jvm.Cond.fieldLink "NoekeonDesk" (16 : Nat) "NoekeonDesk" "out" "[B") ∈ lw_all := lw_g (lw_at lw_m1 27 rfl) rfl
theorem q34 : (Jvm.Cond.laysFinal "NoekeonDesk" "NoekeonDesk" "key" "[B") ∈ lw_all := lw_g (lw_at lw_m1 28 rfl) rfl
theorem q35 : (Jvm.Cond.soleField "NoekeonDesk" "key") ∈ lw_all := lw_g (lw_at lw_m1 29 rfl) rfl
theorem q36 : (Jvm.Cond.laysFinal "NoekeonDesk" "NoekeonDesk" "block" "[B") ∈ lw_all := lw_g (lw_at lw_m1 30 rfl) rfl
theorem q37 : (Jvm.Cond.soleField "NoekeonDesk" "block") ∈ lw_all := lw_g (lw_at lw_m1 31 rfl) rfl
theorem q38 : (Jvm.Cond.laysFinal "NoekeonDesk" "NoekeonDesk" "out" "[B") ∈ lw_all := lw_g (lw_at lw_m1 32 rfl) rfl
theorem q39 : (Jvm.Cond.soleField "NoekeonDesk" "out") ∈ lw_all := lw_g (lw_at lw_m1 33 rfl) rfl
theorem q40 : (Jvm.Cond.superclass "NoekeonDesk" "java/lang/Object") ∈ lw_all := lw_g (lw_at lw_m1 34 rfl) rfl
theorem q43 : (Jvm.Cond.instanceMethod ({ cls := "NoekeonDesk", name := "key", desc := "(IIIII)V" } : Jvm.MethodName)) ∈ lw_all := lw_g (lw_at lw_m1 37 rfl) rfl
theorem q44 : (Jvm.Cond.selects "NoekeonDesk" ({ cls := "NoekeonDesk", name := "key", desc := "(IIIII)V" } : Jvm.MethodName) ({ cls := "NoekeonDesk", name := "key", desc := "(IIIII)V" } : Jvm.MethodName)) ∈ lw_all := lw_g (lw_at lw_m1 38 rfl) rfl
theorem q45 : (Jvm.Cond.code ({ cls := "NoekeonDesk", name := "key", desc := "(IIIII)V" } : Jvm.MethodName) prog_6_method_3_code (7 : Nat) (Option.none : Option Jvm.ClassFile.FieldType)) ∈ lw_all := lw_g (lw_at lw_m1 39 rfl) rfl
theorem q46 : (Jvm.Cond.methodLink "NoekeonDesk" (19 : Nat) ({ cls := "NoekeonDesk", name := "word", desc := "([BII)V" } : Jvm.MethodName)) ∈ lw_all := lw_g (lw_at lw_m1 40 rfl) rfl
theorem q47 : (Jvm.Cond.static ({ cls := "NoekeonDesk", name := "word", desc := "([BII)V" } : Jvm.MethodName)) ∈ lw_all := lw_g (lw_at lw_m1 41 rfl) rfl
theorem q48 : (Jvm.Cond.code ({ cls := "NoekeonDesk", name := "word", desc := "([BII)V" } : Jvm.MethodName) prog_6_method_2_code (3 : Nat) (Option.none : Option Jvm.ClassFile.FieldType)) ∈ lw_all := lw_g (lw_at lw_m1 42 rfl) rfl
theorem q50 : (Jvm.Cond.instanceMethod ({ cls := "NoekeonDesk", name := "block", desc := "(IIII)V" } : Jvm.MethodName)) ∈ lw_all := lw_g (lw_at lw_m1 44 rfl) rfl
theorem q51 : (Jvm.Cond.selects "NoekeonDesk" ({ cls := "NoekeonDesk", name := "block", desc := "(IIII)V" } : Jvm.MethodName) ({ cls := "NoekeonDesk", name := "block", desc := "(IIII)V" } : Jvm.MethodName)) ∈ lw_all := lw_g (lw_at lw_m1 45 rfl) rfl
theorem q52 : (Jvm.Cond.code ({ cls := "NoekeonDesk", name := "block", desc := "(IIII)V" } : Jvm.MethodName) prog_6_method_4_code (5 : Nat) (Option.none : Option Jvm.ClassFile.FieldType)) ∈ lw_all := lw_g (lw_at lw_m1 46 rfl) rfl
theorem q54 : (Jvm.Cond.instanceMethod ({ cls := "NoekeonDesk", name := "lock", desc := "(I)V" } : Jvm.MethodName)) ∈ lw_all := lw_g (lw_at lw_m1 48 rfl) rfl
theorem q55 : (Jvm.Cond.selects "NoekeonDesk" ({ cls := "NoekeonDesk", name := "lock", desc := "(I)V" } : Jvm.MethodName) ({ cls := "NoekeonDesk", name := "lock", desc := "(I)V" } : Jvm.MethodName)) ∈ lw_all := lw_g (lw_at lw_m1 49 rfl) rfl
theorem q56 : (Jvm.Cond.code ({ cls := "NoekeonDesk", name := "lock", desc := "(I)V" } : Jvm.MethodName) prog_6_method_7_code (2 : Nat) (Option.none : Option Jvm.ClassFile.FieldType)) ∈ lw_all := lw_g (lw_at lw_m1 50 rfl) rfl
theorem q57 : (Jvm.Cond.methodLink "NoekeonDesk" (45 : Nat) ({ cls := "NoekeonDesk", name := "run", desc := "(ZI)V" } : Jvm.MethodName)) ∈ lw_all := lw_g (lw_at lw_m1 51 rfl) rfl
theorem q58 : (Jvm.Cond.privateMethod ({ cls := "NoekeonDesk", name := "run", desc := "(ZI)V" } : Jvm.MethodName)) ∈ lw_tbl := lw_at lw_m1 52 rfl
theorem q59 : (Jvm.Cond.instanceMethod ({ cls := "NoekeonDesk", name := "run", desc := "(ZI)V" } : Jvm.MethodName)) ∈ lw_all := lw_g (lw_at lw_m1 53 rfl) rfl
theorem q60 : (Jvm.Cond.code ({ cls := "NoekeonDesk", name := "run", desc := "(ZI)V" } : Jvm.MethodName) prog_6_method_5_code (6 : Nat) (Option.none : Option Jvm.ClassFile.FieldType)) ∈ lw_all := lw_g (lw_at lw_m1 54 rfl) rfl
theorem q61 : (Jvm.Cond.methodLink "NoekeonDesk" (23 : Nat) ({ cls := "NoekeonDesk", name := "size", desc := "(I)I" } : Jvm.MethodName)) ∈ lw_all := lw_g (lw_at lw_m1 55 rfl) rfl
theorem q62 : (Jvm.Cond.static ({ cls := "NoekeonDesk", name := "size", desc := "(I)I" } : Jvm.MethodName)) ∈ lw_all := lw_g (lw_at lw_m1 56 rfl) rfl
theorem q63 : (Jvm.Cond.code ({ cls := "NoekeonDesk", name := "size", desc := "(I)I" } : Jvm.MethodName) prog_6_method_6_code (1 : Nat) (Option.some Jvm.ClassFile.FieldType.int)) ∈ lw_all := lw_g (lw_at lw_m1 57 rfl) rfl
theorem q64 : (Jvm.Cond.classLink "NoekeonDesk" (27 : Nat) "NoekeonEngine") ∈ lw_all := lw_g (lw_at lw_m1 58 rfl) rfl
theorem q66 : (Jvm.Cond.methodLink "NoekeonDesk" (29 : Nat) ({ cls := "NoekeonEngine", name := "<init>", desc := "()V" } : Jvm.MethodName)) ∈ lw_all := lw_g (lw_at lw_m1 60 rfl) rfl
theorem q81 : (Jvm.Cond.classLink "NoekeonDesk" (30 : Nat) "KeyParameter") ∈ lw_all := lw_g (lw_at lw_m1 75 rfl) rfl
theorem q83 : (Jvm.Cond.methodLink "NoekeonDesk" (32 : Nat) ({ cls := "KeyParameter", name := "<init>", desc := "([B)V" } : Jvm.MethodName)) ∈ lw_all := lw_g (lw_at lw_m1 77 rfl) rfl
theorem q100 : (Jvm.Cond.interfaceEntry "NoekeonDesk" (35 : Nat)) ∈ lw_tbl := lw_at lw_m1 94 rfl
theorem q101 : (Jvm.Cond.methodLink "NoekeonDesk" (35 : Nat) ({ cls := "BlockCipher", name := "init", desc := "(ZLCipherParameters;)V" } : Jvm.MethodName)) ∈ lw_all := lw_g (lw_at lw_m1 95 rfl) rfl
theorem q196 : (Jvm.Cond.interfaceEntry "NoekeonDesk" (41 : Nat)) ∈ lw_tbl := lw_at lw_m1 190 rfl
theorem q197 : (Jvm.Cond.methodLink "NoekeonDesk" (41 : Nat) ({ cls := "BlockCipher", name := "processBlock", desc := "([BI[BI)I" } : Jvm.MethodName)) ∈ lw_all := lw_g (lw_at lw_m1 191 rfl) rfl
theorem q272 : (Jvm.Cond.instanceMethod ({ cls := "NoekeonDesk", name := "open", desc := "(I)V" } : Jvm.MethodName)) ∈ lw_all := lw_g (lw_at lw_m2 26 rfl) rfl
theorem q273 : (Jvm.Cond.selects "NoekeonDesk" ({ cls := "NoekeonDesk", name := "open", desc := "(I)V" } : Jvm.MethodName) ({ cls := "NoekeonDesk", name := "open", desc := "(I)V" } : Jvm.MethodName)) ∈ lw_all := lw_g (lw_at lw_m2 27 rfl) rfl
theorem q274 : (Jvm.Cond.code ({ cls := "NoekeonDesk", name := "open", desc := "(I)V" } : Jvm.MethodName) prog_6_method_8_code (2 : Nat) (Option.none : Option Jvm.ClassFile.FieldType)) ∈ lw_all := lw_g (lw_at lw_m2 28 rfl) rfl
theorem q276 : (Jvm.Cond.instanceMethod ({ cls := "NoekeonDesk", name := "again", desc := "()V" } : Jvm.MethodName)) ∈ lw_all := lw_g (lw_at lw_m2 30 rfl) rfl
theorem q277 : (Jvm.Cond.selects "NoekeonDesk" ({ cls := "NoekeonDesk", name := "again", desc := "()V" } : Jvm.MethodName) ({ cls := "NoekeonDesk", name := "again", desc := "()V" } : Jvm.MethodName)) ∈ lw_all := lw_g (lw_at lw_m2 31 rfl) rfl
theorem q278 : (Jvm.Cond.code ({ cls := "NoekeonDesk", name := "again", desc := "()V" } : Jvm.MethodName) prog_6_method_9_code (2 : Nat) (Option.none : Option Jvm.ClassFile.FieldType)) ∈ lw_all := lw_g (lw_at lw_m2 32 rfl) rfl
theorem q280 : (Jvm.Cond.instanceMethod ({ cls := "NoekeonDesk", name := "out", desc := "(I)I" } : Jvm.MethodName)) ∈ lw_all := lw_g (lw_at lw_m2 34 rfl) rfl
theorem q281 : (Jvm.Cond.selects "NoekeonDesk" ({ cls := "NoekeonDesk", name := "out", desc := "(I)I" } : Jvm.MethodName) ({ cls := "NoekeonDesk", name := "out", desc := "(I)I" } : Jvm.MethodName)) ∈ lw_all := lw_g (lw_at lw_m2 35 rfl) rfl
theorem q282 : (Jvm.Cond.code ({ cls := "NoekeonDesk", name := "out", desc := "(I)I" } : Jvm.MethodName) prog_6_method_10_code (2 : Nat) (Option.some Jvm.ClassFile.FieldType.int)) ∈ lw_all := lw_g (lw_at lw_m2 36 rfl) rfl
theorem in_X0 : ∀ w ∈ wsX00, w ∈ lw_all := lw_in wsX00 [34, 36, 38] (by decide +kernel) (by decide +kernel)
end
section
/-! NoekeonDeskModel -/
set_option maxRecDepth 100000
def RX1 : String := "NoekeonDeskModel"
def TX1 : u_T := fun k => match k with
  | 0 => ("NoekeonDeskModel", "key", "[I", true)
  | 1 => ("NoekeonDeskModel", "block", "[I", true)
  | _ => ("NoekeonDeskModel", "out", "[I", true)
def tyX1 : Nat → FieldType := fun k => match k with
  | 0 => .array .int
  | 1 => .array .int
  | _ => .array .int
abbrev wsX10 : List Cond := u_ws RX1 TX1 3
theorem nmX1 : ∀ a, a < 3 → ∀ b, b < 3 → a ≠ b → (TX1 a).2.1 ≠ (TX1 b).2.1 := by decide +kernel
theorem tyX1_ok : ∀ k, k < 3 → parseFieldDescriptor (TX1 k).2.2.1 = some (tyX1 k) := by decide +kernel
abbrev cX1_init : ByteArray := prog_8_method_1_code
def yX1_init : MethodName := ⟨RX1, "<init>", "()V"⟩
def dkwX1_init_1 : List UInt8 := [188, 10, 181, 0, 16, 177]
abbrev dktX1_init_1 : List UInt8 := dkwX1_init_1 ++ []
def dkwX1_init_0 : List UInt8 := [42, 183, 0, 1, 42, 16, 32, 188, 10, 181, 0, 7, 42, 16, 16, 188, 10, 181, 0, 13, 42, 16, 16]
abbrev dktX1_init_0 : List UInt8 := dkwX1_init_0 ++ dktX1_init_1
theorem dksX1_init_0 : cX1_init.data.toList.drop 0 = dktX1_init_0 := by decide +kernel
theorem dksX1_init_1 : cX1_init.data.toList.drop 23 = dktX1_init_1 := dk_seg dksX1_init_0 23 rfl rfl
theorem dX1_init_0 : decode cX1_init 0 = .ok (.aload_n 0, 1) := dk_42 (dk_at dksX1_init_0 0 rfl rfl)
theorem dX1_init_1 : decode cX1_init 1 = .ok (.invokespecial 1, 3) := dk_183 0 1 (dk_at dksX1_init_0 1 rfl rfl)
theorem dX1_init_4 : decode cX1_init 4 = .ok (.aload_n 0, 1) := dk_42 (dk_at dksX1_init_0 4 rfl rfl)
theorem dX1_init_5 : decode cX1_init 5 = .ok (.bipush 32, 2) := dk_16 32 (dk_at dksX1_init_0 5 rfl rfl)
theorem dX1_init_7 : decode cX1_init 7 = .ok (.newarray .int, 2) := dk_188_10 (dk_at dksX1_init_0 7 rfl rfl)
theorem dX1_init_9 : decode cX1_init 9 = .ok (.putfield 7, 3) := dk_181 0 7 (dk_at dksX1_init_0 9 rfl rfl)
theorem dX1_init_12 : decode cX1_init 12 = .ok (.aload_n 0, 1) := dk_42 (dk_at dksX1_init_0 12 rfl rfl)
theorem dX1_init_13 : decode cX1_init 13 = .ok (.bipush 16, 2) := dk_16 16 (dk_at dksX1_init_0 13 rfl rfl)
theorem dX1_init_15 : decode cX1_init 15 = .ok (.newarray .int, 2) := dk_188_10 (dk_at dksX1_init_0 15 rfl rfl)
theorem dX1_init_17 : decode cX1_init 17 = .ok (.putfield 13, 3) := dk_181 0 13 (dk_at dksX1_init_0 17 rfl rfl)
theorem dX1_init_20 : decode cX1_init 20 = .ok (.aload_n 0, 1) := dk_42 (dk_at dksX1_init_0 20 rfl rfl)
theorem dX1_init_21 : decode cX1_init 21 = .ok (.bipush 16, 2) := dk_16 16 (dk_at dksX1_init_0 21 rfl rfl)
theorem dX1_init_23 : decode cX1_init 23 = .ok (.newarray .int, 2) := dk_188_10 (dk_at dksX1_init_1 0 rfl rfl)
theorem dX1_init_25 : decode cX1_init 25 = .ok (.putfield 16, 3) := dk_181 0 16 (dk_at dksX1_init_1 2 rfl rfl)
theorem dX1_init_28 : decode cX1_init 28 = .ok (.return_, 1) := dk_177 (dk_at dksX1_init_1 5 rfl rfl)
abbrev cX1_key : ByteArray := prog_8_method_3_code
def yX1_key : MethodName := ⟨RX1, "key", "(IIIII)V"⟩
def dkwX1_key_2 : List UInt8 := [21, 6, 16, 12, 96, 21, 5, 184, 0, 19, 177]
abbrev dktX1_key_2 : List UInt8 := dkwX1_key_2 ++ []
def dkwX1_key_1 : List UInt8 := [96, 29, 184, 0, 19, 42, 180, 0, 7, 21, 6, 16, 8, 96, 21, 4, 184, 0, 19, 42, 180, 0, 7]
abbrev dktX1_key_1 : List UInt8 := dkwX1_key_1 ++ dktX1_key_2
def dkwX1_key_0 : List UInt8 := [27, 4, 126, 7, 120, 54, 6, 42, 180, 0, 7, 21, 6, 28, 184, 0, 19, 42, 180, 0, 7, 21, 6, 7]
abbrev dktX1_key_0 : List UInt8 := dkwX1_key_0 ++ dktX1_key_1
theorem dksX1_key_0 : cX1_key.data.toList.drop 0 = dktX1_key_0 := by decide +kernel
theorem dksX1_key_1 : cX1_key.data.toList.drop 24 = dktX1_key_1 := dk_seg dksX1_key_0 24 rfl rfl
theorem dksX1_key_2 : cX1_key.data.toList.drop 47 = dktX1_key_2 := dk_seg dksX1_key_1 23 rfl rfl
theorem dX1_key_0 : decode cX1_key 0 = .ok (.iload_n 1, 1) := dk_27 (dk_at dksX1_key_0 0 rfl rfl)
theorem dX1_key_1 : decode cX1_key 1 = .ok (.iconst 1, 1) := dk_4 (dk_at dksX1_key_0 1 rfl rfl)
theorem dX1_key_2 : decode cX1_key 2 = .ok (.iand, 1) := dk_126 (dk_at dksX1_key_0 2 rfl rfl)
theorem dX1_key_3 : decode cX1_key 3 = .ok (.iconst 4, 1) := dk_7 (dk_at dksX1_key_0 3 rfl rfl)
theorem dX1_key_4 : decode cX1_key 4 = .ok (.ishl, 1) := dk_120 (dk_at dksX1_key_0 4 rfl rfl)
theorem dX1_key_5 : decode cX1_key 5 = .ok (.istore 6, 2) := dk_54 6 (dk_at dksX1_key_0 5 rfl rfl)
theorem dX1_key_7 : decode cX1_key 7 = .ok (.aload_n 0, 1) := dk_42 (dk_at dksX1_key_0 7 rfl rfl)
theorem dX1_key_8 : decode cX1_key 8 = .ok (.getfield 7, 3) := dk_180 0 7 (dk_at dksX1_key_0 8 rfl rfl)
theorem dX1_key_11 : decode cX1_key 11 = .ok (.iload 6, 2) := dk_21 6 (dk_at dksX1_key_0 11 rfl rfl)
theorem dX1_key_13 : decode cX1_key 13 = .ok (.iload_n 2, 1) := dk_28 (dk_at dksX1_key_0 13 rfl rfl)
theorem dX1_key_14 : decode cX1_key 14 = .ok (.invokestatic 19, 3) := dk_184 0 19 (dk_at dksX1_key_0 14 rfl rfl)
theorem dX1_key_17 : decode cX1_key 17 = .ok (.aload_n 0, 1) := dk_42 (dk_at dksX1_key_0 17 rfl rfl)
theorem dX1_key_18 : decode cX1_key 18 = .ok (.getfield 7, 3) := dk_180 0 7 (dk_at dksX1_key_0 18 rfl rfl)
theorem dX1_key_21 : decode cX1_key 21 = .ok (.iload 6, 2) := dk_21 6 (dk_at dksX1_key_0 21 rfl rfl)
theorem dX1_key_23 : decode cX1_key 23 = .ok (.iconst 4, 1) := dk_7 (dk_at dksX1_key_0 23 rfl rfl)
theorem dX1_key_24 : decode cX1_key 24 = .ok (.iadd, 1) := dk_96 (dk_at dksX1_key_1 0 rfl rfl)
theorem dX1_key_25 : decode cX1_key 25 = .ok (.iload_n 3, 1) := dk_29 (dk_at dksX1_key_1 1 rfl rfl)
theorem dX1_key_26 : decode cX1_key 26 = .ok (.invokestatic 19, 3) := dk_184 0 19 (dk_at dksX1_key_1 2 rfl rfl)
theorem dX1_key_29 : decode cX1_key 29 = .ok (.aload_n 0, 1) := dk_42 (dk_at dksX1_key_1 5 rfl rfl)
theorem dX1_key_30 : decode cX1_key 30 = .ok (.getfield 7, 3) := dk_180 0 7 (dk_at dksX1_key_1 6 rfl rfl)
theorem dX1_key_33 : decode cX1_key 33 = .ok (.iload 6, 2) := dk_21 6 (dk_at dksX1_key_1 9 rfl rfl)
theorem dX1_key_35 : decode cX1_key 35 = .ok (.bipush 8, 2) := dk_16 8 (dk_at dksX1_key_1 11 rfl rfl)
theorem dX1_key_37 : decode cX1_key 37 = .ok (.iadd, 1) := dk_96 (dk_at dksX1_key_1 13 rfl rfl)
theorem dX1_key_38 : decode cX1_key 38 = .ok (.iload 4, 2) := dk_21 4 (dk_at dksX1_key_1 14 rfl rfl)
theorem dX1_key_40 : decode cX1_key 40 = .ok (.invokestatic 19, 3) := dk_184 0 19 (dk_at dksX1_key_1 16 rfl rfl)
theorem dX1_key_43 : decode cX1_key 43 = .ok (.aload_n 0, 1) := dk_42 (dk_at dksX1_key_1 19 rfl rfl)
theorem dX1_key_44 : decode cX1_key 44 = .ok (.getfield 7, 3) := dk_180 0 7 (dk_at dksX1_key_1 20 rfl rfl)
theorem dX1_key_47 : decode cX1_key 47 = .ok (.iload 6, 2) := dk_21 6 (dk_at dksX1_key_2 0 rfl rfl)
theorem dX1_key_49 : decode cX1_key 49 = .ok (.bipush 12, 2) := dk_16 12 (dk_at dksX1_key_2 2 rfl rfl)
theorem dX1_key_51 : decode cX1_key 51 = .ok (.iadd, 1) := dk_96 (dk_at dksX1_key_2 4 rfl rfl)
theorem dX1_key_52 : decode cX1_key 52 = .ok (.iload 5, 2) := dk_21 5 (dk_at dksX1_key_2 5 rfl rfl)
theorem dX1_key_54 : decode cX1_key 54 = .ok (.invokestatic 19, 3) := dk_184 0 19 (dk_at dksX1_key_2 7 rfl rfl)
theorem dX1_key_57 : decode cX1_key 57 = .ok (.return_, 1) := dk_177 (dk_at dksX1_key_2 10 rfl rfl)
abbrev cX1_word : ByteArray := prog_8_method_2_code
def yX1_word : MethodName := ⟨RX1, "word", "([III)V"⟩
def dkwX1_word_1 : List UInt8 := [79, 132, 3, 1, 167, 255, 230, 177]
abbrev dktX1_word_1 : List UInt8 := dkwX1_word_1 ++ []
def dkwX1_word_0 : List UInt8 := [3, 62, 29, 7, 162, 0, 27, 42, 27, 29, 96, 28, 16, 24, 16, 8, 29, 104, 100, 122, 17, 0, 255, 126]
abbrev dktX1_word_0 : List UInt8 := dkwX1_word_0 ++ dktX1_word_1
theorem dksX1_word_0 : cX1_word.data.toList.drop 0 = dktX1_word_0 := by decide +kernel
theorem dksX1_word_1 : cX1_word.data.toList.drop 24 = dktX1_word_1 := dk_seg dksX1_word_0 24 rfl rfl
theorem dX1_word_0 : decode cX1_word 0 = .ok (.iconst 0, 1) := dk_3 (dk_at dksX1_word_0 0 rfl rfl)
theorem dX1_word_1 : decode cX1_word 1 = .ok (.istore_n 3, 1) := dk_62 (dk_at dksX1_word_0 1 rfl rfl)
theorem dX1_word_2 : decode cX1_word 2 = .ok (.iload_n 3, 1) := dk_29 (dk_at dksX1_word_0 2 rfl rfl)
theorem dX1_word_3 : decode cX1_word 3 = .ok (.iconst 4, 1) := dk_7 (dk_at dksX1_word_0 3 rfl rfl)
theorem dX1_word_4 : decode cX1_word 4 = .ok (.if_icmp .ge 27, 3) := dk_162 0 27 (dk_at dksX1_word_0 4 rfl rfl)
theorem dX1_word_7 : decode cX1_word 7 = .ok (.aload_n 0, 1) := dk_42 (dk_at dksX1_word_0 7 rfl rfl)
theorem dX1_word_8 : decode cX1_word 8 = .ok (.iload_n 1, 1) := dk_27 (dk_at dksX1_word_0 8 rfl rfl)
theorem dX1_word_9 : decode cX1_word 9 = .ok (.iload_n 3, 1) := dk_29 (dk_at dksX1_word_0 9 rfl rfl)
theorem dX1_word_10 : decode cX1_word 10 = .ok (.iadd, 1) := dk_96 (dk_at dksX1_word_0 10 rfl rfl)
theorem dX1_word_11 : decode cX1_word 11 = .ok (.iload_n 2, 1) := dk_28 (dk_at dksX1_word_0 11 rfl rfl)
theorem dX1_word_12 : decode cX1_word 12 = .ok (.bipush 24, 2) := dk_16 24 (dk_at dksX1_word_0 12 rfl rfl)
theorem dX1_word_14 : decode cX1_word 14 = .ok (.bipush 8, 2) := dk_16 8 (dk_at dksX1_word_0 14 rfl rfl)
theorem dX1_word_16 : decode cX1_word 16 = .ok (.iload_n 3, 1) := dk_29 (dk_at dksX1_word_0 16 rfl rfl)
theorem dX1_word_17 : decode cX1_word 17 = .ok (.imul, 1) := dk_104 (dk_at dksX1_word_0 17 rfl rfl)
theorem dX1_word_18 : decode cX1_word 18 = .ok (.isub, 1) := dk_100 (dk_at dksX1_word_0 18 rfl rfl)
theorem dX1_word_19 : decode cX1_word 19 = .ok (.ishr, 1) := dk_122 (dk_at dksX1_word_0 19 rfl rfl)
theorem dX1_word_20 : decode cX1_word 20 = .ok (.sipush 255, 3) := dk_17 0 255 (dk_at dksX1_word_0 20 rfl rfl)
theorem dX1_word_23 : decode cX1_word 23 = .ok (.iand, 1) := dk_126 (dk_at dksX1_word_0 23 rfl rfl)
theorem dX1_word_24 : decode cX1_word 24 = .ok (.iastore, 1) := dk_79 (dk_at dksX1_word_1 0 rfl rfl)
theorem dX1_word_25 : decode cX1_word 25 = .ok (.iinc 3 1, 3) := dk_132 3 1 (dk_at dksX1_word_1 1 rfl rfl)
theorem dX1_word_28 : decode cX1_word 28 = .ok (.goto (-26), 3) := dk_167 255 230 (dk_at dksX1_word_1 4 rfl rfl)
theorem dX1_word_31 : decode cX1_word 31 = .ok (.return_, 1) := dk_177 (dk_at dksX1_word_1 7 rfl rfl)
abbrev cX1_block : ByteArray := prog_8_method_4_code
def yX1_block : MethodName := ⟨RX1, "block", "(IIII)V"⟩
def dkwX1_block_1 : List UInt8 := [29, 184, 0, 19, 42, 180, 0, 13, 16, 12, 21, 4, 184, 0, 19, 177]
abbrev dktX1_block_1 : List UInt8 := dkwX1_block_1 ++ []
def dkwX1_block_0 : List UInt8 := [42, 180, 0, 13, 3, 27, 184, 0, 19, 42, 180, 0, 13, 7, 28, 184, 0, 19, 42, 180, 0, 13, 16, 8]
abbrev dktX1_block_0 : List UInt8 := dkwX1_block_0 ++ dktX1_block_1
theorem dksX1_block_0 : cX1_block.data.toList.drop 0 = dktX1_block_0 := by decide +kernel
theorem dksX1_block_1 : cX1_block.data.toList.drop 24 = dktX1_block_1 := dk_seg dksX1_block_0 24 rfl rfl
theorem dX1_block_0 : decode cX1_block 0 = .ok (.aload_n 0, 1) := dk_42 (dk_at dksX1_block_0 0 rfl rfl)
theorem dX1_block_1 : decode cX1_block 1 = .ok (.getfield 13, 3) := dk_180 0 13 (dk_at dksX1_block_0 1 rfl rfl)
theorem dX1_block_4 : decode cX1_block 4 = .ok (.iconst 0, 1) := dk_3 (dk_at dksX1_block_0 4 rfl rfl)
theorem dX1_block_5 : decode cX1_block 5 = .ok (.iload_n 1, 1) := dk_27 (dk_at dksX1_block_0 5 rfl rfl)
theorem dX1_block_6 : decode cX1_block 6 = .ok (.invokestatic 19, 3) := dk_184 0 19 (dk_at dksX1_block_0 6 rfl rfl)
theorem dX1_block_9 : decode cX1_block 9 = .ok (.aload_n 0, 1) := dk_42 (dk_at dksX1_block_0 9 rfl rfl)
theorem dX1_block_10 : decode cX1_block 10 = .ok (.getfield 13, 3) := dk_180 0 13 (dk_at dksX1_block_0 10 rfl rfl)
theorem dX1_block_13 : decode cX1_block 13 = .ok (.iconst 4, 1) := dk_7 (dk_at dksX1_block_0 13 rfl rfl)
theorem dX1_block_14 : decode cX1_block 14 = .ok (.iload_n 2, 1) := dk_28 (dk_at dksX1_block_0 14 rfl rfl)
theorem dX1_block_15 : decode cX1_block 15 = .ok (.invokestatic 19, 3) := dk_184 0 19 (dk_at dksX1_block_0 15 rfl rfl)
theorem dX1_block_18 : decode cX1_block 18 = .ok (.aload_n 0, 1) := dk_42 (dk_at dksX1_block_0 18 rfl rfl)
theorem dX1_block_19 : decode cX1_block 19 = .ok (.getfield 13, 3) := dk_180 0 13 (dk_at dksX1_block_0 19 rfl rfl)
theorem dX1_block_22 : decode cX1_block 22 = .ok (.bipush 8, 2) := dk_16 8 (dk_at dksX1_block_0 22 rfl rfl)
theorem dX1_block_24 : decode cX1_block 24 = .ok (.iload_n 3, 1) := dk_29 (dk_at dksX1_block_1 0 rfl rfl)
theorem dX1_block_25 : decode cX1_block 25 = .ok (.invokestatic 19, 3) := dk_184 0 19 (dk_at dksX1_block_1 1 rfl rfl)
theorem dX1_block_28 : decode cX1_block 28 = .ok (.aload_n 0, 1) := dk_42 (dk_at dksX1_block_1 4 rfl rfl)
theorem dX1_block_29 : decode cX1_block 29 = .ok (.getfield 13, 3) := dk_180 0 13 (dk_at dksX1_block_1 5 rfl rfl)
theorem dX1_block_32 : decode cX1_block 32 = .ok (.bipush 12, 2) := dk_16 12 (dk_at dksX1_block_1 8 rfl rfl)
theorem dX1_block_34 : decode cX1_block 34 = .ok (.iload 4, 2) := dk_21 4 (dk_at dksX1_block_1 10 rfl rfl)
theorem dX1_block_36 : decode cX1_block 36 = .ok (.invokestatic 19, 3) := dk_184 0 19 (dk_at dksX1_block_1 12 rfl rfl)
theorem dX1_block_39 : decode cX1_block 39 = .ok (.return_, 1) := dk_177 (dk_at dksX1_block_1 15 rfl rfl)
abbrev cX1_lock : ByteArray := prog_8_method_15_code
def yX1_lock : MethodName := ⟨RX1, "lock", "(I)V"⟩
def dkwX1_lock_2 : List UInt8 := [184, 0, 51, 130, 79, 44, 45, 184, 0, 31, 42, 45, 182, 0, 58, 177]
abbrev dktX1_lock_2 : List UInt8 := dkwX1_lock_2 ++ []
def dkwX1_lock_1 : List UInt8 := [45, 21, 4, 184, 0, 51, 3, 184, 0, 54, 132, 4, 1, 167, 255, 235, 45, 3, 92, 46, 16, 16]
abbrev dktX1_lock_1 : List UInt8 := dkwX1_lock_1 ++ dktX1_lock_2
def dkwX1_lock_0 : List UInt8 := [42, 182, 0, 47, 77, 42, 180, 0, 13, 184, 0, 43, 78, 3, 54, 4, 21, 4, 16, 16, 162, 0, 20, 44]
abbrev dktX1_lock_0 : List UInt8 := dkwX1_lock_0 ++ dktX1_lock_1
theorem dksX1_lock_0 : cX1_lock.data.toList.drop 0 = dktX1_lock_0 := by decide +kernel
theorem dksX1_lock_1 : cX1_lock.data.toList.drop 24 = dktX1_lock_1 := dk_seg dksX1_lock_0 24 rfl rfl
theorem dksX1_lock_2 : cX1_lock.data.toList.drop 46 = dktX1_lock_2 := dk_seg dksX1_lock_1 22 rfl rfl
theorem dX1_lock_0 : decode cX1_lock 0 = .ok (.aload_n 0, 1) := dk_42 (dk_at dksX1_lock_0 0 rfl rfl)
theorem dX1_lock_1 : decode cX1_lock 1 = .ok (.invokevirtual 47, 3) := dk_182 0 47 (dk_at dksX1_lock_0 1 rfl rfl)
theorem dX1_lock_4 : decode cX1_lock 4 = .ok (.astore_n 2, 1) := dk_77 (dk_at dksX1_lock_0 4 rfl rfl)
theorem dX1_lock_5 : decode cX1_lock 5 = .ok (.aload_n 0, 1) := dk_42 (dk_at dksX1_lock_0 5 rfl rfl)
theorem dX1_lock_6 : decode cX1_lock 6 = .ok (.getfield 13, 3) := dk_180 0 13 (dk_at dksX1_lock_0 6 rfl rfl)
theorem dX1_lock_9 : decode cX1_lock 9 = .ok (.invokestatic 43, 3) := dk_184 0 43 (dk_at dksX1_lock_0 9 rfl rfl)
theorem dX1_lock_12 : decode cX1_lock 12 = .ok (.astore_n 3, 1) := dk_78 (dk_at dksX1_lock_0 12 rfl rfl)
theorem dX1_lock_13 : decode cX1_lock 13 = .ok (.iconst 0, 1) := dk_3 (dk_at dksX1_lock_0 13 rfl rfl)
theorem dX1_lock_14 : decode cX1_lock 14 = .ok (.istore 4, 2) := dk_54 4 (dk_at dksX1_lock_0 14 rfl rfl)
theorem dX1_lock_16 : decode cX1_lock 16 = .ok (.iload 4, 2) := dk_21 4 (dk_at dksX1_lock_0 16 rfl rfl)
theorem dX1_lock_18 : decode cX1_lock 18 = .ok (.bipush 16, 2) := dk_16 16 (dk_at dksX1_lock_0 18 rfl rfl)
theorem dX1_lock_20 : decode cX1_lock 20 = .ok (.if_icmp .ge 20, 3) := dk_162 0 20 (dk_at dksX1_lock_0 20 rfl rfl)
theorem dX1_lock_23 : decode cX1_lock 23 = .ok (.aload_n 2, 1) := dk_44 (dk_at dksX1_lock_0 23 rfl rfl)
theorem dX1_lock_24 : decode cX1_lock 24 = .ok (.aload_n 3, 1) := dk_45 (dk_at dksX1_lock_1 0 rfl rfl)
theorem dX1_lock_25 : decode cX1_lock 25 = .ok (.iload 4, 2) := dk_21 4 (dk_at dksX1_lock_1 1 rfl rfl)
theorem dX1_lock_27 : decode cX1_lock 27 = .ok (.invokestatic 51, 3) := dk_184 0 51 (dk_at dksX1_lock_1 3 rfl rfl)
theorem dX1_lock_30 : decode cX1_lock 30 = .ok (.iconst 0, 1) := dk_3 (dk_at dksX1_lock_1 6 rfl rfl)
theorem dX1_lock_31 : decode cX1_lock 31 = .ok (.invokestatic 54, 3) := dk_184 0 54 (dk_at dksX1_lock_1 7 rfl rfl)
theorem dX1_lock_34 : decode cX1_lock 34 = .ok (.iinc 4 1, 3) := dk_132 4 1 (dk_at dksX1_lock_1 10 rfl rfl)
theorem dX1_lock_37 : decode cX1_lock 37 = .ok (.goto (-21), 3) := dk_167 255 235 (dk_at dksX1_lock_1 13 rfl rfl)
theorem dX1_lock_40 : decode cX1_lock 40 = .ok (.aload_n 3, 1) := dk_45 (dk_at dksX1_lock_1 16 rfl rfl)
theorem dX1_lock_41 : decode cX1_lock 41 = .ok (.iconst 0, 1) := dk_3 (dk_at dksX1_lock_1 17 rfl rfl)
theorem dX1_lock_42 : decode cX1_lock 42 = .ok (.dup2, 1) := dk_92 (dk_at dksX1_lock_1 18 rfl rfl)
theorem dX1_lock_43 : decode cX1_lock 43 = .ok (.iaload, 1) := dk_46 (dk_at dksX1_lock_1 19 rfl rfl)
theorem dX1_lock_44 : decode cX1_lock 44 = .ok (.bipush 16, 2) := dk_16 16 (dk_at dksX1_lock_1 20 rfl rfl)
theorem dX1_lock_46 : decode cX1_lock 46 = .ok (.invokestatic 51, 3) := dk_184 0 51 (dk_at dksX1_lock_2 0 rfl rfl)
theorem dX1_lock_49 : decode cX1_lock 49 = .ok (.ixor, 1) := dk_130 (dk_at dksX1_lock_2 3 rfl rfl)
theorem dX1_lock_50 : decode cX1_lock 50 = .ok (.iastore, 1) := dk_79 (dk_at dksX1_lock_2 4 rfl rfl)
theorem dX1_lock_51 : decode cX1_lock 51 = .ok (.aload_n 2, 1) := dk_44 (dk_at dksX1_lock_2 5 rfl rfl)
theorem dX1_lock_52 : decode cX1_lock 52 = .ok (.aload_n 3, 1) := dk_45 (dk_at dksX1_lock_2 6 rfl rfl)
theorem dX1_lock_53 : decode cX1_lock 53 = .ok (.invokestatic 31, 3) := dk_184 0 31 (dk_at dksX1_lock_2 7 rfl rfl)
theorem dX1_lock_56 : decode cX1_lock 56 = .ok (.aload_n 0, 1) := dk_42 (dk_at dksX1_lock_2 10 rfl rfl)
theorem dX1_lock_57 : decode cX1_lock 57 = .ok (.aload_n 3, 1) := dk_45 (dk_at dksX1_lock_2 11 rfl rfl)
theorem dX1_lock_58 : decode cX1_lock 58 = .ok (.invokevirtual 58, 3) := dk_182 0 58 (dk_at dksX1_lock_2 12 rfl rfl)
theorem dX1_lock_61 : decode cX1_lock 61 = .ok (.return_, 1) := dk_177 (dk_at dksX1_lock_2 15 rfl rfl)
abbrev cX1_cut : ByteArray := prog_8_method_14_code
def yX1_cut : MethodName := ⟨RX1, "cut", "()[I"⟩
def dkwX1_cut_1 : List UInt8 := [132, 2, 1, 167, 255, 238, 43, 184, 0, 43, 176]
abbrev dktX1_cut_1 : List UInt8 := dkwX1_cut_1 ++ []
def dkwX1_cut_0 : List UInt8 := [16, 16, 188, 10, 76, 3, 61, 28, 16, 16, 162, 0, 18, 43, 28, 42, 180, 0, 7, 28, 46, 79]
abbrev dktX1_cut_0 : List UInt8 := dkwX1_cut_0 ++ dktX1_cut_1
theorem dksX1_cut_0 : cX1_cut.data.toList.drop 0 = dktX1_cut_0 := by decide +kernel
theorem dksX1_cut_1 : cX1_cut.data.toList.drop 22 = dktX1_cut_1 := dk_seg dksX1_cut_0 22 rfl rfl
theorem dX1_cut_0 : decode cX1_cut 0 = .ok (.bipush 16, 2) := dk_16 16 (dk_at dksX1_cut_0 0 rfl rfl)
theorem dX1_cut_2 : decode cX1_cut 2 = .ok (.newarray .int, 2) := dk_188_10 (dk_at dksX1_cut_0 2 rfl rfl)
theorem dX1_cut_4 : decode cX1_cut 4 = .ok (.astore_n 1, 1) := dk_76 (dk_at dksX1_cut_0 4 rfl rfl)
theorem dX1_cut_5 : decode cX1_cut 5 = .ok (.iconst 0, 1) := dk_3 (dk_at dksX1_cut_0 5 rfl rfl)
theorem dX1_cut_6 : decode cX1_cut 6 = .ok (.istore_n 2, 1) := dk_61 (dk_at dksX1_cut_0 6 rfl rfl)
theorem dX1_cut_7 : decode cX1_cut 7 = .ok (.iload_n 2, 1) := dk_28 (dk_at dksX1_cut_0 7 rfl rfl)
theorem dX1_cut_8 : decode cX1_cut 8 = .ok (.bipush 16, 2) := dk_16 16 (dk_at dksX1_cut_0 8 rfl rfl)
theorem dX1_cut_10 : decode cX1_cut 10 = .ok (.if_icmp .ge 18, 3) := dk_162 0 18 (dk_at dksX1_cut_0 10 rfl rfl)
theorem dX1_cut_13 : decode cX1_cut 13 = .ok (.aload_n 1, 1) := dk_43 (dk_at dksX1_cut_0 13 rfl rfl)
theorem dX1_cut_14 : decode cX1_cut 14 = .ok (.iload_n 2, 1) := dk_28 (dk_at dksX1_cut_0 14 rfl rfl)
theorem dX1_cut_15 : decode cX1_cut 15 = .ok (.aload_n 0, 1) := dk_42 (dk_at dksX1_cut_0 15 rfl rfl)
theorem dX1_cut_16 : decode cX1_cut 16 = .ok (.getfield 7, 3) := dk_180 0 7 (dk_at dksX1_cut_0 16 rfl rfl)
theorem dX1_cut_19 : decode cX1_cut 19 = .ok (.iload_n 2, 1) := dk_28 (dk_at dksX1_cut_0 19 rfl rfl)
theorem dX1_cut_20 : decode cX1_cut 20 = .ok (.iaload, 1) := dk_46 (dk_at dksX1_cut_0 20 rfl rfl)
theorem dX1_cut_21 : decode cX1_cut 21 = .ok (.iastore, 1) := dk_79 (dk_at dksX1_cut_0 21 rfl rfl)
theorem dX1_cut_22 : decode cX1_cut 22 = .ok (.iinc 2 1, 3) := dk_132 2 1 (dk_at dksX1_cut_1 0 rfl rfl)
theorem dX1_cut_25 : decode cX1_cut 25 = .ok (.goto (-18), 3) := dk_167 255 238 (dk_at dksX1_cut_1 3 rfl rfl)
theorem dX1_cut_28 : decode cX1_cut 28 = .ok (.aload_n 1, 1) := dk_43 (dk_at dksX1_cut_1 6 rfl rfl)
theorem dX1_cut_29 : decode cX1_cut 29 = .ok (.invokestatic 43, 3) := dk_184 0 43 (dk_at dksX1_cut_1 7 rfl rfl)
theorem dX1_cut_32 : decode cX1_cut 32 = .ok (.areturn, 1) := dk_176 (dk_at dksX1_cut_1 10 rfl rfl)
abbrev cX1_words : ByteArray := prog_8_method_6_code
def yX1_words : MethodName := ⟨RX1, "words", "([I)[I"⟩
def dkwX1_words_2 : List UInt8 := [96, 46, 128, 79, 132, 2, 1, 167, 255, 207, 43, 176]
abbrev dktX1_words_2 : List UInt8 := dkwX1_words_2 ++ []
def dkwX1_words_1 : List UInt8 := [104, 4, 96, 46, 16, 16, 120, 128, 42, 7, 28, 104, 5, 96, 46, 16, 8, 120, 128, 42, 7, 28, 104, 6]
abbrev dktX1_words_1 : List UInt8 := dkwX1_words_1 ++ dktX1_words_2
def dkwX1_words_0 : List UInt8 := [7, 188, 10, 76, 3, 61, 28, 7, 162, 0, 50, 43, 28, 42, 7, 28, 104, 46, 16, 24, 120, 42, 7, 28]
abbrev dktX1_words_0 : List UInt8 := dkwX1_words_0 ++ dktX1_words_1
theorem dksX1_words_0 : cX1_words.data.toList.drop 0 = dktX1_words_0 := by decide +kernel
theorem dksX1_words_1 : cX1_words.data.toList.drop 24 = dktX1_words_1 := dk_seg dksX1_words_0 24 rfl rfl
theorem dksX1_words_2 : cX1_words.data.toList.drop 48 = dktX1_words_2 := dk_seg dksX1_words_1 24 rfl rfl
theorem dX1_words_0 : decode cX1_words 0 = .ok (.iconst 4, 1) := dk_7 (dk_at dksX1_words_0 0 rfl rfl)
theorem dX1_words_1 : decode cX1_words 1 = .ok (.newarray .int, 2) := dk_188_10 (dk_at dksX1_words_0 1 rfl rfl)
theorem dX1_words_3 : decode cX1_words 3 = .ok (.astore_n 1, 1) := dk_76 (dk_at dksX1_words_0 3 rfl rfl)
theorem dX1_words_4 : decode cX1_words 4 = .ok (.iconst 0, 1) := dk_3 (dk_at dksX1_words_0 4 rfl rfl)
theorem dX1_words_5 : decode cX1_words 5 = .ok (.istore_n 2, 1) := dk_61 (dk_at dksX1_words_0 5 rfl rfl)
theorem dX1_words_6 : decode cX1_words 6 = .ok (.iload_n 2, 1) := dk_28 (dk_at dksX1_words_0 6 rfl rfl)
theorem dX1_words_7 : decode cX1_words 7 = .ok (.iconst 4, 1) := dk_7 (dk_at dksX1_words_0 7 rfl rfl)
theorem dX1_words_8 : decode cX1_words 8 = .ok (.if_icmp .ge 50, 3) := dk_162 0 50 (dk_at dksX1_words_0 8 rfl rfl)
theorem dX1_words_11 : decode cX1_words 11 = .ok (.aload_n 1, 1) := dk_43 (dk_at dksX1_words_0 11 rfl rfl)
theorem dX1_words_12 : decode cX1_words 12 = .ok (.iload_n 2, 1) := dk_28 (dk_at dksX1_words_0 12 rfl rfl)
theorem dX1_words_13 : decode cX1_words 13 = .ok (.aload_n 0, 1) := dk_42 (dk_at dksX1_words_0 13 rfl rfl)
theorem dX1_words_14 : decode cX1_words 14 = .ok (.iconst 4, 1) := dk_7 (dk_at dksX1_words_0 14 rfl rfl)
theorem dX1_words_15 : decode cX1_words 15 = .ok (.iload_n 2, 1) := dk_28 (dk_at dksX1_words_0 15 rfl rfl)
theorem dX1_words_16 : decode cX1_words 16 = .ok (.imul, 1) := dk_104 (dk_at dksX1_words_0 16 rfl rfl)
theorem dX1_words_17 : decode cX1_words 17 = .ok (.iaload, 1) := dk_46 (dk_at dksX1_words_0 17 rfl rfl)
theorem dX1_words_18 : decode cX1_words 18 = .ok (.bipush 24, 2) := dk_16 24 (dk_at dksX1_words_0 18 rfl rfl)
theorem dX1_words_20 : decode cX1_words 20 = .ok (.ishl, 1) := dk_120 (dk_at dksX1_words_0 20 rfl rfl)
theorem dX1_words_21 : decode cX1_words 21 = .ok (.aload_n 0, 1) := dk_42 (dk_at dksX1_words_0 21 rfl rfl)
theorem dX1_words_22 : decode cX1_words 22 = .ok (.iconst 4, 1) := dk_7 (dk_at dksX1_words_0 22 rfl rfl)
theorem dX1_words_23 : decode cX1_words 23 = .ok (.iload_n 2, 1) := dk_28 (dk_at dksX1_words_0 23 rfl rfl)
theorem dX1_words_24 : decode cX1_words 24 = .ok (.imul, 1) := dk_104 (dk_at dksX1_words_1 0 rfl rfl)
theorem dX1_words_25 : decode cX1_words 25 = .ok (.iconst 1, 1) := dk_4 (dk_at dksX1_words_1 1 rfl rfl)
theorem dX1_words_26 : decode cX1_words 26 = .ok (.iadd, 1) := dk_96 (dk_at dksX1_words_1 2 rfl rfl)
theorem dX1_words_27 : decode cX1_words 27 = .ok (.iaload, 1) := dk_46 (dk_at dksX1_words_1 3 rfl rfl)
theorem dX1_words_28 : decode cX1_words 28 = .ok (.bipush 16, 2) := dk_16 16 (dk_at dksX1_words_1 4 rfl rfl)
theorem dX1_words_30 : decode cX1_words 30 = .ok (.ishl, 1) := dk_120 (dk_at dksX1_words_1 6 rfl rfl)
theorem dX1_words_31 : decode cX1_words 31 = .ok (.ior, 1) := dk_128 (dk_at dksX1_words_1 7 rfl rfl)
theorem dX1_words_32 : decode cX1_words 32 = .ok (.aload_n 0, 1) := dk_42 (dk_at dksX1_words_1 8 rfl rfl)
theorem dX1_words_33 : decode cX1_words 33 = .ok (.iconst 4, 1) := dk_7 (dk_at dksX1_words_1 9 rfl rfl)
theorem dX1_words_34 : decode cX1_words 34 = .ok (.iload_n 2, 1) := dk_28 (dk_at dksX1_words_1 10 rfl rfl)
theorem dX1_words_35 : decode cX1_words 35 = .ok (.imul, 1) := dk_104 (dk_at dksX1_words_1 11 rfl rfl)
theorem dX1_words_36 : decode cX1_words 36 = .ok (.iconst 2, 1) := dk_5 (dk_at dksX1_words_1 12 rfl rfl)
theorem dX1_words_37 : decode cX1_words 37 = .ok (.iadd, 1) := dk_96 (dk_at dksX1_words_1 13 rfl rfl)
theorem dX1_words_38 : decode cX1_words 38 = .ok (.iaload, 1) := dk_46 (dk_at dksX1_words_1 14 rfl rfl)
theorem dX1_words_39 : decode cX1_words 39 = .ok (.bipush 8, 2) := dk_16 8 (dk_at dksX1_words_1 15 rfl rfl)
theorem dX1_words_41 : decode cX1_words 41 = .ok (.ishl, 1) := dk_120 (dk_at dksX1_words_1 17 rfl rfl)
theorem dX1_words_42 : decode cX1_words 42 = .ok (.ior, 1) := dk_128 (dk_at dksX1_words_1 18 rfl rfl)
theorem dX1_words_43 : decode cX1_words 43 = .ok (.aload_n 0, 1) := dk_42 (dk_at dksX1_words_1 19 rfl rfl)
theorem dX1_words_44 : decode cX1_words 44 = .ok (.iconst 4, 1) := dk_7 (dk_at dksX1_words_1 20 rfl rfl)
theorem dX1_words_45 : decode cX1_words 45 = .ok (.iload_n 2, 1) := dk_28 (dk_at dksX1_words_1 21 rfl rfl)
theorem dX1_words_46 : decode cX1_words 46 = .ok (.imul, 1) := dk_104 (dk_at dksX1_words_1 22 rfl rfl)
theorem dX1_words_47 : decode cX1_words 47 = .ok (.iconst 3, 1) := dk_6 (dk_at dksX1_words_1 23 rfl rfl)
theorem dX1_words_48 : decode cX1_words 48 = .ok (.iadd, 1) := dk_96 (dk_at dksX1_words_2 0 rfl rfl)
theorem dX1_words_49 : decode cX1_words 49 = .ok (.iaload, 1) := dk_46 (dk_at dksX1_words_2 1 rfl rfl)
theorem dX1_words_50 : decode cX1_words 50 = .ok (.ior, 1) := dk_128 (dk_at dksX1_words_2 2 rfl rfl)
theorem dX1_words_51 : decode cX1_words 51 = .ok (.iastore, 1) := dk_79 (dk_at dksX1_words_2 3 rfl rfl)
theorem dX1_words_52 : decode cX1_words 52 = .ok (.iinc 2 1, 3) := dk_132 2 1 (dk_at dksX1_words_2 4 rfl rfl)
theorem dX1_words_55 : decode cX1_words 55 = .ok (.goto (-49), 3) := dk_167 255 207 (dk_at dksX1_words_2 7 rfl rfl)
theorem dX1_words_58 : decode cX1_words 58 = .ok (.aload_n 1, 1) := dk_43 (dk_at dksX1_words_2 10 rfl rfl)
theorem dX1_words_59 : decode cX1_words 59 = .ok (.areturn, 1) := dk_176 (dk_at dksX1_words_2 11 rfl rfl)
abbrev cX1_constant : ByteArray := prog_8_method_7_code
def yX1_constant : MethodName := ⟨RX1, "constant", "(I)I"⟩
def dkwX1_constant_1 : List UInt8 := [130, 167, 0, 6, 5, 27, 104, 60, 132, 2, 1, 167, 255, 227, 27, 172]
abbrev dktX1_constant_1 : List UInt8 := dkwX1_constant_1 ++ []
def dkwX1_constant_0 : List UInt8 := [17, 0, 128, 60, 3, 61, 28, 26, 162, 0, 30, 27, 17, 0, 128, 161, 0, 13, 5, 27, 104, 17, 1, 27]
abbrev dktX1_constant_0 : List UInt8 := dkwX1_constant_0 ++ dktX1_constant_1
theorem dksX1_constant_0 : cX1_constant.data.toList.drop 0 = dktX1_constant_0 := by decide +kernel
theorem dksX1_constant_1 : cX1_constant.data.toList.drop 24 = dktX1_constant_1 := dk_seg dksX1_constant_0 24 rfl rfl
theorem dX1_constant_0 : decode cX1_constant 0 = .ok (.sipush 128, 3) := dk_17 0 128 (dk_at dksX1_constant_0 0 rfl rfl)
theorem dX1_constant_3 : decode cX1_constant 3 = .ok (.istore_n 1, 1) := dk_60 (dk_at dksX1_constant_0 3 rfl rfl)
theorem dX1_constant_4 : decode cX1_constant 4 = .ok (.iconst 0, 1) := dk_3 (dk_at dksX1_constant_0 4 rfl rfl)
theorem dX1_constant_5 : decode cX1_constant 5 = .ok (.istore_n 2, 1) := dk_61 (dk_at dksX1_constant_0 5 rfl rfl)
theorem dX1_constant_6 : decode cX1_constant 6 = .ok (.iload_n 2, 1) := dk_28 (dk_at dksX1_constant_0 6 rfl rfl)
theorem dX1_constant_7 : decode cX1_constant 7 = .ok (.iload_n 0, 1) := dk_26 (dk_at dksX1_constant_0 7 rfl rfl)
theorem dX1_constant_8 : decode cX1_constant 8 = .ok (.if_icmp .ge 30, 3) := dk_162 0 30 (dk_at dksX1_constant_0 8 rfl rfl)
theorem dX1_constant_11 : decode cX1_constant 11 = .ok (.iload_n 1, 1) := dk_27 (dk_at dksX1_constant_0 11 rfl rfl)
theorem dX1_constant_12 : decode cX1_constant 12 = .ok (.sipush 128, 3) := dk_17 0 128 (dk_at dksX1_constant_0 12 rfl rfl)
theorem dX1_constant_15 : decode cX1_constant 15 = .ok (.if_icmp .lt 13, 3) := dk_161 0 13 (dk_at dksX1_constant_0 15 rfl rfl)
theorem dX1_constant_18 : decode cX1_constant 18 = .ok (.iconst 2, 1) := dk_5 (dk_at dksX1_constant_0 18 rfl rfl)
theorem dX1_constant_19 : decode cX1_constant 19 = .ok (.iload_n 1, 1) := dk_27 (dk_at dksX1_constant_0 19 rfl rfl)
theorem dX1_constant_20 : decode cX1_constant 20 = .ok (.imul, 1) := dk_104 (dk_at dksX1_constant_0 20 rfl rfl)
theorem dX1_constant_21 : decode cX1_constant 21 = .ok (.sipush 283, 3) := dk_17 1 27 (dk_at dksX1_constant_0 21 rfl rfl)
theorem dX1_constant_24 : decode cX1_constant 24 = .ok (.ixor, 1) := dk_130 (dk_at dksX1_constant_1 0 rfl rfl)
theorem dX1_constant_25 : decode cX1_constant 25 = .ok (.goto 6, 3) := dk_167 0 6 (dk_at dksX1_constant_1 1 rfl rfl)
theorem dX1_constant_28 : decode cX1_constant 28 = .ok (.iconst 2, 1) := dk_5 (dk_at dksX1_constant_1 4 rfl rfl)
theorem dX1_constant_29 : decode cX1_constant 29 = .ok (.iload_n 1, 1) := dk_27 (dk_at dksX1_constant_1 5 rfl rfl)
theorem dX1_constant_30 : decode cX1_constant 30 = .ok (.imul, 1) := dk_104 (dk_at dksX1_constant_1 6 rfl rfl)
theorem dX1_constant_31 : decode cX1_constant 31 = .ok (.istore_n 1, 1) := dk_60 (dk_at dksX1_constant_1 7 rfl rfl)
theorem dX1_constant_32 : decode cX1_constant 32 = .ok (.iinc 2 1, 3) := dk_132 2 1 (dk_at dksX1_constant_1 8 rfl rfl)
theorem dX1_constant_35 : decode cX1_constant 35 = .ok (.goto (-29), 3) := dk_167 255 227 (dk_at dksX1_constant_1 11 rfl rfl)
theorem dX1_constant_38 : decode cX1_constant 38 = .ok (.iload_n 1, 1) := dk_27 (dk_at dksX1_constant_1 14 rfl rfl)
theorem dX1_constant_39 : decode cX1_constant 39 = .ok (.ireturn, 1) := dk_172 (dk_at dksX1_constant_1 15 rfl rfl)
abbrev cX1_round : ByteArray := prog_8_method_12_code
def yX1_round : MethodName := ⟨RX1, "round", "([I[III)V"⟩
def dkwX1_round_1 : List UInt8 := [43, 184, 0, 39, 43, 4, 184, 0, 35, 177]
abbrev dktX1_round_1 : List UInt8 := dkwX1_round_1 ++ []
def dkwX1_round_0 : List UInt8 := [43, 3, 92, 46, 28, 130, 79, 42, 43, 184, 0, 31, 43, 3, 92, 46, 29, 130, 79, 43, 3, 184, 0, 35]
abbrev dktX1_round_0 : List UInt8 := dkwX1_round_0 ++ dktX1_round_1
theorem dksX1_round_0 : cX1_round.data.toList.drop 0 = dktX1_round_0 := by decide +kernel
theorem dksX1_round_1 : cX1_round.data.toList.drop 24 = dktX1_round_1 := dk_seg dksX1_round_0 24 rfl rfl
theorem dX1_round_0 : decode cX1_round 0 = .ok (.aload_n 1, 1) := dk_43 (dk_at dksX1_round_0 0 rfl rfl)
theorem dX1_round_1 : decode cX1_round 1 = .ok (.iconst 0, 1) := dk_3 (dk_at dksX1_round_0 1 rfl rfl)
theorem dX1_round_2 : decode cX1_round 2 = .ok (.dup2, 1) := dk_92 (dk_at dksX1_round_0 2 rfl rfl)
theorem dX1_round_3 : decode cX1_round 3 = .ok (.iaload, 1) := dk_46 (dk_at dksX1_round_0 3 rfl rfl)
theorem dX1_round_4 : decode cX1_round 4 = .ok (.iload_n 2, 1) := dk_28 (dk_at dksX1_round_0 4 rfl rfl)
theorem dX1_round_5 : decode cX1_round 5 = .ok (.ixor, 1) := dk_130 (dk_at dksX1_round_0 5 rfl rfl)
theorem dX1_round_6 : decode cX1_round 6 = .ok (.iastore, 1) := dk_79 (dk_at dksX1_round_0 6 rfl rfl)
theorem dX1_round_7 : decode cX1_round 7 = .ok (.aload_n 0, 1) := dk_42 (dk_at dksX1_round_0 7 rfl rfl)
theorem dX1_round_8 : decode cX1_round 8 = .ok (.aload_n 1, 1) := dk_43 (dk_at dksX1_round_0 8 rfl rfl)
theorem dX1_round_9 : decode cX1_round 9 = .ok (.invokestatic 31, 3) := dk_184 0 31 (dk_at dksX1_round_0 9 rfl rfl)
theorem dX1_round_12 : decode cX1_round 12 = .ok (.aload_n 1, 1) := dk_43 (dk_at dksX1_round_0 12 rfl rfl)
theorem dX1_round_13 : decode cX1_round 13 = .ok (.iconst 0, 1) := dk_3 (dk_at dksX1_round_0 13 rfl rfl)
theorem dX1_round_14 : decode cX1_round 14 = .ok (.dup2, 1) := dk_92 (dk_at dksX1_round_0 14 rfl rfl)
theorem dX1_round_15 : decode cX1_round 15 = .ok (.iaload, 1) := dk_46 (dk_at dksX1_round_0 15 rfl rfl)
theorem dX1_round_16 : decode cX1_round 16 = .ok (.iload_n 3, 1) := dk_29 (dk_at dksX1_round_0 16 rfl rfl)
theorem dX1_round_17 : decode cX1_round 17 = .ok (.ixor, 1) := dk_130 (dk_at dksX1_round_0 17 rfl rfl)
theorem dX1_round_18 : decode cX1_round 18 = .ok (.iastore, 1) := dk_79 (dk_at dksX1_round_0 18 rfl rfl)
theorem dX1_round_19 : decode cX1_round 19 = .ok (.aload_n 1, 1) := dk_43 (dk_at dksX1_round_0 19 rfl rfl)
theorem dX1_round_20 : decode cX1_round 20 = .ok (.iconst 0, 1) := dk_3 (dk_at dksX1_round_0 20 rfl rfl)
theorem dX1_round_21 : decode cX1_round 21 = .ok (.invokestatic 35, 3) := dk_184 0 35 (dk_at dksX1_round_0 21 rfl rfl)
theorem dX1_round_24 : decode cX1_round 24 = .ok (.aload_n 1, 1) := dk_43 (dk_at dksX1_round_1 0 rfl rfl)
theorem dX1_round_25 : decode cX1_round 25 = .ok (.invokestatic 39, 3) := dk_184 0 39 (dk_at dksX1_round_1 1 rfl rfl)
theorem dX1_round_28 : decode cX1_round 28 = .ok (.aload_n 1, 1) := dk_43 (dk_at dksX1_round_1 4 rfl rfl)
theorem dX1_round_29 : decode cX1_round 29 = .ok (.iconst 1, 1) := dk_4 (dk_at dksX1_round_1 5 rfl rfl)
theorem dX1_round_30 : decode cX1_round 30 = .ok (.invokestatic 35, 3) := dk_184 0 35 (dk_at dksX1_round_1 6 rfl rfl)
theorem dX1_round_33 : decode cX1_round 33 = .ok (.return_, 1) := dk_177 (dk_at dksX1_round_1 9 rfl rfl)
abbrev cX1_theta : ByteArray := prog_8_method_9_code
def yX1_theta : MethodName := ⟨RX1, "theta", "([I[I)V"⟩
def dkwX1_theta_3 : List UInt8 := [177]
abbrev dktX1_theta_3 : List UInt8 := dkwX1_theta_3 ++ []
def dkwX1_theta_2 : List UInt8 := [4, 46, 43, 6, 46, 130, 184, 0, 27, 62, 43, 3, 92, 46, 29, 130, 79, 43, 5, 92, 46, 29, 130, 79]
abbrev dktX1_theta_2 : List UInt8 := dkwX1_theta_2 ++ dktX1_theta_3
def dkwX1_theta_1 : List UInt8 := [79, 3, 62, 29, 7, 162, 0, 18, 43, 29, 92, 46, 42, 29, 46, 130, 79, 132, 3, 1, 167, 255, 239, 43]
abbrev dktX1_theta_1 : List UInt8 := dkwX1_theta_1 ++ dktX1_theta_2
def dkwX1_theta_0 : List UInt8 := [43, 3, 46, 43, 5, 46, 130, 184, 0, 27, 61, 43, 4, 92, 46, 28, 130, 79, 43, 6, 92, 46, 28, 130]
abbrev dktX1_theta_0 : List UInt8 := dkwX1_theta_0 ++ dktX1_theta_1
theorem dksX1_theta_0 : cX1_theta.data.toList.drop 0 = dktX1_theta_0 := by decide +kernel
theorem dksX1_theta_1 : cX1_theta.data.toList.drop 24 = dktX1_theta_1 := dk_seg dksX1_theta_0 24 rfl rfl
theorem dksX1_theta_2 : cX1_theta.data.toList.drop 48 = dktX1_theta_2 := dk_seg dksX1_theta_1 24 rfl rfl
theorem dksX1_theta_3 : cX1_theta.data.toList.drop 72 = dktX1_theta_3 := dk_seg dksX1_theta_2 24 rfl rfl
theorem dX1_theta_0 : decode cX1_theta 0 = .ok (.aload_n 1, 1) := dk_43 (dk_at dksX1_theta_0 0 rfl rfl)
theorem dX1_theta_1 : decode cX1_theta 1 = .ok (.iconst 0, 1) := dk_3 (dk_at dksX1_theta_0 1 rfl rfl)
theorem dX1_theta_2 : decode cX1_theta 2 = .ok (.iaload, 1) := dk_46 (dk_at dksX1_theta_0 2 rfl rfl)
theorem dX1_theta_3 : decode cX1_theta 3 = .ok (.aload_n 1, 1) := dk_43 (dk_at dksX1_theta_0 3 rfl rfl)
theorem dX1_theta_4 : decode cX1_theta 4 = .ok (.iconst 2, 1) := dk_5 (dk_at dksX1_theta_0 4 rfl rfl)
theorem dX1_theta_5 : decode cX1_theta 5 = .ok (.iaload, 1) := dk_46 (dk_at dksX1_theta_0 5 rfl rfl)
theorem dX1_theta_6 : decode cX1_theta 6 = .ok (.ixor, 1) := dk_130 (dk_at dksX1_theta_0 6 rfl rfl)
theorem dX1_theta_7 : decode cX1_theta 7 = .ok (.invokestatic 27, 3) := dk_184 0 27 (dk_at dksX1_theta_0 7 rfl rfl)
theorem dX1_theta_10 : decode cX1_theta 10 = .ok (.istore_n 2, 1) := dk_61 (dk_at dksX1_theta_0 10 rfl rfl)
theorem dX1_theta_11 : decode cX1_theta 11 = .ok (.aload_n 1, 1) := dk_43 (dk_at dksX1_theta_0 11 rfl rfl)
theorem dX1_theta_12 : decode cX1_theta 12 = .ok (.iconst 1, 1) := dk_4 (dk_at dksX1_theta_0 12 rfl rfl)
theorem dX1_theta_13 : decode cX1_theta 13 = .ok (.dup2, 1) := dk_92 (dk_at dksX1_theta_0 13 rfl rfl)
theorem dX1_theta_14 : decode cX1_theta 14 = .ok (.iaload, 1) := dk_46 (dk_at dksX1_theta_0 14 rfl rfl)
theorem dX1_theta_15 : decode cX1_theta 15 = .ok (.iload_n 2, 1) := dk_28 (dk_at dksX1_theta_0 15 rfl rfl)
theorem dX1_theta_16 : decode cX1_theta 16 = .ok (.ixor, 1) := dk_130 (dk_at dksX1_theta_0 16 rfl rfl)
theorem dX1_theta_17 : decode cX1_theta 17 = .ok (.iastore, 1) := dk_79 (dk_at dksX1_theta_0 17 rfl rfl)
theorem dX1_theta_18 : decode cX1_theta 18 = .ok (.aload_n 1, 1) := dk_43 (dk_at dksX1_theta_0 18 rfl rfl)
theorem dX1_theta_19 : decode cX1_theta 19 = .ok (.iconst 3, 1) := dk_6 (dk_at dksX1_theta_0 19 rfl rfl)
theorem dX1_theta_20 : decode cX1_theta 20 = .ok (.dup2, 1) := dk_92 (dk_at dksX1_theta_0 20 rfl rfl)
theorem dX1_theta_21 : decode cX1_theta 21 = .ok (.iaload, 1) := dk_46 (dk_at dksX1_theta_0 21 rfl rfl)
theorem dX1_theta_22 : decode cX1_theta 22 = .ok (.iload_n 2, 1) := dk_28 (dk_at dksX1_theta_0 22 rfl rfl)
theorem dX1_theta_23 : decode cX1_theta 23 = .ok (.ixor, 1) := dk_130 (dk_at dksX1_theta_0 23 rfl rfl)
theorem dX1_theta_24 : decode cX1_theta 24 = .ok (.iastore, 1) := dk_79 (dk_at dksX1_theta_1 0 rfl rfl)
theorem dX1_theta_25 : decode cX1_theta 25 = .ok (.iconst 0, 1) := dk_3 (dk_at dksX1_theta_1 1 rfl rfl)
theorem dX1_theta_26 : decode cX1_theta 26 = .ok (.istore_n 3, 1) := dk_62 (dk_at dksX1_theta_1 2 rfl rfl)
theorem dX1_theta_27 : decode cX1_theta 27 = .ok (.iload_n 3, 1) := dk_29 (dk_at dksX1_theta_1 3 rfl rfl)
theorem dX1_theta_28 : decode cX1_theta 28 = .ok (.iconst 4, 1) := dk_7 (dk_at dksX1_theta_1 4 rfl rfl)
theorem dX1_theta_29 : decode cX1_theta 29 = .ok (.if_icmp .ge 18, 3) := dk_162 0 18 (dk_at dksX1_theta_1 5 rfl rfl)
theorem dX1_theta_32 : decode cX1_theta 32 = .ok (.aload_n 1, 1) := dk_43 (dk_at dksX1_theta_1 8 rfl rfl)
theorem dX1_theta_33 : decode cX1_theta 33 = .ok (.iload_n 3, 1) := dk_29 (dk_at dksX1_theta_1 9 rfl rfl)
theorem dX1_theta_34 : decode cX1_theta 34 = .ok (.dup2, 1) := dk_92 (dk_at dksX1_theta_1 10 rfl rfl)
theorem dX1_theta_35 : decode cX1_theta 35 = .ok (.iaload, 1) := dk_46 (dk_at dksX1_theta_1 11 rfl rfl)
theorem dX1_theta_36 : decode cX1_theta 36 = .ok (.aload_n 0, 1) := dk_42 (dk_at dksX1_theta_1 12 rfl rfl)
theorem dX1_theta_37 : decode cX1_theta 37 = .ok (.iload_n 3, 1) := dk_29 (dk_at dksX1_theta_1 13 rfl rfl)
theorem dX1_theta_38 : decode cX1_theta 38 = .ok (.iaload, 1) := dk_46 (dk_at dksX1_theta_1 14 rfl rfl)
theorem dX1_theta_39 : decode cX1_theta 39 = .ok (.ixor, 1) := dk_130 (dk_at dksX1_theta_1 15 rfl rfl)
theorem dX1_theta_40 : decode cX1_theta 40 = .ok (.iastore, 1) := dk_79 (dk_at dksX1_theta_1 16 rfl rfl)
theorem dX1_theta_41 : decode cX1_theta 41 = .ok (.iinc 3 1, 3) := dk_132 3 1 (dk_at dksX1_theta_1 17 rfl rfl)
theorem dX1_theta_44 : decode cX1_theta 44 = .ok (.goto (-17), 3) := dk_167 255 239 (dk_at dksX1_theta_1 20 rfl rfl)
theorem dX1_theta_47 : decode cX1_theta 47 = .ok (.aload_n 1, 1) := dk_43 (dk_at dksX1_theta_1 23 rfl rfl)
theorem dX1_theta_48 : decode cX1_theta 48 = .ok (.iconst 1, 1) := dk_4 (dk_at dksX1_theta_2 0 rfl rfl)
theorem dX1_theta_49 : decode cX1_theta 49 = .ok (.iaload, 1) := dk_46 (dk_at dksX1_theta_2 1 rfl rfl)
theorem dX1_theta_50 : decode cX1_theta 50 = .ok (.aload_n 1, 1) := dk_43 (dk_at dksX1_theta_2 2 rfl rfl)
theorem dX1_theta_51 : decode cX1_theta 51 = .ok (.iconst 3, 1) := dk_6 (dk_at dksX1_theta_2 3 rfl rfl)
theorem dX1_theta_52 : decode cX1_theta 52 = .ok (.iaload, 1) := dk_46 (dk_at dksX1_theta_2 4 rfl rfl)
theorem dX1_theta_53 : decode cX1_theta 53 = .ok (.ixor, 1) := dk_130 (dk_at dksX1_theta_2 5 rfl rfl)
theorem dX1_theta_54 : decode cX1_theta 54 = .ok (.invokestatic 27, 3) := dk_184 0 27 (dk_at dksX1_theta_2 6 rfl rfl)
theorem dX1_theta_57 : decode cX1_theta 57 = .ok (.istore_n 3, 1) := dk_62 (dk_at dksX1_theta_2 9 rfl rfl)
theorem dX1_theta_58 : decode cX1_theta 58 = .ok (.aload_n 1, 1) := dk_43 (dk_at dksX1_theta_2 10 rfl rfl)
theorem dX1_theta_59 : decode cX1_theta 59 = .ok (.iconst 0, 1) := dk_3 (dk_at dksX1_theta_2 11 rfl rfl)
theorem dX1_theta_60 : decode cX1_theta 60 = .ok (.dup2, 1) := dk_92 (dk_at dksX1_theta_2 12 rfl rfl)
theorem dX1_theta_61 : decode cX1_theta 61 = .ok (.iaload, 1) := dk_46 (dk_at dksX1_theta_2 13 rfl rfl)
theorem dX1_theta_62 : decode cX1_theta 62 = .ok (.iload_n 3, 1) := dk_29 (dk_at dksX1_theta_2 14 rfl rfl)
theorem dX1_theta_63 : decode cX1_theta 63 = .ok (.ixor, 1) := dk_130 (dk_at dksX1_theta_2 15 rfl rfl)
theorem dX1_theta_64 : decode cX1_theta 64 = .ok (.iastore, 1) := dk_79 (dk_at dksX1_theta_2 16 rfl rfl)
theorem dX1_theta_65 : decode cX1_theta 65 = .ok (.aload_n 1, 1) := dk_43 (dk_at dksX1_theta_2 17 rfl rfl)
theorem dX1_theta_66 : decode cX1_theta 66 = .ok (.iconst 2, 1) := dk_5 (dk_at dksX1_theta_2 18 rfl rfl)
theorem dX1_theta_67 : decode cX1_theta 67 = .ok (.dup2, 1) := dk_92 (dk_at dksX1_theta_2 19 rfl rfl)
theorem dX1_theta_68 : decode cX1_theta 68 = .ok (.iaload, 1) := dk_46 (dk_at dksX1_theta_2 20 rfl rfl)
theorem dX1_theta_69 : decode cX1_theta 69 = .ok (.iload_n 3, 1) := dk_29 (dk_at dksX1_theta_2 21 rfl rfl)
theorem dX1_theta_70 : decode cX1_theta 70 = .ok (.ixor, 1) := dk_130 (dk_at dksX1_theta_2 22 rfl rfl)
theorem dX1_theta_71 : decode cX1_theta 71 = .ok (.iastore, 1) := dk_79 (dk_at dksX1_theta_2 23 rfl rfl)
theorem dX1_theta_72 : decode cX1_theta 72 = .ok (.return_, 1) := dk_177 (dk_at dksX1_theta_3 0 rfl rfl)
abbrev cX1_spread : ByteArray := prog_8_method_8_code
def yX1_spread : MethodName := ⟨RX1, "spread", "(I)I"⟩
def dkwX1_spread_0 : List UInt8 := [26, 26, 16, 8, 184, 0, 23, 130, 26, 16, 24, 184, 0, 23, 130, 172]
abbrev dktX1_spread_0 : List UInt8 := dkwX1_spread_0 ++ []
theorem dksX1_spread_0 : cX1_spread.data.toList.drop 0 = dktX1_spread_0 := by decide +kernel
theorem dX1_spread_0 : decode cX1_spread 0 = .ok (.iload_n 0, 1) := dk_26 (dk_at dksX1_spread_0 0 rfl rfl)
theorem dX1_spread_1 : decode cX1_spread 1 = .ok (.iload_n 0, 1) := dk_26 (dk_at dksX1_spread_0 1 rfl rfl)
theorem dX1_spread_2 : decode cX1_spread 2 = .ok (.bipush 8, 2) := dk_16 8 (dk_at dksX1_spread_0 2 rfl rfl)
theorem dX1_spread_4 : decode cX1_spread 4 = .ok (.invokestatic 23, 3) := dk_184 0 23 (dk_at dksX1_spread_0 4 rfl rfl)
theorem dX1_spread_7 : decode cX1_spread 7 = .ok (.ixor, 1) := dk_130 (dk_at dksX1_spread_0 7 rfl rfl)
theorem dX1_spread_8 : decode cX1_spread 8 = .ok (.iload_n 0, 1) := dk_26 (dk_at dksX1_spread_0 8 rfl rfl)
theorem dX1_spread_9 : decode cX1_spread 9 = .ok (.bipush 24, 2) := dk_16 24 (dk_at dksX1_spread_0 9 rfl rfl)
theorem dX1_spread_11 : decode cX1_spread 11 = .ok (.invokestatic 23, 3) := dk_184 0 23 (dk_at dksX1_spread_0 11 rfl rfl)
theorem dX1_spread_14 : decode cX1_spread 14 = .ok (.ixor, 1) := dk_130 (dk_at dksX1_spread_0 14 rfl rfl)
theorem dX1_spread_15 : decode cX1_spread 15 = .ok (.ireturn, 1) := dk_172 (dk_at dksX1_spread_0 15 rfl rfl)
abbrev cX1_turned : ByteArray := prog_8_method_5_code
def yX1_turned : MethodName := ⟨RX1, "turned", "(II)I"⟩
def dkwX1_turned_0 : List UInt8 := [26, 27, 120, 26, 16, 32, 27, 100, 124, 128, 172]
abbrev dktX1_turned_0 : List UInt8 := dkwX1_turned_0 ++ []
theorem dksX1_turned_0 : cX1_turned.data.toList.drop 0 = dktX1_turned_0 := by decide +kernel
theorem dX1_turned_0 : decode cX1_turned 0 = .ok (.iload_n 0, 1) := dk_26 (dk_at dksX1_turned_0 0 rfl rfl)
theorem dX1_turned_1 : decode cX1_turned 1 = .ok (.iload_n 1, 1) := dk_27 (dk_at dksX1_turned_0 1 rfl rfl)
theorem dX1_turned_2 : decode cX1_turned 2 = .ok (.ishl, 1) := dk_120 (dk_at dksX1_turned_0 2 rfl rfl)
theorem dX1_turned_3 : decode cX1_turned 3 = .ok (.iload_n 0, 1) := dk_26 (dk_at dksX1_turned_0 3 rfl rfl)
theorem dX1_turned_4 : decode cX1_turned 4 = .ok (.bipush 32, 2) := dk_16 32 (dk_at dksX1_turned_0 4 rfl rfl)
theorem dX1_turned_6 : decode cX1_turned 6 = .ok (.iload_n 1, 1) := dk_27 (dk_at dksX1_turned_0 6 rfl rfl)
theorem dX1_turned_7 : decode cX1_turned 7 = .ok (.isub, 1) := dk_100 (dk_at dksX1_turned_0 7 rfl rfl)
theorem dX1_turned_8 : decode cX1_turned 8 = .ok (.iushr, 1) := dk_124 (dk_at dksX1_turned_0 8 rfl rfl)
theorem dX1_turned_9 : decode cX1_turned 9 = .ok (.ior, 1) := dk_128 (dk_at dksX1_turned_0 9 rfl rfl)
theorem dX1_turned_10 : decode cX1_turned 10 = .ok (.ireturn, 1) := dk_172 (dk_at dksX1_turned_0 10 rfl rfl)
abbrev cX1_turns : ByteArray := prog_8_method_10_code
def yX1_turns : MethodName := ⟨RX1, "turns", "([IZ)V"⟩
def dkwX1_turns_2 : List UInt8 := [16, 30, 167, 0, 4, 5, 184, 0, 23, 79, 177]
abbrev dktX1_turns_2 : List UInt8 := dkwX1_turns_2 ++ []
def dkwX1_turns_1 : List UInt8 := [27, 153, 0, 8, 16, 27, 167, 0, 4, 8, 184, 0, 23, 79, 42, 6, 42, 6, 46, 27, 153, 0, 8]
abbrev dktX1_turns_1 : List UInt8 := dkwX1_turns_1 ++ dktX1_turns_2
def dkwX1_turns_0 : List UInt8 := [42, 4, 42, 4, 46, 27, 153, 0, 8, 16, 31, 167, 0, 4, 4, 184, 0, 23, 79, 42, 5, 42, 5, 46]
abbrev dktX1_turns_0 : List UInt8 := dkwX1_turns_0 ++ dktX1_turns_1
theorem dksX1_turns_0 : cX1_turns.data.toList.drop 0 = dktX1_turns_0 := by decide +kernel
theorem dksX1_turns_1 : cX1_turns.data.toList.drop 24 = dktX1_turns_1 := dk_seg dksX1_turns_0 24 rfl rfl
theorem dksX1_turns_2 : cX1_turns.data.toList.drop 47 = dktX1_turns_2 := dk_seg dksX1_turns_1 23 rfl rfl
theorem dX1_turns_0 : decode cX1_turns 0 = .ok (.aload_n 0, 1) := dk_42 (dk_at dksX1_turns_0 0 rfl rfl)
theorem dX1_turns_1 : decode cX1_turns 1 = .ok (.iconst 1, 1) := dk_4 (dk_at dksX1_turns_0 1 rfl rfl)
theorem dX1_turns_2 : decode cX1_turns 2 = .ok (.aload_n 0, 1) := dk_42 (dk_at dksX1_turns_0 2 rfl rfl)
theorem dX1_turns_3 : decode cX1_turns 3 = .ok (.iconst 1, 1) := dk_4 (dk_at dksX1_turns_0 3 rfl rfl)
theorem dX1_turns_4 : decode cX1_turns 4 = .ok (.iaload, 1) := dk_46 (dk_at dksX1_turns_0 4 rfl rfl)
theorem dX1_turns_5 : decode cX1_turns 5 = .ok (.iload_n 1, 1) := dk_27 (dk_at dksX1_turns_0 5 rfl rfl)
theorem dX1_turns_6 : decode cX1_turns 6 = .ok (.ifCond .eq 8, 3) := dk_153 0 8 (dk_at dksX1_turns_0 6 rfl rfl)
theorem dX1_turns_9 : decode cX1_turns 9 = .ok (.bipush 31, 2) := dk_16 31 (dk_at dksX1_turns_0 9 rfl rfl)
theorem dX1_turns_11 : decode cX1_turns 11 = .ok (.goto 4, 3) := dk_167 0 4 (dk_at dksX1_turns_0 11 rfl rfl)
theorem dX1_turns_14 : decode cX1_turns 14 = .ok (.iconst 1, 1) := dk_4 (dk_at dksX1_turns_0 14 rfl rfl)
theorem dX1_turns_15 : decode cX1_turns 15 = .ok (.invokestatic 23, 3) := dk_184 0 23 (dk_at dksX1_turns_0 15 rfl rfl)
theorem dX1_turns_18 : decode cX1_turns 18 = .ok (.iastore, 1) := dk_79 (dk_at dksX1_turns_0 18 rfl rfl)
theorem dX1_turns_19 : decode cX1_turns 19 = .ok (.aload_n 0, 1) := dk_42 (dk_at dksX1_turns_0 19 rfl rfl)
theorem dX1_turns_20 : decode cX1_turns 20 = .ok (.iconst 2, 1) := dk_5 (dk_at dksX1_turns_0 20 rfl rfl)
theorem dX1_turns_21 : decode cX1_turns 21 = .ok (.aload_n 0, 1) := dk_42 (dk_at dksX1_turns_0 21 rfl rfl)
theorem dX1_turns_22 : decode cX1_turns 22 = .ok (.iconst 2, 1) := dk_5 (dk_at dksX1_turns_0 22 rfl rfl)
theorem dX1_turns_23 : decode cX1_turns 23 = .ok (.iaload, 1) := dk_46 (dk_at dksX1_turns_0 23 rfl rfl)
theorem dX1_turns_24 : decode cX1_turns 24 = .ok (.iload_n 1, 1) := dk_27 (dk_at dksX1_turns_1 0 rfl rfl)
theorem dX1_turns_25 : decode cX1_turns 25 = .ok (.ifCond .eq 8, 3) := dk_153 0 8 (dk_at dksX1_turns_1 1 rfl rfl)
theorem dX1_turns_28 : decode cX1_turns 28 = .ok (.bipush 27, 2) := dk_16 27 (dk_at dksX1_turns_1 4 rfl rfl)
theorem dX1_turns_30 : decode cX1_turns 30 = .ok (.goto 4, 3) := dk_167 0 4 (dk_at dksX1_turns_1 6 rfl rfl)
theorem dX1_turns_33 : decode cX1_turns 33 = .ok (.iconst 5, 1) := dk_8 (dk_at dksX1_turns_1 9 rfl rfl)
theorem dX1_turns_34 : decode cX1_turns 34 = .ok (.invokestatic 23, 3) := dk_184 0 23 (dk_at dksX1_turns_1 10 rfl rfl)
theorem dX1_turns_37 : decode cX1_turns 37 = .ok (.iastore, 1) := dk_79 (dk_at dksX1_turns_1 13 rfl rfl)
theorem dX1_turns_38 : decode cX1_turns 38 = .ok (.aload_n 0, 1) := dk_42 (dk_at dksX1_turns_1 14 rfl rfl)
theorem dX1_turns_39 : decode cX1_turns 39 = .ok (.iconst 3, 1) := dk_6 (dk_at dksX1_turns_1 15 rfl rfl)
theorem dX1_turns_40 : decode cX1_turns 40 = .ok (.aload_n 0, 1) := dk_42 (dk_at dksX1_turns_1 16 rfl rfl)
theorem dX1_turns_41 : decode cX1_turns 41 = .ok (.iconst 3, 1) := dk_6 (dk_at dksX1_turns_1 17 rfl rfl)
theorem dX1_turns_42 : decode cX1_turns 42 = .ok (.iaload, 1) := dk_46 (dk_at dksX1_turns_1 18 rfl rfl)
theorem dX1_turns_43 : decode cX1_turns 43 = .ok (.iload_n 1, 1) := dk_27 (dk_at dksX1_turns_1 19 rfl rfl)
theorem dX1_turns_44 : decode cX1_turns 44 = .ok (.ifCond .eq 8, 3) := dk_153 0 8 (dk_at dksX1_turns_1 20 rfl rfl)
theorem dX1_turns_47 : decode cX1_turns 47 = .ok (.bipush 30, 2) := dk_16 30 (dk_at dksX1_turns_2 0 rfl rfl)
theorem dX1_turns_49 : decode cX1_turns 49 = .ok (.goto 4, 3) := dk_167 0 4 (dk_at dksX1_turns_2 2 rfl rfl)
theorem dX1_turns_52 : decode cX1_turns 52 = .ok (.iconst 2, 1) := dk_5 (dk_at dksX1_turns_2 5 rfl rfl)
theorem dX1_turns_53 : decode cX1_turns 53 = .ok (.invokestatic 23, 3) := dk_184 0 23 (dk_at dksX1_turns_2 6 rfl rfl)
theorem dX1_turns_56 : decode cX1_turns 56 = .ok (.iastore, 1) := dk_79 (dk_at dksX1_turns_2 9 rfl rfl)
theorem dX1_turns_57 : decode cX1_turns 57 = .ok (.return_, 1) := dk_177 (dk_at dksX1_turns_2 10 rfl rfl)
abbrev cX1_gamma : ByteArray := prog_8_method_11_code
def yX1_gamma : MethodName := ⟨RX1, "gamma", "([I)V"⟩
def dkwX1_gamma_3 : List UInt8 := [46, 2, 130, 126, 130, 79, 42, 3, 92, 46, 42, 5, 46, 42, 4, 46, 126, 130, 79, 177]
abbrev dktX1_gamma_3 : List UInt8 := dkwX1_gamma_3 ++ []
def dkwX1_gamma_2 : List UInt8 := [42, 3, 46, 42, 4, 46, 130, 42, 6, 46, 130, 130, 79, 42, 4, 92, 46, 42, 6, 46, 2, 130, 42, 5]
abbrev dktX1_gamma_2 : List UInt8 := dkwX1_gamma_2 ++ dktX1_gamma_3
def dkwX1_gamma_1 : List UInt8 := [42, 4, 46, 126, 130, 79, 42, 6, 46, 60, 42, 6, 42, 3, 46, 79, 42, 3, 27, 79, 42, 5, 92, 46]
abbrev dktX1_gamma_1 : List UInt8 := dkwX1_gamma_1 ++ dktX1_gamma_2
def dkwX1_gamma_0 : List UInt8 := [42, 4, 92, 46, 42, 6, 46, 2, 130, 42, 5, 46, 2, 130, 126, 130, 79, 42, 3, 92, 46, 42, 5, 46]
abbrev dktX1_gamma_0 : List UInt8 := dkwX1_gamma_0 ++ dktX1_gamma_1
theorem dksX1_gamma_0 : cX1_gamma.data.toList.drop 0 = dktX1_gamma_0 := by decide +kernel
theorem dksX1_gamma_1 : cX1_gamma.data.toList.drop 24 = dktX1_gamma_1 := dk_seg dksX1_gamma_0 24 rfl rfl
theorem dksX1_gamma_2 : cX1_gamma.data.toList.drop 48 = dktX1_gamma_2 := dk_seg dksX1_gamma_1 24 rfl rfl
theorem dksX1_gamma_3 : cX1_gamma.data.toList.drop 72 = dktX1_gamma_3 := dk_seg dksX1_gamma_2 24 rfl rfl
theorem dX1_gamma_0 : decode cX1_gamma 0 = .ok (.aload_n 0, 1) := dk_42 (dk_at dksX1_gamma_0 0 rfl rfl)
theorem dX1_gamma_1 : decode cX1_gamma 1 = .ok (.iconst 1, 1) := dk_4 (dk_at dksX1_gamma_0 1 rfl rfl)
theorem dX1_gamma_2 : decode cX1_gamma 2 = .ok (.dup2, 1) := dk_92 (dk_at dksX1_gamma_0 2 rfl rfl)
theorem dX1_gamma_3 : decode cX1_gamma 3 = .ok (.iaload, 1) := dk_46 (dk_at dksX1_gamma_0 3 rfl rfl)
theorem dX1_gamma_4 : decode cX1_gamma 4 = .ok (.aload_n 0, 1) := dk_42 (dk_at dksX1_gamma_0 4 rfl rfl)
theorem dX1_gamma_5 : decode cX1_gamma 5 = .ok (.iconst 3, 1) := dk_6 (dk_at dksX1_gamma_0 5 rfl rfl)
theorem dX1_gamma_6 : decode cX1_gamma 6 = .ok (.iaload, 1) := dk_46 (dk_at dksX1_gamma_0 6 rfl rfl)
theorem dX1_gamma_7 : decode cX1_gamma 7 = .ok (.iconst (-1), 1) := dk_2 (dk_at dksX1_gamma_0 7 rfl rfl)
theorem dX1_gamma_8 : decode cX1_gamma 8 = .ok (.ixor, 1) := dk_130 (dk_at dksX1_gamma_0 8 rfl rfl)
theorem dX1_gamma_9 : decode cX1_gamma 9 = .ok (.aload_n 0, 1) := dk_42 (dk_at dksX1_gamma_0 9 rfl rfl)
theorem dX1_gamma_10 : decode cX1_gamma 10 = .ok (.iconst 2, 1) := dk_5 (dk_at dksX1_gamma_0 10 rfl rfl)
theorem dX1_gamma_11 : decode cX1_gamma 11 = .ok (.iaload, 1) := dk_46 (dk_at dksX1_gamma_0 11 rfl rfl)
theorem dX1_gamma_12 : decode cX1_gamma 12 = .ok (.iconst (-1), 1) := dk_2 (dk_at dksX1_gamma_0 12 rfl rfl)
theorem dX1_gamma_13 : decode cX1_gamma 13 = .ok (.ixor, 1) := dk_130 (dk_at dksX1_gamma_0 13 rfl rfl)
theorem dX1_gamma_14 : decode cX1_gamma 14 = .ok (.iand, 1) := dk_126 (dk_at dksX1_gamma_0 14 rfl rfl)
theorem dX1_gamma_15 : decode cX1_gamma 15 = .ok (.ixor, 1) := dk_130 (dk_at dksX1_gamma_0 15 rfl rfl)
theorem dX1_gamma_16 : decode cX1_gamma 16 = .ok (.iastore, 1) := dk_79 (dk_at dksX1_gamma_0 16 rfl rfl)
theorem dX1_gamma_17 : decode cX1_gamma 17 = .ok (.aload_n 0, 1) := dk_42 (dk_at dksX1_gamma_0 17 rfl rfl)
theorem dX1_gamma_18 : decode cX1_gamma 18 = .ok (.iconst 0, 1) := dk_3 (dk_at dksX1_gamma_0 18 rfl rfl)
theorem dX1_gamma_19 : decode cX1_gamma 19 = .ok (.dup2, 1) := dk_92 (dk_at dksX1_gamma_0 19 rfl rfl)
theorem dX1_gamma_20 : decode cX1_gamma 20 = .ok (.iaload, 1) := dk_46 (dk_at dksX1_gamma_0 20 rfl rfl)
theorem dX1_gamma_21 : decode cX1_gamma 21 = .ok (.aload_n 0, 1) := dk_42 (dk_at dksX1_gamma_0 21 rfl rfl)
theorem dX1_gamma_22 : decode cX1_gamma 22 = .ok (.iconst 2, 1) := dk_5 (dk_at dksX1_gamma_0 22 rfl rfl)
theorem dX1_gamma_23 : decode cX1_gamma 23 = .ok (.iaload, 1) := dk_46 (dk_at dksX1_gamma_0 23 rfl rfl)
theorem dX1_gamma_24 : decode cX1_gamma 24 = .ok (.aload_n 0, 1) := dk_42 (dk_at dksX1_gamma_1 0 rfl rfl)
theorem dX1_gamma_25 : decode cX1_gamma 25 = .ok (.iconst 1, 1) := dk_4 (dk_at dksX1_gamma_1 1 rfl rfl)
theorem dX1_gamma_26 : decode cX1_gamma 26 = .ok (.iaload, 1) := dk_46 (dk_at dksX1_gamma_1 2 rfl rfl)
theorem dX1_gamma_27 : decode cX1_gamma 27 = .ok (.iand, 1) := dk_126 (dk_at dksX1_gamma_1 3 rfl rfl)
theorem dX1_gamma_28 : decode cX1_gamma 28 = .ok (.ixor, 1) := dk_130 (dk_at dksX1_gamma_1 4 rfl rfl)
theorem dX1_gamma_29 : decode cX1_gamma 29 = .ok (.iastore, 1) := dk_79 (dk_at dksX1_gamma_1 5 rfl rfl)
theorem dX1_gamma_30 : decode cX1_gamma 30 = .ok (.aload_n 0, 1) := dk_42 (dk_at dksX1_gamma_1 6 rfl rfl)
theorem dX1_gamma_31 : decode cX1_gamma 31 = .ok (.iconst 3, 1) := dk_6 (dk_at dksX1_gamma_1 7 rfl rfl)
theorem dX1_gamma_32 : decode cX1_gamma 32 = .ok (.iaload, 1) := dk_46 (dk_at dksX1_gamma_1 8 rfl rfl)
theorem dX1_gamma_33 : decode cX1_gamma 33 = .ok (.istore_n 1, 1) := dk_60 (dk_at dksX1_gamma_1 9 rfl rfl)
theorem dX1_gamma_34 : decode cX1_gamma 34 = .ok (.aload_n 0, 1) := dk_42 (dk_at dksX1_gamma_1 10 rfl rfl)
theorem dX1_gamma_35 : decode cX1_gamma 35 = .ok (.iconst 3, 1) := dk_6 (dk_at dksX1_gamma_1 11 rfl rfl)
theorem dX1_gamma_36 : decode cX1_gamma 36 = .ok (.aload_n 0, 1) := dk_42 (dk_at dksX1_gamma_1 12 rfl rfl)
theorem dX1_gamma_37 : decode cX1_gamma 37 = .ok (.iconst 0, 1) := dk_3 (dk_at dksX1_gamma_1 13 rfl rfl)
theorem dX1_gamma_38 : decode cX1_gamma 38 = .ok (.iaload, 1) := dk_46 (dk_at dksX1_gamma_1 14 rfl rfl)
theorem dX1_gamma_39 : decode cX1_gamma 39 = .ok (.iastore, 1) := dk_79 (dk_at dksX1_gamma_1 15 rfl rfl)
theorem dX1_gamma_40 : decode cX1_gamma 40 = .ok (.aload_n 0, 1) := dk_42 (dk_at dksX1_gamma_1 16 rfl rfl)
theorem dX1_gamma_41 : decode cX1_gamma 41 = .ok (.iconst 0, 1) := dk_3 (dk_at dksX1_gamma_1 17 rfl rfl)
theorem dX1_gamma_42 : decode cX1_gamma 42 = .ok (.iload_n 1, 1) := dk_27 (dk_at dksX1_gamma_1 18 rfl rfl)
theorem dX1_gamma_43 : decode cX1_gamma 43 = .ok (.iastore, 1) := dk_79 (dk_at dksX1_gamma_1 19 rfl rfl)
theorem dX1_gamma_44 : decode cX1_gamma 44 = .ok (.aload_n 0, 1) := dk_42 (dk_at dksX1_gamma_1 20 rfl rfl)
theorem dX1_gamma_45 : decode cX1_gamma 45 = .ok (.iconst 2, 1) := dk_5 (dk_at dksX1_gamma_1 21 rfl rfl)
theorem dX1_gamma_46 : decode cX1_gamma 46 = .ok (.dup2, 1) := dk_92 (dk_at dksX1_gamma_1 22 rfl rfl)
theorem dX1_gamma_47 : decode cX1_gamma 47 = .ok (.iaload, 1) := dk_46 (dk_at dksX1_gamma_1 23 rfl rfl)
theorem dX1_gamma_48 : decode cX1_gamma 48 = .ok (.aload_n 0, 1) := dk_42 (dk_at dksX1_gamma_2 0 rfl rfl)
theorem dX1_gamma_49 : decode cX1_gamma 49 = .ok (.iconst 0, 1) := dk_3 (dk_at dksX1_gamma_2 1 rfl rfl)
theorem dX1_gamma_50 : decode cX1_gamma 50 = .ok (.iaload, 1) := dk_46 (dk_at dksX1_gamma_2 2 rfl rfl)
theorem dX1_gamma_51 : decode cX1_gamma 51 = .ok (.aload_n 0, 1) := dk_42 (dk_at dksX1_gamma_2 3 rfl rfl)
theorem dX1_gamma_52 : decode cX1_gamma 52 = .ok (.iconst 1, 1) := dk_4 (dk_at dksX1_gamma_2 4 rfl rfl)
theorem dX1_gamma_53 : decode cX1_gamma 53 = .ok (.iaload, 1) := dk_46 (dk_at dksX1_gamma_2 5 rfl rfl)
theorem dX1_gamma_54 : decode cX1_gamma 54 = .ok (.ixor, 1) := dk_130 (dk_at dksX1_gamma_2 6 rfl rfl)
theorem dX1_gamma_55 : decode cX1_gamma 55 = .ok (.aload_n 0, 1) := dk_42 (dk_at dksX1_gamma_2 7 rfl rfl)
theorem dX1_gamma_56 : decode cX1_gamma 56 = .ok (.iconst 3, 1) := dk_6 (dk_at dksX1_gamma_2 8 rfl rfl)
theorem dX1_gamma_57 : decode cX1_gamma 57 = .ok (.iaload, 1) := dk_46 (dk_at dksX1_gamma_2 9 rfl rfl)
theorem dX1_gamma_58 : decode cX1_gamma 58 = .ok (.ixor, 1) := dk_130 (dk_at dksX1_gamma_2 10 rfl rfl)
theorem dX1_gamma_59 : decode cX1_gamma 59 = .ok (.ixor, 1) := dk_130 (dk_at dksX1_gamma_2 11 rfl rfl)
theorem dX1_gamma_60 : decode cX1_gamma 60 = .ok (.iastore, 1) := dk_79 (dk_at dksX1_gamma_2 12 rfl rfl)
theorem dX1_gamma_61 : decode cX1_gamma 61 = .ok (.aload_n 0, 1) := dk_42 (dk_at dksX1_gamma_2 13 rfl rfl)
theorem dX1_gamma_62 : decode cX1_gamma 62 = .ok (.iconst 1, 1) := dk_4 (dk_at dksX1_gamma_2 14 rfl rfl)
theorem dX1_gamma_63 : decode cX1_gamma 63 = .ok (.dup2, 1) := dk_92 (dk_at dksX1_gamma_2 15 rfl rfl)
theorem dX1_gamma_64 : decode cX1_gamma 64 = .ok (.iaload, 1) := dk_46 (dk_at dksX1_gamma_2 16 rfl rfl)
theorem dX1_gamma_65 : decode cX1_gamma 65 = .ok (.aload_n 0, 1) := dk_42 (dk_at dksX1_gamma_2 17 rfl rfl)
theorem dX1_gamma_66 : decode cX1_gamma 66 = .ok (.iconst 3, 1) := dk_6 (dk_at dksX1_gamma_2 18 rfl rfl)
theorem dX1_gamma_67 : decode cX1_gamma 67 = .ok (.iaload, 1) := dk_46 (dk_at dksX1_gamma_2 19 rfl rfl)
theorem dX1_gamma_68 : decode cX1_gamma 68 = .ok (.iconst (-1), 1) := dk_2 (dk_at dksX1_gamma_2 20 rfl rfl)
theorem dX1_gamma_69 : decode cX1_gamma 69 = .ok (.ixor, 1) := dk_130 (dk_at dksX1_gamma_2 21 rfl rfl)
theorem dX1_gamma_70 : decode cX1_gamma 70 = .ok (.aload_n 0, 1) := dk_42 (dk_at dksX1_gamma_2 22 rfl rfl)
theorem dX1_gamma_71 : decode cX1_gamma 71 = .ok (.iconst 2, 1) := dk_5 (dk_at dksX1_gamma_2 23 rfl rfl)
theorem dX1_gamma_72 : decode cX1_gamma 72 = .ok (.iaload, 1) := dk_46 (dk_at dksX1_gamma_3 0 rfl rfl)
theorem dX1_gamma_73 : decode cX1_gamma 73 = .ok (.iconst (-1), 1) := dk_2 (dk_at dksX1_gamma_3 1 rfl rfl)
theorem dX1_gamma_74 : decode cX1_gamma 74 = .ok (.ixor, 1) := dk_130 (dk_at dksX1_gamma_3 2 rfl rfl)
theorem dX1_gamma_75 : decode cX1_gamma 75 = .ok (.iand, 1) := dk_126 (dk_at dksX1_gamma_3 3 rfl rfl)
theorem dX1_gamma_76 : decode cX1_gamma 76 = .ok (.ixor, 1) := dk_130 (dk_at dksX1_gamma_3 4 rfl rfl)
theorem dX1_gamma_77 : decode cX1_gamma 77 = .ok (.iastore, 1) := dk_79 (dk_at dksX1_gamma_3 5 rfl rfl)
theorem dX1_gamma_78 : decode cX1_gamma 78 = .ok (.aload_n 0, 1) := dk_42 (dk_at dksX1_gamma_3 6 rfl rfl)
theorem dX1_gamma_79 : decode cX1_gamma 79 = .ok (.iconst 0, 1) := dk_3 (dk_at dksX1_gamma_3 7 rfl rfl)
theorem dX1_gamma_80 : decode cX1_gamma 80 = .ok (.dup2, 1) := dk_92 (dk_at dksX1_gamma_3 8 rfl rfl)
theorem dX1_gamma_81 : decode cX1_gamma 81 = .ok (.iaload, 1) := dk_46 (dk_at dksX1_gamma_3 9 rfl rfl)
theorem dX1_gamma_82 : decode cX1_gamma 82 = .ok (.aload_n 0, 1) := dk_42 (dk_at dksX1_gamma_3 10 rfl rfl)
theorem dX1_gamma_83 : decode cX1_gamma 83 = .ok (.iconst 2, 1) := dk_5 (dk_at dksX1_gamma_3 11 rfl rfl)
theorem dX1_gamma_84 : decode cX1_gamma 84 = .ok (.iaload, 1) := dk_46 (dk_at dksX1_gamma_3 12 rfl rfl)
theorem dX1_gamma_85 : decode cX1_gamma 85 = .ok (.aload_n 0, 1) := dk_42 (dk_at dksX1_gamma_3 13 rfl rfl)
theorem dX1_gamma_86 : decode cX1_gamma 86 = .ok (.iconst 1, 1) := dk_4 (dk_at dksX1_gamma_3 14 rfl rfl)
theorem dX1_gamma_87 : decode cX1_gamma 87 = .ok (.iaload, 1) := dk_46 (dk_at dksX1_gamma_3 15 rfl rfl)
theorem dX1_gamma_88 : decode cX1_gamma 88 = .ok (.iand, 1) := dk_126 (dk_at dksX1_gamma_3 16 rfl rfl)
theorem dX1_gamma_89 : decode cX1_gamma 89 = .ok (.ixor, 1) := dk_130 (dk_at dksX1_gamma_3 17 rfl rfl)
theorem dX1_gamma_90 : decode cX1_gamma 90 = .ok (.iastore, 1) := dk_79 (dk_at dksX1_gamma_3 18 rfl rfl)
theorem dX1_gamma_91 : decode cX1_gamma 91 = .ok (.return_, 1) := dk_177 (dk_at dksX1_gamma_3 19 rfl rfl)
abbrev cX1_lays : ByteArray := prog_8_method_13_code
def yX1_lays : MethodName := ⟨RX1, "lays", "([I)V"⟩
def dkwX1_lays_1 : List UInt8 := [167, 255, 235, 177]
abbrev dktX1_lays_1 : List UInt8 := dkwX1_lays_1 ++ []
def dkwX1_lays_0 : List UInt8 := [3, 61, 28, 7, 162, 0, 22, 42, 180, 0, 16, 7, 28, 104, 43, 28, 46, 184, 0, 19, 132, 2, 1]
abbrev dktX1_lays_0 : List UInt8 := dkwX1_lays_0 ++ dktX1_lays_1
theorem dksX1_lays_0 : cX1_lays.data.toList.drop 0 = dktX1_lays_0 := by decide +kernel
theorem dksX1_lays_1 : cX1_lays.data.toList.drop 23 = dktX1_lays_1 := dk_seg dksX1_lays_0 23 rfl rfl
theorem dX1_lays_0 : decode cX1_lays 0 = .ok (.iconst 0, 1) := dk_3 (dk_at dksX1_lays_0 0 rfl rfl)
theorem dX1_lays_1 : decode cX1_lays 1 = .ok (.istore_n 2, 1) := dk_61 (dk_at dksX1_lays_0 1 rfl rfl)
theorem dX1_lays_2 : decode cX1_lays 2 = .ok (.iload_n 2, 1) := dk_28 (dk_at dksX1_lays_0 2 rfl rfl)
theorem dX1_lays_3 : decode cX1_lays 3 = .ok (.iconst 4, 1) := dk_7 (dk_at dksX1_lays_0 3 rfl rfl)
theorem dX1_lays_4 : decode cX1_lays 4 = .ok (.if_icmp .ge 22, 3) := dk_162 0 22 (dk_at dksX1_lays_0 4 rfl rfl)
theorem dX1_lays_7 : decode cX1_lays 7 = .ok (.aload_n 0, 1) := dk_42 (dk_at dksX1_lays_0 7 rfl rfl)
theorem dX1_lays_8 : decode cX1_lays 8 = .ok (.getfield 16, 3) := dk_180 0 16 (dk_at dksX1_lays_0 8 rfl rfl)
theorem dX1_lays_11 : decode cX1_lays 11 = .ok (.iconst 4, 1) := dk_7 (dk_at dksX1_lays_0 11 rfl rfl)
theorem dX1_lays_12 : decode cX1_lays 12 = .ok (.iload_n 2, 1) := dk_28 (dk_at dksX1_lays_0 12 rfl rfl)
theorem dX1_lays_13 : decode cX1_lays 13 = .ok (.imul, 1) := dk_104 (dk_at dksX1_lays_0 13 rfl rfl)
theorem dX1_lays_14 : decode cX1_lays 14 = .ok (.aload_n 1, 1) := dk_43 (dk_at dksX1_lays_0 14 rfl rfl)
theorem dX1_lays_15 : decode cX1_lays 15 = .ok (.iload_n 2, 1) := dk_28 (dk_at dksX1_lays_0 15 rfl rfl)
theorem dX1_lays_16 : decode cX1_lays 16 = .ok (.iaload, 1) := dk_46 (dk_at dksX1_lays_0 16 rfl rfl)
theorem dX1_lays_17 : decode cX1_lays 17 = .ok (.invokestatic 19, 3) := dk_184 0 19 (dk_at dksX1_lays_0 17 rfl rfl)
theorem dX1_lays_20 : decode cX1_lays 20 = .ok (.iinc 2 1, 3) := dk_132 2 1 (dk_at dksX1_lays_0 20 rfl rfl)
theorem dX1_lays_23 : decode cX1_lays 23 = .ok (.goto (-21), 3) := dk_167 255 235 (dk_at dksX1_lays_1 0 rfl rfl)
theorem dX1_lays_26 : decode cX1_lays 26 = .ok (.return_, 1) := dk_177 (dk_at dksX1_lays_1 3 rfl rfl)
abbrev cX1_open : ByteArray := prog_8_method_16_code
def yX1_open : MethodName := ⟨RX1, "open", "(I)V"⟩
def dkwX1_open_2 : List UInt8 := [184, 0, 31, 45, 3, 92, 46, 3, 184, 0, 51, 130, 79, 42, 45, 182, 0, 58, 177]
abbrev dktX1_open_2 : List UInt8 := dkwX1_open_2 ++ []
def dkwX1_open_1 : List UInt8 := [21, 4, 158, 0, 20, 44, 45, 3, 21, 4, 184, 0, 51, 184, 0, 54, 132, 4, 255, 167, 255, 237, 44, 45]
abbrev dktX1_open_1 : List UInt8 := dkwX1_open_1 ++ dktX1_open_2
def dkwX1_open_0 : List UInt8 := [42, 182, 0, 47, 77, 7, 188, 10, 44, 184, 0, 31, 42, 180, 0, 13, 184, 0, 43, 78, 16, 16, 54, 4]
abbrev dktX1_open_0 : List UInt8 := dkwX1_open_0 ++ dktX1_open_1
theorem dksX1_open_0 : cX1_open.data.toList.drop 0 = dktX1_open_0 := by decide +kernel
theorem dksX1_open_1 : cX1_open.data.toList.drop 24 = dktX1_open_1 := dk_seg dksX1_open_0 24 rfl rfl
theorem dksX1_open_2 : cX1_open.data.toList.drop 48 = dktX1_open_2 := dk_seg dksX1_open_1 24 rfl rfl
theorem dX1_open_0 : decode cX1_open 0 = .ok (.aload_n 0, 1) := dk_42 (dk_at dksX1_open_0 0 rfl rfl)
theorem dX1_open_1 : decode cX1_open 1 = .ok (.invokevirtual 47, 3) := dk_182 0 47 (dk_at dksX1_open_0 1 rfl rfl)
theorem dX1_open_4 : decode cX1_open 4 = .ok (.astore_n 2, 1) := dk_77 (dk_at dksX1_open_0 4 rfl rfl)
theorem dX1_open_5 : decode cX1_open 5 = .ok (.iconst 4, 1) := dk_7 (dk_at dksX1_open_0 5 rfl rfl)
theorem dX1_open_6 : decode cX1_open 6 = .ok (.newarray .int, 2) := dk_188_10 (dk_at dksX1_open_0 6 rfl rfl)
theorem dX1_open_8 : decode cX1_open 8 = .ok (.aload_n 2, 1) := dk_44 (dk_at dksX1_open_0 8 rfl rfl)
theorem dX1_open_9 : decode cX1_open 9 = .ok (.invokestatic 31, 3) := dk_184 0 31 (dk_at dksX1_open_0 9 rfl rfl)
theorem dX1_open_12 : decode cX1_open 12 = .ok (.aload_n 0, 1) := dk_42 (dk_at dksX1_open_0 12 rfl rfl)
theorem dX1_open_13 : decode cX1_open 13 = .ok (.getfield 13, 3) := dk_180 0 13 (dk_at dksX1_open_0 13 rfl rfl)
theorem dX1_open_16 : decode cX1_open 16 = .ok (.invokestatic 43, 3) := dk_184 0 43 (dk_at dksX1_open_0 16 rfl rfl)
theorem dX1_open_19 : decode cX1_open 19 = .ok (.astore_n 3, 1) := dk_78 (dk_at dksX1_open_0 19 rfl rfl)
theorem dX1_open_20 : decode cX1_open 20 = .ok (.bipush 16, 2) := dk_16 16 (dk_at dksX1_open_0 20 rfl rfl)
theorem dX1_open_22 : decode cX1_open 22 = .ok (.istore 4, 2) := dk_54 4 (dk_at dksX1_open_0 22 rfl rfl)
theorem dX1_open_24 : decode cX1_open 24 = .ok (.iload 4, 2) := dk_21 4 (dk_at dksX1_open_1 0 rfl rfl)
theorem dX1_open_26 : decode cX1_open 26 = .ok (.ifCond .le 20, 3) := dk_158 0 20 (dk_at dksX1_open_1 2 rfl rfl)
theorem dX1_open_29 : decode cX1_open 29 = .ok (.aload_n 2, 1) := dk_44 (dk_at dksX1_open_1 5 rfl rfl)
theorem dX1_open_30 : decode cX1_open 30 = .ok (.aload_n 3, 1) := dk_45 (dk_at dksX1_open_1 6 rfl rfl)
theorem dX1_open_31 : decode cX1_open 31 = .ok (.iconst 0, 1) := dk_3 (dk_at dksX1_open_1 7 rfl rfl)
theorem dX1_open_32 : decode cX1_open 32 = .ok (.iload 4, 2) := dk_21 4 (dk_at dksX1_open_1 8 rfl rfl)
theorem dX1_open_34 : decode cX1_open 34 = .ok (.invokestatic 51, 3) := dk_184 0 51 (dk_at dksX1_open_1 10 rfl rfl)
theorem dX1_open_37 : decode cX1_open 37 = .ok (.invokestatic 54, 3) := dk_184 0 54 (dk_at dksX1_open_1 13 rfl rfl)
theorem dX1_open_40 : decode cX1_open 40 = .ok (.iinc 4 (-1), 3) := dk_132 4 255 (dk_at dksX1_open_1 16 rfl rfl)
theorem dX1_open_43 : decode cX1_open 43 = .ok (.goto (-19), 3) := dk_167 255 237 (dk_at dksX1_open_1 19 rfl rfl)
theorem dX1_open_46 : decode cX1_open 46 = .ok (.aload_n 2, 1) := dk_44 (dk_at dksX1_open_1 22 rfl rfl)
theorem dX1_open_47 : decode cX1_open 47 = .ok (.aload_n 3, 1) := dk_45 (dk_at dksX1_open_1 23 rfl rfl)
theorem dX1_open_48 : decode cX1_open 48 = .ok (.invokestatic 31, 3) := dk_184 0 31 (dk_at dksX1_open_2 0 rfl rfl)
theorem dX1_open_51 : decode cX1_open 51 = .ok (.aload_n 3, 1) := dk_45 (dk_at dksX1_open_2 3 rfl rfl)
theorem dX1_open_52 : decode cX1_open 52 = .ok (.iconst 0, 1) := dk_3 (dk_at dksX1_open_2 4 rfl rfl)
theorem dX1_open_53 : decode cX1_open 53 = .ok (.dup2, 1) := dk_92 (dk_at dksX1_open_2 5 rfl rfl)
theorem dX1_open_54 : decode cX1_open 54 = .ok (.iaload, 1) := dk_46 (dk_at dksX1_open_2 6 rfl rfl)
theorem dX1_open_55 : decode cX1_open 55 = .ok (.iconst 0, 1) := dk_3 (dk_at dksX1_open_2 7 rfl rfl)
theorem dX1_open_56 : decode cX1_open 56 = .ok (.invokestatic 51, 3) := dk_184 0 51 (dk_at dksX1_open_2 8 rfl rfl)
theorem dX1_open_59 : decode cX1_open 59 = .ok (.ixor, 1) := dk_130 (dk_at dksX1_open_2 11 rfl rfl)
theorem dX1_open_60 : decode cX1_open 60 = .ok (.iastore, 1) := dk_79 (dk_at dksX1_open_2 12 rfl rfl)
theorem dX1_open_61 : decode cX1_open 61 = .ok (.aload_n 0, 1) := dk_42 (dk_at dksX1_open_2 13 rfl rfl)
theorem dX1_open_62 : decode cX1_open 62 = .ok (.aload_n 3, 1) := dk_45 (dk_at dksX1_open_2 14 rfl rfl)
theorem dX1_open_63 : decode cX1_open 63 = .ok (.invokevirtual 58, 3) := dk_182 0 58 (dk_at dksX1_open_2 15 rfl rfl)
theorem dX1_open_66 : decode cX1_open 66 = .ok (.return_, 1) := dk_177 (dk_at dksX1_open_2 18 rfl rfl)
abbrev cX1_again : ByteArray := prog_8_method_17_code
def yX1_again : MethodName := ⟨RX1, "again", "()V"⟩
def dkwX1_again_1 : List UInt8 := [167, 255, 235, 177]
abbrev dktX1_again_1 : List UInt8 := dkwX1_again_1 ++ []
def dkwX1_again_0 : List UInt8 := [3, 60, 27, 16, 16, 162, 0, 21, 42, 180, 0, 13, 27, 42, 180, 0, 16, 27, 46, 79, 132, 1, 1]
abbrev dktX1_again_0 : List UInt8 := dkwX1_again_0 ++ dktX1_again_1
theorem dksX1_again_0 : cX1_again.data.toList.drop 0 = dktX1_again_0 := by decide +kernel
theorem dksX1_again_1 : cX1_again.data.toList.drop 23 = dktX1_again_1 := dk_seg dksX1_again_0 23 rfl rfl
theorem dX1_again_0 : decode cX1_again 0 = .ok (.iconst 0, 1) := dk_3 (dk_at dksX1_again_0 0 rfl rfl)
theorem dX1_again_1 : decode cX1_again 1 = .ok (.istore_n 1, 1) := dk_60 (dk_at dksX1_again_0 1 rfl rfl)
theorem dX1_again_2 : decode cX1_again 2 = .ok (.iload_n 1, 1) := dk_27 (dk_at dksX1_again_0 2 rfl rfl)
theorem dX1_again_3 : decode cX1_again 3 = .ok (.bipush 16, 2) := dk_16 16 (dk_at dksX1_again_0 3 rfl rfl)
theorem dX1_again_5 : decode cX1_again 5 = .ok (.if_icmp .ge 21, 3) := dk_162 0 21 (dk_at dksX1_again_0 5 rfl rfl)
theorem dX1_again_8 : decode cX1_again 8 = .ok (.aload_n 0, 1) := dk_42 (dk_at dksX1_again_0 8 rfl rfl)
theorem dX1_again_9 : decode cX1_again 9 = .ok (.getfield 13, 3) := dk_180 0 13 (dk_at dksX1_again_0 9 rfl rfl)
theorem dX1_again_12 : decode cX1_again 12 = .ok (.iload_n 1, 1) := dk_27 (dk_at dksX1_again_0 12 rfl rfl)
theorem dX1_again_13 : decode cX1_again 13 = .ok (.aload_n 0, 1) := dk_42 (dk_at dksX1_again_0 13 rfl rfl)
theorem dX1_again_14 : decode cX1_again 14 = .ok (.getfield 16, 3) := dk_180 0 16 (dk_at dksX1_again_0 14 rfl rfl)
theorem dX1_again_17 : decode cX1_again 17 = .ok (.iload_n 1, 1) := dk_27 (dk_at dksX1_again_0 17 rfl rfl)
theorem dX1_again_18 : decode cX1_again 18 = .ok (.iaload, 1) := dk_46 (dk_at dksX1_again_0 18 rfl rfl)
theorem dX1_again_19 : decode cX1_again 19 = .ok (.iastore, 1) := dk_79 (dk_at dksX1_again_0 19 rfl rfl)
theorem dX1_again_20 : decode cX1_again 20 = .ok (.iinc 1 1, 3) := dk_132 1 1 (dk_at dksX1_again_0 20 rfl rfl)
theorem dX1_again_23 : decode cX1_again 23 = .ok (.goto (-21), 3) := dk_167 255 235 (dk_at dksX1_again_1 0 rfl rfl)
theorem dX1_again_26 : decode cX1_again 26 = .ok (.return_, 1) := dk_177 (dk_at dksX1_again_1 3 rfl rfl)
abbrev cX1_out : ByteArray := prog_8_method_18_code
def yX1_out : MethodName := ⟨RX1, "out", "(I)I"⟩
def dkwX1_out_0 : List UInt8 := [42, 180, 0, 16, 27, 16, 15, 126, 46, 172]
abbrev dktX1_out_0 : List UInt8 := dkwX1_out_0 ++ []
theorem dksX1_out_0 : cX1_out.data.toList.drop 0 = dktX1_out_0 := by decide +kernel
theorem dX1_out_0 : decode cX1_out 0 = .ok (.aload_n 0, 1) := dk_42 (dk_at dksX1_out_0 0 rfl rfl)
theorem dX1_out_1 : decode cX1_out 1 = .ok (.getfield 16, 3) := dk_180 0 16 (dk_at dksX1_out_0 1 rfl rfl)
theorem dX1_out_4 : decode cX1_out 4 = .ok (.iload_n 1, 1) := dk_27 (dk_at dksX1_out_0 4 rfl rfl)
theorem dX1_out_5 : decode cX1_out 5 = .ok (.bipush 15, 2) := dk_16 15 (dk_at dksX1_out_0 5 rfl rfl)
theorem dX1_out_7 : decode cX1_out 7 = .ok (.iand, 1) := dk_126 (dk_at dksX1_out_0 7 rfl rfl)
theorem dX1_out_8 : decode cX1_out 8 = .ok (.iaload, 1) := dk_46 (dk_at dksX1_out_0 8 rfl rfl)
theorem dX1_out_9 : decode cX1_out 9 = .ok (.ireturn, 1) := dk_172 (dk_at dksX1_out_0 9 rfl rfl)
theorem q8 : (Jvm.Cond.initialized "NoekeonDeskModel") ∈ lw_all := lw_g (lw_at lw_m1 2 rfl) rfl
theorem q284 : (Jvm.Cond.instantiable "NoekeonDeskModel" (3 : Nat)) ∈ lw_all := lw_g (lw_at lw_m2 38 rfl) rfl
theorem q286 : (Jvm.Cond.instanceMethod ({ cls := "NoekeonDeskModel", name := "<init>", desc := "()V" } : Jvm.MethodName)) ∈ lw_all := lw_g (lw_at lw_m2 40 rfl) rfl
theorem q287 : (Jvm.Cond.code ({ cls := "NoekeonDeskModel", name := "<init>", desc := "()V" } : Jvm.MethodName) prog_8_method_1_code (1 : Nat) (Option.none : Option Jvm.ClassFile.FieldType)) ∈ lw_all := lw_g (lw_at lw_m2 41 rfl) rfl
theorem q288 : (Jvm.Cond.methodLink "NoekeonDeskModel" (1 : Nat) ({ cls := "java/lang/Object", name := "<init>", desc := "()V" } : Jvm.MethodName)) ∈ lw_all := lw_g (lw_at lw_m2 42 rfl) rfl
theorem q289 : (Jvm.Cond.fieldLink "NoekeonDeskModel" (7 : Nat) "NoekeonDeskModel" "key" "[I") ∈ lw_all := lw_g (lw_at lw_m2 43 rfl) rfl
theorem q290 : (Jvm.Cond.fieldLink "NoekeonDeskModel" (13 : Nat) "NoekeonDeskModel" "block" "[I") ∈ lw_all := lw_g (lw_at lw_m2 44 rfl) rfl
theorem q291 : (Jvm.Cond.fieldLink "NoekeonDeskModel" (16 : Nat) "NoekeonDeskModel" "out" "[I") ∈ lw_all := lw_g (lw_at lw_m2 45 rfl) rfl
theorem q292 : (Jvm.Cond.laysFinal "NoekeonDeskModel" "NoekeonDeskModel" "key" "[I") ∈ lw_all := lw_g (lw_at lw_m2 46 rfl) rfl
theorem q293 : (Jvm.Cond.soleField "NoekeonDeskModel" "key") ∈ lw_all := lw_g (lw_at lw_m2 47 rfl) rfl
theorem q294 : (Jvm.Cond.laysFinal "NoekeonDeskModel" "NoekeonDeskModel" "block" "[I") ∈ lw_all := lw_g (lw_at lw_m2 48 rfl) rfl
theorem q295 : (Jvm.Cond.soleField "NoekeonDeskModel" "block") ∈ lw_all := lw_g (lw_at lw_m2 49 rfl) rfl
theorem q296 : (Jvm.Cond.laysFinal "NoekeonDeskModel" "NoekeonDeskModel" "out" "[I") ∈ lw_all := lw_g (lw_at lw_m2 50 rfl) rfl
theorem q297 : (Jvm.Cond.soleField "NoekeonDeskModel" "out") ∈ lw_all := lw_g (lw_at lw_m2 51 rfl) rfl
theorem q298 : (Jvm.Cond.superclass "NoekeonDeskModel" "java/lang/Object") ∈ lw_all := lw_g (lw_at lw_m2 52 rfl) rfl
theorem q300 : (Jvm.Cond.instanceMethod ({ cls := "NoekeonDeskModel", name := "key", desc := "(IIIII)V" } : Jvm.MethodName)) ∈ lw_all := lw_g (lw_at lw_m2 54 rfl) rfl
theorem q301 : (Jvm.Cond.selects "NoekeonDeskModel" ({ cls := "NoekeonDeskModel", name := "key", desc := "(IIIII)V" } : Jvm.MethodName) ({ cls := "NoekeonDeskModel", name := "key", desc := "(IIIII)V" } : Jvm.MethodName)) ∈ lw_all := lw_g (lw_at lw_m2 55 rfl) rfl
theorem q302 : (Jvm.Cond.code ({ cls := "NoekeonDeskModel", name := "key", desc := "(IIIII)V" } : Jvm.MethodName) prog_8_method_3_code (7 : Nat) (Option.none : Option Jvm.ClassFile.FieldType)) ∈ lw_all := lw_g (lw_at lw_m2 56 rfl) rfl
theorem q303 : (Jvm.Cond.methodLink "NoekeonDeskModel" (19 : Nat) ({ cls := "NoekeonDeskModel", name := "word", desc := "([III)V" } : Jvm.MethodName)) ∈ lw_all := lw_g (lw_at lw_m2 57 rfl) rfl
theorem q304 : (Jvm.Cond.static ({ cls := "NoekeonDeskModel", name := "word", desc := "([III)V" } : Jvm.MethodName)) ∈ lw_all := lw_g (lw_at lw_m2 58 rfl) rfl
theorem q305 : (Jvm.Cond.code ({ cls := "NoekeonDeskModel", name := "word", desc := "([III)V" } : Jvm.MethodName) prog_8_method_2_code (4 : Nat) (Option.none : Option Jvm.ClassFile.FieldType)) ∈ lw_all := lw_g (lw_at lw_m2 59 rfl) rfl
theorem q307 : (Jvm.Cond.instanceMethod ({ cls := "NoekeonDeskModel", name := "block", desc := "(IIII)V" } : Jvm.MethodName)) ∈ lw_all := lw_g (lw_at lw_m2 61 rfl) rfl
theorem q308 : (Jvm.Cond.selects "NoekeonDeskModel" ({ cls := "NoekeonDeskModel", name := "block", desc := "(IIII)V" } : Jvm.MethodName) ({ cls := "NoekeonDeskModel", name := "block", desc := "(IIII)V" } : Jvm.MethodName)) ∈ lw_all := lw_g (lw_at lw_m2 62 rfl) rfl
theorem q309 : (Jvm.Cond.code ({ cls := "NoekeonDeskModel", name := "block", desc := "(IIII)V" } : Jvm.MethodName) prog_8_method_4_code (5 : Nat) (Option.none : Option Jvm.ClassFile.FieldType)) ∈ lw_all := lw_g (lw_at lw_m2 63 rfl) rfl
theorem q311 : (Jvm.Cond.instanceMethod ({ cls := "NoekeonDeskModel", name := "lock", desc := "(I)V" } : Jvm.MethodName)) ∈ lw_all := lw_g (lw_at lw_m2 65 rfl) rfl
theorem q312 : (Jvm.Cond.selects "NoekeonDeskModel" ({ cls := "NoekeonDeskModel", name := "lock", desc := "(I)V" } : Jvm.MethodName) ({ cls := "NoekeonDeskModel", name := "lock", desc := "(I)V" } : Jvm.MethodName)) ∈ lw_all := lw_g (lw_at lw_m2 66 rfl) rfl
theorem q313 : (Jvm.Cond.code ({ cls := "NoekeonDeskModel", name := "lock", desc := "(I)V" } : Jvm.MethodName) prog_8_method_15_code (5 : Nat) (Option.none : Option Jvm.ClassFile.FieldType)) ∈ lw_all := lw_g (lw_at lw_m2 67 rfl) rfl
theorem q314 : (Jvm.Cond.methodLink "NoekeonDeskModel" (47 : Nat) ({ cls := "NoekeonDeskModel", name := "cut", desc := "()[I" } : Jvm.MethodName)) ∈ lw_all := lw_g (lw_at lw_m2 68 rfl) rfl
theorem q315 : (Jvm.Cond.privateMethod ({ cls := "NoekeonDeskModel", name := "cut", desc := "()[I" } : Jvm.MethodName)) ∈ lw_tbl := lw_at lw_m2 69 rfl
theorem q316 : (Jvm.Cond.instanceMethod ({ cls := "NoekeonDeskModel", name := "cut", desc := "()[I" } : Jvm.MethodName)) ∈ lw_all := lw_g (lw_at lw_m2 70 rfl) rfl
theorem q317 : (Jvm.Cond.code ({ cls := "NoekeonDeskModel", name := "cut", desc := "()[I" } : Jvm.MethodName) prog_8_method_14_code (3 : Nat) (Option.some (Jvm.ClassFile.FieldType.array Jvm.ClassFile.FieldType.int))) ∈ lw_all := lw_g (lw_at lw_m2 71 rfl) rfl
theorem q318 : (Jvm.Cond.methodLink "NoekeonDeskModel" (43 : Nat) ({ cls := "NoekeonDeskModel", name := "words", desc := "([I)[I" } : Jvm.MethodName)) ∈ lw_all := lw_g (lw_at lw_m2 72 rfl) rfl
theorem q319 : (Jvm.Cond.static ({ cls := "NoekeonDeskModel", name := "words", desc := "([I)[I" } : Jvm.MethodName)) ∈ lw_all := lw_g (lw_at lw_m2 73 rfl) rfl
theorem q320 : (Jvm.Cond.code ({ cls := "NoekeonDeskModel", name := "words", desc := "([I)[I" } : Jvm.MethodName) prog_8_method_6_code (3 : Nat) (Option.some (Jvm.ClassFile.FieldType.array Jvm.ClassFile.FieldType.int))) ∈ lw_all := lw_g (lw_at lw_m2 74 rfl) rfl
theorem q321 : (Jvm.Cond.methodLink "NoekeonDeskModel" (51 : Nat) ({ cls := "NoekeonDeskModel", name := "constant", desc := "(I)I" } : Jvm.MethodName)) ∈ lw_all := lw_g (lw_at lw_m2 75 rfl) rfl
theorem q322 : (Jvm.Cond.static ({ cls := "NoekeonDeskModel", name := "constant", desc := "(I)I" } : Jvm.MethodName)) ∈ lw_all := lw_g (lw_at lw_m2 76 rfl) rfl
theorem q323 : (Jvm.Cond.code ({ cls := "NoekeonDeskModel", name := "constant", desc := "(I)I" } : Jvm.MethodName) prog_8_method_7_code (3 : Nat) (Option.some Jvm.ClassFile.FieldType.int)) ∈ lw_all := lw_g (lw_at lw_m2 77 rfl) rfl
theorem q324 : (Jvm.Cond.methodLink "NoekeonDeskModel" (54 : Nat) ({ cls := "NoekeonDeskModel", name := "round", desc := "([I[III)V" } : Jvm.MethodName)) ∈ lw_all := lw_g (lw_at lw_m2 78 rfl) rfl
theorem q325 : (Jvm.Cond.static ({ cls := "NoekeonDeskModel", name := "round", desc := "([I[III)V" } : Jvm.MethodName)) ∈ lw_all := lw_g (lw_at lw_m2 79 rfl) rfl
theorem q326 : (Jvm.Cond.code ({ cls := "NoekeonDeskModel", name := "round", desc := "([I[III)V" } : Jvm.MethodName) prog_8_method_12_code (4 : Nat) (Option.none : Option Jvm.ClassFile.FieldType)) ∈ lw_all := lw_g (lw_at lw_m2 80 rfl) rfl
theorem q327 : (Jvm.Cond.methodLink "NoekeonDeskModel" (31 : Nat) ({ cls := "NoekeonDeskModel", name := "theta", desc := "([I[I)V" } : Jvm.MethodName)) ∈ lw_all := lw_g (lw_at lw_m2 81 rfl) rfl
theorem q328 : (Jvm.Cond.static ({ cls := "NoekeonDeskModel", name := "theta", desc := "([I[I)V" } : Jvm.MethodName)) ∈ lw_all := lw_g (lw_at lw_m2 82 rfl) rfl
theorem q329 : (Jvm.Cond.code ({ cls := "NoekeonDeskModel", name := "theta", desc := "([I[I)V" } : Jvm.MethodName) prog_8_method_9_code (4 : Nat) (Option.none : Option Jvm.ClassFile.FieldType)) ∈ lw_all := lw_g (lw_at lw_m2 83 rfl) rfl
theorem q330 : (Jvm.Cond.methodLink "NoekeonDeskModel" (27 : Nat) ({ cls := "NoekeonDeskModel", name := "spread", desc := "(I)I" } : Jvm.MethodName)) ∈ lw_all := lw_g (lw_at lw_m2 84 rfl) rfl
theorem q331 : (Jvm.Cond.static ({ cls := "NoekeonDeskModel", name := "spread", desc := "(I)I" } : Jvm.MethodName)) ∈ lw_all := lw_g (lw_at lw_m2 85 rfl) rfl
theorem q332 : (Jvm.Cond.code ({ cls := "NoekeonDeskModel", name := "spread", desc := "(I)I" } : Jvm.MethodName) prog_8_method_8_code (1 : Nat) (Option.some Jvm.ClassFile.FieldType.int)) ∈ lw_all := lw_g (lw_at lw_m2 86 rfl) rfl
theorem q333 : (Jvm.Cond.methodLink "NoekeonDeskModel" (23 : Nat) ({ cls := "NoekeonDeskModel", name := "turned", desc := "(II)I" } : Jvm.MethodName)) ∈ lw_all := lw_g (lw_at lw_m2 87 rfl) rfl
theorem q334 : (Jvm.Cond.static ({ cls := "NoekeonDeskModel", name := "turned", desc := "(II)I" } : Jvm.MethodName)) ∈ lw_all := lw_g (lw_at lw_m2 88 rfl) rfl
theorem q335 : (Jvm.Cond.code ({ cls := "NoekeonDeskModel", name := "turned", desc := "(II)I" } : Jvm.MethodName) prog_8_method_5_code (2 : Nat) (Option.some Jvm.ClassFile.FieldType.int)) ∈ lw_all := lw_g (lw_at lw_m2 89 rfl) rfl
theorem q336 : (Jvm.Cond.methodLink "NoekeonDeskModel" (35 : Nat) ({ cls := "NoekeonDeskModel", name := "turns", desc := "([IZ)V" } : Jvm.MethodName)) ∈ lw_all := lw_g (lw_at lw_m2 90 rfl) rfl
theorem q337 : (Jvm.Cond.static ({ cls := "NoekeonDeskModel", name := "turns", desc := "([IZ)V" } : Jvm.MethodName)) ∈ lw_all := lw_g (lw_at lw_m2 91 rfl) rfl
theorem q338 : (Jvm.Cond.code ({ cls := "NoekeonDeskModel", name := "turns", desc := "([IZ)V" } : Jvm.MethodName) prog_8_method_10_code (2 : Nat) (Option.none : Option Jvm.ClassFile.FieldType)) ∈ lw_all := lw_g (lw_at lw_m2 92 rfl) rfl
theorem q339 : (Jvm.Cond.methodLink "NoekeonDeskModel" (39 : Nat) ({ cls := "NoekeonDeskModel", name := "gamma", desc := "([I)V" } : Jvm.MethodName)) ∈ lw_all := lw_g (lw_at lw_m2 93 rfl) rfl
theorem q340 : (Jvm.Cond.static ({ cls := "NoekeonDeskModel", name := "gamma", desc := "([I)V" } : Jvm.MethodName)) ∈ lw_all := lw_g (lw_at lw_m2 94 rfl) rfl
theorem q341 : (Jvm.Cond.code ({ cls := "NoekeonDeskModel", name := "gamma", desc := "([I)V" } : Jvm.MethodName) prog_8_method_11_code (2 : Nat) (Option.none : Option Jvm.ClassFile.FieldType)) ∈ lw_all := lw_g (lw_at lw_m2 95 rfl) rfl
theorem q342 : (Jvm.Cond.methodLink "NoekeonDeskModel" (58 : Nat) ({ cls := "NoekeonDeskModel", name := "lays", desc := "([I)V" } : Jvm.MethodName)) ∈ lw_all := lw_g (lw_at lw_m2 96 rfl) rfl
theorem q343 : (Jvm.Cond.privateMethod ({ cls := "NoekeonDeskModel", name := "lays", desc := "([I)V" } : Jvm.MethodName)) ∈ lw_tbl := lw_at lw_m2 97 rfl
theorem q344 : (Jvm.Cond.instanceMethod ({ cls := "NoekeonDeskModel", name := "lays", desc := "([I)V" } : Jvm.MethodName)) ∈ lw_all := lw_g (lw_at lw_m2 98 rfl) rfl
theorem q345 : (Jvm.Cond.code ({ cls := "NoekeonDeskModel", name := "lays", desc := "([I)V" } : Jvm.MethodName) prog_8_method_13_code (3 : Nat) (Option.none : Option Jvm.ClassFile.FieldType)) ∈ lw_all := lw_g (lw_at lw_m2 99 rfl) rfl
theorem q347 : (Jvm.Cond.instanceMethod ({ cls := "NoekeonDeskModel", name := "open", desc := "(I)V" } : Jvm.MethodName)) ∈ lw_all := lw_g (lw_at lw_m2 101 rfl) rfl
theorem q348 : (Jvm.Cond.selects "NoekeonDeskModel" ({ cls := "NoekeonDeskModel", name := "open", desc := "(I)V" } : Jvm.MethodName) ({ cls := "NoekeonDeskModel", name := "open", desc := "(I)V" } : Jvm.MethodName)) ∈ lw_all := lw_g (lw_at lw_m2 102 rfl) rfl
theorem q349 : (Jvm.Cond.code ({ cls := "NoekeonDeskModel", name := "open", desc := "(I)V" } : Jvm.MethodName) prog_8_method_16_code (5 : Nat) (Option.none : Option Jvm.ClassFile.FieldType)) ∈ lw_all := lw_g (lw_at lw_m2 103 rfl) rfl
theorem q351 : (Jvm.Cond.instanceMethod ({ cls := "NoekeonDeskModel", name := "again", desc := "()V" } : Jvm.MethodName)) ∈ lw_all := lw_g (lw_at lw_m2 105 rfl) rfl
theorem q352 : (Jvm.Cond.selects "NoekeonDeskModel" ({ cls := "NoekeonDeskModel", name := "again", desc := "()V" } : Jvm.MethodName) ({ cls := "NoekeonDeskModel", name := "again", desc := "()V" } : Jvm.MethodName)) ∈ lw_all := lw_g (lw_at lw_m2 106 rfl) rfl
theorem q353 : (Jvm.Cond.code ({ cls := "NoekeonDeskModel", name := "again", desc := "()V" } : Jvm.MethodName) prog_8_method_17_code (2 : Nat) (Option.none : Option Jvm.ClassFile.FieldType)) ∈ lw_all := lw_g (lw_at lw_m2 107 rfl) rfl
theorem q355 : (Jvm.Cond.instanceMethod ({ cls := "NoekeonDeskModel", name := "out", desc := "(I)I" } : Jvm.MethodName)) ∈ lw_all := lw_g (lw_at lw_m2 109 rfl) rfl
theorem q356 : (Jvm.Cond.selects "NoekeonDeskModel" ({ cls := "NoekeonDeskModel", name := "out", desc := "(I)I" } : Jvm.MethodName) ({ cls := "NoekeonDeskModel", name := "out", desc := "(I)I" } : Jvm.MethodName)) ∈ lw_all := lw_g (lw_at lw_m2 110 rfl) rfl
theorem q357 : (Jvm.Cond.code ({ cls := "NoekeonDeskModel", name := "out", desc := "(I)I" } : Jvm.MethodName) prog_8_method_18_code (2 : Nat) (Option.some Jvm.ClassFile.FieldType.int)) ∈ lw_all := lw_g (lw_at lw_m2 111 rfl) rfl
theorem in_X1 : ∀ w ∈ wsX10, w ∈ lw_all := lw_in wsX10 [292, 294, 296] (by decide +kernel) (by decide +kernel)
end
section
/-! NoekeonEngine -/
set_option maxRecDepth 100000
def RX2 : String := "NoekeonEngine"
def TX2 : u_T := fun k => match k with
  | 0 => ("NoekeonEngine", "k", "[I", true)
  | 1 => ("NoekeonEngine", "_initialised", "Z", false)
  | _ => ("NoekeonEngine", "_forEncryption", "Z", false)
def tyX2 : Nat → FieldType := fun k => match k with
  | 0 => .array .int
  | 1 => .boolean
  | _ => .boolean
abbrev wsX20 : List Cond := u_ws RX2 TX2 3
theorem nmX2 : ∀ a, a < 3 → ∀ b, b < 3 → a ≠ b → (TX2 a).2.1 ≠ (TX2 b).2.1 := by decide +kernel
theorem tyX2_ok : ∀ k, k < 3 → parseFieldDescriptor (TX2 k).2.2.1 = some (tyX2 k) := by decide +kernel
abbrev cX2_init : ByteArray := prog_9_method_1_code
def yX2_init : MethodName := ⟨RX2, "<init>", "()V"⟩
def dkwX2_init_0 : List UInt8 := [42, 183, 0, 1, 42, 7, 188, 10, 181, 0, 7, 42, 3, 181, 0, 13, 177]
abbrev dktX2_init_0 : List UInt8 := dkwX2_init_0 ++ []
theorem dksX2_init_0 : cX2_init.data.toList.drop 0 = dktX2_init_0 := by decide +kernel
theorem dX2_init_0 : decode cX2_init 0 = .ok (.aload_n 0, 1) := dk_42 (dk_at dksX2_init_0 0 rfl rfl)
theorem dX2_init_1 : decode cX2_init 1 = .ok (.invokespecial 1, 3) := dk_183 0 1 (dk_at dksX2_init_0 1 rfl rfl)
theorem dX2_init_4 : decode cX2_init 4 = .ok (.aload_n 0, 1) := dk_42 (dk_at dksX2_init_0 4 rfl rfl)
theorem dX2_init_5 : decode cX2_init 5 = .ok (.iconst 4, 1) := dk_7 (dk_at dksX2_init_0 5 rfl rfl)
theorem dX2_init_6 : decode cX2_init 6 = .ok (.newarray .int, 2) := dk_188_10 (dk_at dksX2_init_0 6 rfl rfl)
theorem dX2_init_8 : decode cX2_init 8 = .ok (.putfield 7, 3) := dk_181 0 7 (dk_at dksX2_init_0 8 rfl rfl)
theorem dX2_init_11 : decode cX2_init 11 = .ok (.aload_n 0, 1) := dk_42 (dk_at dksX2_init_0 11 rfl rfl)
theorem dX2_init_12 : decode cX2_init 12 = .ok (.iconst 0, 1) := dk_3 (dk_at dksX2_init_0 12 rfl rfl)
theorem dX2_init_13 : decode cX2_init 13 = .ok (.putfield 13, 3) := dk_181 0 13 (dk_at dksX2_init_0 13 rfl rfl)
theorem dX2_init_16 : decode cX2_init 16 = .ok (.return_, 1) := dk_177 (dk_at dksX2_init_0 16 rfl rfl)
abbrev cX2_init_2 : ByteArray := prog_9_method_2_code
def yX2_init_2 : MethodName := ⟨RX2, "init", "(ZLCipherParameters;)V"⟩
def dkwX2_init_2_9 : List UInt8 := [181, 0, 44, 42, 4, 181, 0, 13, 177]
abbrev dktX2_init_2_9 : List UInt8 := dkwX2_init_2_9 ++ []
def dkwX2_init_2_8 : List UInt8 := [4, 21, 6, 79, 42, 180, 0, 7, 5, 21, 7, 79, 42, 180, 0, 7, 6, 21, 8, 79, 42, 27]
abbrev dktX2_init_2_8 : List UInt8 := dkwX2_init_2_8 ++ dktX2_init_2_9
def dkwX2_init_2_7 : List UInt8 := [21, 10, 130, 54, 7, 21, 8, 21, 9, 130, 54, 8, 42, 180, 0, 7, 3, 21, 5, 79, 42, 180, 0, 7]
abbrev dktX2_init_2_7 : List UInt8 := dkwX2_init_2_7 ++ dktX2_init_2_8
def dkwX2_init_2_6 : List UInt8 := [184, 0, 38, 130, 130, 54, 10, 21, 5, 21, 10, 130, 54, 5, 21, 6, 21, 9, 130, 54, 6, 21, 7]
abbrev dktX2_init_2_6 : List UInt8 := dkwX2_init_2_6 ++ dktX2_init_2_7
def dkwX2_init_2_5 : List UInt8 := [130, 54, 9, 21, 6, 21, 8, 130, 54, 10, 21, 10, 21, 10, 16, 8, 184, 0, 38, 21, 10, 16, 24]
abbrev dktX2_init_2_5 : List UInt8 := dkwX2_init_2_5 ++ dktX2_init_2_6
def dkwX2_init_2_4 : List UInt8 := [21, 5, 21, 7, 130, 54, 9, 21, 9, 21, 9, 16, 8, 184, 0, 38, 21, 9, 16, 24, 184, 0, 38, 130]
abbrev dktX2_init_2_4 : List UInt8 := dkwX2_init_2_4 ++ dktX2_init_2_5
def dkwX2_init_2_3 : List UInt8 := [42, 180, 0, 7, 4, 46, 54, 6, 42, 180, 0, 7, 5, 46, 54, 7, 42, 180, 0, 7, 6, 46, 54, 8]
abbrev dktX2_init_2_3 : List UInt8 := dkwX2_init_2_3 ++ dktX2_init_2_4
def dkwX2_init_2_2 : List UInt8 := [25, 4, 3, 42, 180, 0, 7, 3, 7, 184, 0, 32, 27, 154, 0, 149, 42, 180, 0, 7, 3, 46, 54, 5]
abbrev dktX2_init_2_2 : List UInt8 := dkwX2_init_2_2 ++ dktX2_init_2_3
def dkwX2_init_2_1 : List UInt8 := [182, 0, 26, 58, 4, 25, 4, 190, 16, 16, 159, 0, 13, 187, 0, 19, 89, 18, 30, 183, 0, 23, 191]
abbrev dktX2_init_2_1 : List UInt8 := dkwX2_init_2_1 ++ dktX2_init_2_2
def dkwX2_init_2_0 : List UInt8 := [44, 193, 0, 17, 154, 0, 13, 187, 0, 19, 89, 18, 21, 183, 0, 23, 191, 44, 192, 0, 17, 78, 45]
abbrev dktX2_init_2_0 : List UInt8 := dkwX2_init_2_0 ++ dktX2_init_2_1
theorem dksX2_init_2_0 : cX2_init_2.data.toList.drop 0 = dktX2_init_2_0 := by decide +kernel
theorem dksX2_init_2_1 : cX2_init_2.data.toList.drop 23 = dktX2_init_2_1 := dk_seg dksX2_init_2_0 23 rfl rfl
theorem dksX2_init_2_2 : cX2_init_2.data.toList.drop 46 = dktX2_init_2_2 := dk_seg dksX2_init_2_1 23 rfl rfl
theorem dksX2_init_2_3 : cX2_init_2.data.toList.drop 70 = dktX2_init_2_3 := dk_seg dksX2_init_2_2 24 rfl rfl
theorem dksX2_init_2_4 : cX2_init_2.data.toList.drop 94 = dktX2_init_2_4 := dk_seg dksX2_init_2_3 24 rfl rfl
theorem dksX2_init_2_5 : cX2_init_2.data.toList.drop 118 = dktX2_init_2_5 := dk_seg dksX2_init_2_4 24 rfl rfl
theorem dksX2_init_2_6 : cX2_init_2.data.toList.drop 141 = dktX2_init_2_6 := dk_seg dksX2_init_2_5 23 rfl rfl
theorem dksX2_init_2_7 : cX2_init_2.data.toList.drop 164 = dktX2_init_2_7 := dk_seg dksX2_init_2_6 23 rfl rfl
theorem dksX2_init_2_8 : cX2_init_2.data.toList.drop 188 = dktX2_init_2_8 := dk_seg dksX2_init_2_7 24 rfl rfl
theorem dksX2_init_2_9 : cX2_init_2.data.toList.drop 210 = dktX2_init_2_9 := dk_seg dksX2_init_2_8 22 rfl rfl
theorem dX2_init_2_0 : decode cX2_init_2 0 = .ok (.aload_n 2, 1) := dk_44 (dk_at dksX2_init_2_0 0 rfl rfl)
theorem dX2_init_2_1 : decode cX2_init_2 1 = .ok (.instanceof 17, 3) := dk_193 0 17 (dk_at dksX2_init_2_0 1 rfl rfl)
theorem dX2_init_2_4 : decode cX2_init_2 4 = .ok (.ifCond .ne 13, 3) := dk_154 0 13 (dk_at dksX2_init_2_0 4 rfl rfl)
theorem dX2_init_2_7 : decode cX2_init_2 7 = .ok (.new 19, 3) := dk_187 0 19 (dk_at dksX2_init_2_0 7 rfl rfl)
theorem dX2_init_2_10 : decode cX2_init_2 10 = .ok (.dup, 1) := dk_89 (dk_at dksX2_init_2_0 10 rfl rfl)
theorem dX2_init_2_11 : decode cX2_init_2 11 = .ok (.ldc 21, 2) := dk_18 21 (dk_at dksX2_init_2_0 11 rfl rfl)
theorem dX2_init_2_13 : decode cX2_init_2 13 = .ok (.invokespecial 23, 3) := dk_183 0 23 (dk_at dksX2_init_2_0 13 rfl rfl)
theorem dX2_init_2_16 : decode cX2_init_2 16 = .ok (.athrow, 1) := dk_191 (dk_at dksX2_init_2_0 16 rfl rfl)
theorem dX2_init_2_17 : decode cX2_init_2 17 = .ok (.aload_n 2, 1) := dk_44 (dk_at dksX2_init_2_0 17 rfl rfl)
theorem dX2_init_2_18 : decode cX2_init_2 18 = .ok (.checkcast 17, 3) := dk_192 0 17 (dk_at dksX2_init_2_0 18 rfl rfl)
theorem dX2_init_2_21 : decode cX2_init_2 21 = .ok (.astore_n 3, 1) := dk_78 (dk_at dksX2_init_2_0 21 rfl rfl)
theorem dX2_init_2_22 : decode cX2_init_2 22 = .ok (.aload_n 3, 1) := dk_45 (dk_at dksX2_init_2_0 22 rfl rfl)
theorem dX2_init_2_23 : decode cX2_init_2 23 = .ok (.invokevirtual 26, 3) := dk_182 0 26 (dk_at dksX2_init_2_1 0 rfl rfl)
theorem dX2_init_2_26 : decode cX2_init_2 26 = .ok (.astore 4, 2) := dk_58 4 (dk_at dksX2_init_2_1 3 rfl rfl)
theorem dX2_init_2_28 : decode cX2_init_2 28 = .ok (.aload 4, 2) := dk_25 4 (dk_at dksX2_init_2_1 5 rfl rfl)
theorem dX2_init_2_30 : decode cX2_init_2 30 = .ok (.arraylength, 1) := dk_190 (dk_at dksX2_init_2_1 7 rfl rfl)
theorem dX2_init_2_31 : decode cX2_init_2 31 = .ok (.bipush 16, 2) := dk_16 16 (dk_at dksX2_init_2_1 8 rfl rfl)
theorem dX2_init_2_33 : decode cX2_init_2 33 = .ok (.if_icmp .eq 13, 3) := dk_159 0 13 (dk_at dksX2_init_2_1 10 rfl rfl)
theorem dX2_init_2_36 : decode cX2_init_2 36 = .ok (.new 19, 3) := dk_187 0 19 (dk_at dksX2_init_2_1 13 rfl rfl)
theorem dX2_init_2_39 : decode cX2_init_2 39 = .ok (.dup, 1) := dk_89 (dk_at dksX2_init_2_1 16 rfl rfl)
theorem dX2_init_2_40 : decode cX2_init_2 40 = .ok (.ldc 30, 2) := dk_18 30 (dk_at dksX2_init_2_1 17 rfl rfl)
theorem dX2_init_2_42 : decode cX2_init_2 42 = .ok (.invokespecial 23, 3) := dk_183 0 23 (dk_at dksX2_init_2_1 19 rfl rfl)
theorem dX2_init_2_45 : decode cX2_init_2 45 = .ok (.athrow, 1) := dk_191 (dk_at dksX2_init_2_1 22 rfl rfl)
theorem dX2_init_2_46 : decode cX2_init_2 46 = .ok (.aload 4, 2) := dk_25 4 (dk_at dksX2_init_2_2 0 rfl rfl)
theorem dX2_init_2_48 : decode cX2_init_2 48 = .ok (.iconst 0, 1) := dk_3 (dk_at dksX2_init_2_2 2 rfl rfl)
theorem dX2_init_2_49 : decode cX2_init_2 49 = .ok (.aload_n 0, 1) := dk_42 (dk_at dksX2_init_2_2 3 rfl rfl)
theorem dX2_init_2_50 : decode cX2_init_2 50 = .ok (.getfield 7, 3) := dk_180 0 7 (dk_at dksX2_init_2_2 4 rfl rfl)
theorem dX2_init_2_53 : decode cX2_init_2 53 = .ok (.iconst 0, 1) := dk_3 (dk_at dksX2_init_2_2 7 rfl rfl)
theorem dX2_init_2_54 : decode cX2_init_2 54 = .ok (.iconst 4, 1) := dk_7 (dk_at dksX2_init_2_2 8 rfl rfl)
theorem dX2_init_2_55 : decode cX2_init_2 55 = .ok (.invokestatic 32, 3) := dk_184 0 32 (dk_at dksX2_init_2_2 9 rfl rfl)
theorem dX2_init_2_58 : decode cX2_init_2 58 = .ok (.iload_n 1, 1) := dk_27 (dk_at dksX2_init_2_2 12 rfl rfl)
theorem dX2_init_2_59 : decode cX2_init_2 59 = .ok (.ifCond .ne 149, 3) := dk_154 0 149 (dk_at dksX2_init_2_2 13 rfl rfl)
theorem dX2_init_2_62 : decode cX2_init_2 62 = .ok (.aload_n 0, 1) := dk_42 (dk_at dksX2_init_2_2 16 rfl rfl)
theorem dX2_init_2_63 : decode cX2_init_2 63 = .ok (.getfield 7, 3) := dk_180 0 7 (dk_at dksX2_init_2_2 17 rfl rfl)
theorem dX2_init_2_66 : decode cX2_init_2 66 = .ok (.iconst 0, 1) := dk_3 (dk_at dksX2_init_2_2 20 rfl rfl)
theorem dX2_init_2_67 : decode cX2_init_2 67 = .ok (.iaload, 1) := dk_46 (dk_at dksX2_init_2_2 21 rfl rfl)
theorem dX2_init_2_68 : decode cX2_init_2 68 = .ok (.istore 5, 2) := dk_54 5 (dk_at dksX2_init_2_2 22 rfl rfl)
theorem dX2_init_2_70 : decode cX2_init_2 70 = .ok (.aload_n 0, 1) := dk_42 (dk_at dksX2_init_2_3 0 rfl rfl)
theorem dX2_init_2_71 : decode cX2_init_2 71 = .ok (.getfield 7, 3) := dk_180 0 7 (dk_at dksX2_init_2_3 1 rfl rfl)
theorem dX2_init_2_74 : decode cX2_init_2 74 = .ok (.iconst 1, 1) := dk_4 (dk_at dksX2_init_2_3 4 rfl rfl)
theorem dX2_init_2_75 : decode cX2_init_2 75 = .ok (.iaload, 1) := dk_46 (dk_at dksX2_init_2_3 5 rfl rfl)
theorem dX2_init_2_76 : decode cX2_init_2 76 = .ok (.istore 6, 2) := dk_54 6 (dk_at dksX2_init_2_3 6 rfl rfl)
theorem dX2_init_2_78 : decode cX2_init_2 78 = .ok (.aload_n 0, 1) := dk_42 (dk_at dksX2_init_2_3 8 rfl rfl)
theorem dX2_init_2_79 : decode cX2_init_2 79 = .ok (.getfield 7, 3) := dk_180 0 7 (dk_at dksX2_init_2_3 9 rfl rfl)
theorem dX2_init_2_82 : decode cX2_init_2 82 = .ok (.iconst 2, 1) := dk_5 (dk_at dksX2_init_2_3 12 rfl rfl)
theorem dX2_init_2_83 : decode cX2_init_2 83 = .ok (.iaload, 1) := dk_46 (dk_at dksX2_init_2_3 13 rfl rfl)
theorem dX2_init_2_84 : decode cX2_init_2 84 = .ok (.istore 7, 2) := dk_54 7 (dk_at dksX2_init_2_3 14 rfl rfl)
theorem dX2_init_2_86 : decode cX2_init_2 86 = .ok (.aload_n 0, 1) := dk_42 (dk_at dksX2_init_2_3 16 rfl rfl)
theorem dX2_init_2_87 : decode cX2_init_2 87 = .ok (.getfield 7, 3) := dk_180 0 7 (dk_at dksX2_init_2_3 17 rfl rfl)
theorem dX2_init_2_90 : decode cX2_init_2 90 = .ok (.iconst 3, 1) := dk_6 (dk_at dksX2_init_2_3 20 rfl rfl)
theorem dX2_init_2_91 : decode cX2_init_2 91 = .ok (.iaload, 1) := dk_46 (dk_at dksX2_init_2_3 21 rfl rfl)
theorem dX2_init_2_92 : decode cX2_init_2 92 = .ok (.istore 8, 2) := dk_54 8 (dk_at dksX2_init_2_3 22 rfl rfl)
theorem dX2_init_2_94 : decode cX2_init_2 94 = .ok (.iload 5, 2) := dk_21 5 (dk_at dksX2_init_2_4 0 rfl rfl)
theorem dX2_init_2_96 : decode cX2_init_2 96 = .ok (.iload 7, 2) := dk_21 7 (dk_at dksX2_init_2_4 2 rfl rfl)
theorem dX2_init_2_98 : decode cX2_init_2 98 = .ok (.ixor, 1) := dk_130 (dk_at dksX2_init_2_4 4 rfl rfl)
theorem dX2_init_2_99 : decode cX2_init_2 99 = .ok (.istore 9, 2) := dk_54 9 (dk_at dksX2_init_2_4 5 rfl rfl)
theorem dX2_init_2_101 : decode cX2_init_2 101 = .ok (.iload 9, 2) := dk_21 9 (dk_at dksX2_init_2_4 7 rfl rfl)
theorem dX2_init_2_103 : decode cX2_init_2 103 = .ok (.iload 9, 2) := dk_21 9 (dk_at dksX2_init_2_4 9 rfl rfl)
theorem dX2_init_2_105 : decode cX2_init_2 105 = .ok (.bipush 8, 2) := dk_16 8 (dk_at dksX2_init_2_4 11 rfl rfl)
theorem dX2_init_2_107 : decode cX2_init_2 107 = .ok (.invokestatic 38, 3) := dk_184 0 38 (dk_at dksX2_init_2_4 13 rfl rfl)
theorem dX2_init_2_110 : decode cX2_init_2 110 = .ok (.iload 9, 2) := dk_21 9 (dk_at dksX2_init_2_4 16 rfl rfl)
theorem dX2_init_2_112 : decode cX2_init_2 112 = .ok (.bipush 24, 2) := dk_16 24 (dk_at dksX2_init_2_4 18 rfl rfl)
theorem dX2_init_2_114 : decode cX2_init_2 114 = .ok (.invokestatic 38, 3) := dk_184 0 38 (dk_at dksX2_init_2_4 20 rfl rfl)
theorem dX2_init_2_117 : decode cX2_init_2 117 = .ok (.ixor, 1) := dk_130 (dk_at dksX2_init_2_4 23 rfl rfl)
theorem dX2_init_2_118 : decode cX2_init_2 118 = .ok (.ixor, 1) := dk_130 (dk_at dksX2_init_2_5 0 rfl rfl)
theorem dX2_init_2_119 : decode cX2_init_2 119 = .ok (.istore 9, 2) := dk_54 9 (dk_at dksX2_init_2_5 1 rfl rfl)
theorem dX2_init_2_121 : decode cX2_init_2 121 = .ok (.iload 6, 2) := dk_21 6 (dk_at dksX2_init_2_5 3 rfl rfl)
theorem dX2_init_2_123 : decode cX2_init_2 123 = .ok (.iload 8, 2) := dk_21 8 (dk_at dksX2_init_2_5 5 rfl rfl)
theorem dX2_init_2_125 : decode cX2_init_2 125 = .ok (.ixor, 1) := dk_130 (dk_at dksX2_init_2_5 7 rfl rfl)
theorem dX2_init_2_126 : decode cX2_init_2 126 = .ok (.istore 10, 2) := dk_54 10 (dk_at dksX2_init_2_5 8 rfl rfl)
theorem dX2_init_2_128 : decode cX2_init_2 128 = .ok (.iload 10, 2) := dk_21 10 (dk_at dksX2_init_2_5 10 rfl rfl)
theorem dX2_init_2_130 : decode cX2_init_2 130 = .ok (.iload 10, 2) := dk_21 10 (dk_at dksX2_init_2_5 12 rfl rfl)
theorem dX2_init_2_132 : decode cX2_init_2 132 = .ok (.bipush 8, 2) := dk_16 8 (dk_at dksX2_init_2_5 14 rfl rfl)
theorem dX2_init_2_134 : decode cX2_init_2 134 = .ok (.invokestatic 38, 3) := dk_184 0 38 (dk_at dksX2_init_2_5 16 rfl rfl)
theorem dX2_init_2_137 : decode cX2_init_2 137 = .ok (.iload 10, 2) := dk_21 10 (dk_at dksX2_init_2_5 19 rfl rfl)
theorem dX2_init_2_139 : decode cX2_init_2 139 = .ok (.bipush 24, 2) := dk_16 24 (dk_at dksX2_init_2_5 21 rfl rfl)
theorem dX2_init_2_141 : decode cX2_init_2 141 = .ok (.invokestatic 38, 3) := dk_184 0 38 (dk_at dksX2_init_2_6 0 rfl rfl)
theorem dX2_init_2_144 : decode cX2_init_2 144 = .ok (.ixor, 1) := dk_130 (dk_at dksX2_init_2_6 3 rfl rfl)
theorem dX2_init_2_145 : decode cX2_init_2 145 = .ok (.ixor, 1) := dk_130 (dk_at dksX2_init_2_6 4 rfl rfl)
theorem dX2_init_2_146 : decode cX2_init_2 146 = .ok (.istore 10, 2) := dk_54 10 (dk_at dksX2_init_2_6 5 rfl rfl)
theorem dX2_init_2_148 : decode cX2_init_2 148 = .ok (.iload 5, 2) := dk_21 5 (dk_at dksX2_init_2_6 7 rfl rfl)
theorem dX2_init_2_150 : decode cX2_init_2 150 = .ok (.iload 10, 2) := dk_21 10 (dk_at dksX2_init_2_6 9 rfl rfl)
theorem dX2_init_2_152 : decode cX2_init_2 152 = .ok (.ixor, 1) := dk_130 (dk_at dksX2_init_2_6 11 rfl rfl)
theorem dX2_init_2_153 : decode cX2_init_2 153 = .ok (.istore 5, 2) := dk_54 5 (dk_at dksX2_init_2_6 12 rfl rfl)
theorem dX2_init_2_155 : decode cX2_init_2 155 = .ok (.iload 6, 2) := dk_21 6 (dk_at dksX2_init_2_6 14 rfl rfl)
theorem dX2_init_2_157 : decode cX2_init_2 157 = .ok (.iload 9, 2) := dk_21 9 (dk_at dksX2_init_2_6 16 rfl rfl)
theorem dX2_init_2_159 : decode cX2_init_2 159 = .ok (.ixor, 1) := dk_130 (dk_at dksX2_init_2_6 18 rfl rfl)
theorem dX2_init_2_160 : decode cX2_init_2 160 = .ok (.istore 6, 2) := dk_54 6 (dk_at dksX2_init_2_6 19 rfl rfl)
theorem dX2_init_2_162 : decode cX2_init_2 162 = .ok (.iload 7, 2) := dk_21 7 (dk_at dksX2_init_2_6 21 rfl rfl)
theorem dX2_init_2_164 : decode cX2_init_2 164 = .ok (.iload 10, 2) := dk_21 10 (dk_at dksX2_init_2_7 0 rfl rfl)
theorem dX2_init_2_166 : decode cX2_init_2 166 = .ok (.ixor, 1) := dk_130 (dk_at dksX2_init_2_7 2 rfl rfl)
theorem dX2_init_2_167 : decode cX2_init_2 167 = .ok (.istore 7, 2) := dk_54 7 (dk_at dksX2_init_2_7 3 rfl rfl)
theorem dX2_init_2_169 : decode cX2_init_2 169 = .ok (.iload 8, 2) := dk_21 8 (dk_at dksX2_init_2_7 5 rfl rfl)
theorem dX2_init_2_171 : decode cX2_init_2 171 = .ok (.iload 9, 2) := dk_21 9 (dk_at dksX2_init_2_7 7 rfl rfl)
theorem dX2_init_2_173 : decode cX2_init_2 173 = .ok (.ixor, 1) := dk_130 (dk_at dksX2_init_2_7 9 rfl rfl)
theorem dX2_init_2_174 : decode cX2_init_2 174 = .ok (.istore 8, 2) := dk_54 8 (dk_at dksX2_init_2_7 10 rfl rfl)
theorem dX2_init_2_176 : decode cX2_init_2 176 = .ok (.aload_n 0, 1) := dk_42 (dk_at dksX2_init_2_7 12 rfl rfl)
theorem dX2_init_2_177 : decode cX2_init_2 177 = .ok (.getfield 7, 3) := dk_180 0 7 (dk_at dksX2_init_2_7 13 rfl rfl)
theorem dX2_init_2_180 : decode cX2_init_2 180 = .ok (.iconst 0, 1) := dk_3 (dk_at dksX2_init_2_7 16 rfl rfl)
theorem dX2_init_2_181 : decode cX2_init_2 181 = .ok (.iload 5, 2) := dk_21 5 (dk_at dksX2_init_2_7 17 rfl rfl)
theorem dX2_init_2_183 : decode cX2_init_2 183 = .ok (.iastore, 1) := dk_79 (dk_at dksX2_init_2_7 19 rfl rfl)
theorem dX2_init_2_184 : decode cX2_init_2 184 = .ok (.aload_n 0, 1) := dk_42 (dk_at dksX2_init_2_7 20 rfl rfl)
theorem dX2_init_2_185 : decode cX2_init_2 185 = .ok (.getfield 7, 3) := dk_180 0 7 (dk_at dksX2_init_2_7 21 rfl rfl)
theorem dX2_init_2_188 : decode cX2_init_2 188 = .ok (.iconst 1, 1) := dk_4 (dk_at dksX2_init_2_8 0 rfl rfl)
theorem dX2_init_2_189 : decode cX2_init_2 189 = .ok (.iload 6, 2) := dk_21 6 (dk_at dksX2_init_2_8 1 rfl rfl)
theorem dX2_init_2_191 : decode cX2_init_2 191 = .ok (.iastore, 1) := dk_79 (dk_at dksX2_init_2_8 3 rfl rfl)
theorem dX2_init_2_192 : decode cX2_init_2 192 = .ok (.aload_n 0, 1) := dk_42 (dk_at dksX2_init_2_8 4 rfl rfl)
theorem dX2_init_2_193 : decode cX2_init_2 193 = .ok (.getfield 7, 3) := dk_180 0 7 (dk_at dksX2_init_2_8 5 rfl rfl)
theorem dX2_init_2_196 : decode cX2_init_2 196 = .ok (.iconst 2, 1) := dk_5 (dk_at dksX2_init_2_8 8 rfl rfl)
theorem dX2_init_2_197 : decode cX2_init_2 197 = .ok (.iload 7, 2) := dk_21 7 (dk_at dksX2_init_2_8 9 rfl rfl)
theorem dX2_init_2_199 : decode cX2_init_2 199 = .ok (.iastore, 1) := dk_79 (dk_at dksX2_init_2_8 11 rfl rfl)
theorem dX2_init_2_200 : decode cX2_init_2 200 = .ok (.aload_n 0, 1) := dk_42 (dk_at dksX2_init_2_8 12 rfl rfl)
theorem dX2_init_2_201 : decode cX2_init_2 201 = .ok (.getfield 7, 3) := dk_180 0 7 (dk_at dksX2_init_2_8 13 rfl rfl)
theorem dX2_init_2_204 : decode cX2_init_2 204 = .ok (.iconst 3, 1) := dk_6 (dk_at dksX2_init_2_8 16 rfl rfl)
theorem dX2_init_2_205 : decode cX2_init_2 205 = .ok (.iload 8, 2) := dk_21 8 (dk_at dksX2_init_2_8 17 rfl rfl)
theorem dX2_init_2_207 : decode cX2_init_2 207 = .ok (.iastore, 1) := dk_79 (dk_at dksX2_init_2_8 19 rfl rfl)
theorem dX2_init_2_208 : decode cX2_init_2 208 = .ok (.aload_n 0, 1) := dk_42 (dk_at dksX2_init_2_8 20 rfl rfl)
theorem dX2_init_2_209 : decode cX2_init_2 209 = .ok (.iload_n 1, 1) := dk_27 (dk_at dksX2_init_2_8 21 rfl rfl)
theorem dX2_init_2_210 : decode cX2_init_2 210 = .ok (.putfield 44, 3) := dk_181 0 44 (dk_at dksX2_init_2_9 0 rfl rfl)
theorem dX2_init_2_213 : decode cX2_init_2 213 = .ok (.aload_n 0, 1) := dk_42 (dk_at dksX2_init_2_9 3 rfl rfl)
theorem dX2_init_2_214 : decode cX2_init_2 214 = .ok (.iconst 1, 1) := dk_4 (dk_at dksX2_init_2_9 4 rfl rfl)
theorem dX2_init_2_215 : decode cX2_init_2 215 = .ok (.putfield 13, 3) := dk_181 0 13 (dk_at dksX2_init_2_9 5 rfl rfl)
theorem dX2_init_2_218 : decode cX2_init_2 218 = .ok (.return_, 1) := dk_177 (dk_at dksX2_init_2_9 8 rfl rfl)
abbrev cX2_processBlock : ByteArray := prog_9_method_3_code
def yX2_processBlock : MethodName := ⟨RX2, "processBlock", "([BI[BI)I"⟩
def dkwX2_processBlock_3 : List UInt8 := [182, 0, 60, 167, 0, 12, 42, 43, 28, 45, 21, 4, 182, 0, 64, 172]
abbrev dktX2_processBlock_3 : List UInt8 := dkwX2_processBlock_3 ++ []
def dkwX2_processBlock_2 : List UInt8 := [187, 0, 55, 89, 18, 57, 183, 0, 59, 191, 42, 180, 0, 44, 153, 0, 15, 42, 43, 28, 45, 21, 4]
abbrev dktX2_processBlock_2 : List UInt8 := dkwX2_processBlock_2 ++ dktX2_processBlock_3
def dkwX2_processBlock_1 : List UInt8 := [164, 0, 13, 187, 0, 50, 89, 18, 52, 183, 0, 54, 191, 21, 4, 45, 190, 16, 16, 100, 164, 0, 13]
abbrev dktX2_processBlock_1 : List UInt8 := dkwX2_processBlock_1 ++ dktX2_processBlock_2
def dkwX2_processBlock_0 : List UInt8 := [42, 180, 0, 13, 154, 0, 13, 187, 0, 47, 89, 18, 21, 183, 0, 49, 191, 28, 43, 190, 16, 16, 100]
abbrev dktX2_processBlock_0 : List UInt8 := dkwX2_processBlock_0 ++ dktX2_processBlock_1
theorem dksX2_processBlock_0 : cX2_processBlock.data.toList.drop 0 = dktX2_processBlock_0 := by decide +kernel
theorem dksX2_processBlock_1 : cX2_processBlock.data.toList.drop 23 = dktX2_processBlock_1 := dk_seg dksX2_processBlock_0 23 rfl rfl
theorem dksX2_processBlock_2 : cX2_processBlock.data.toList.drop 46 = dktX2_processBlock_2 := dk_seg dksX2_processBlock_1 23 rfl rfl
theorem dksX2_processBlock_3 : cX2_processBlock.data.toList.drop 69 = dktX2_processBlock_3 := dk_seg dksX2_processBlock_2 23 rfl rfl
theorem dX2_processBlock_0 : decode cX2_processBlock 0 = .ok (.aload_n 0, 1) := dk_42 (dk_at dksX2_processBlock_0 0 rfl rfl)
theorem dX2_processBlock_1 : decode cX2_processBlock 1 = .ok (.getfield 13, 3) := dk_180 0 13 (dk_at dksX2_processBlock_0 1 rfl rfl)
theorem dX2_processBlock_4 : decode cX2_processBlock 4 = .ok (.ifCond .ne 13, 3) := dk_154 0 13 (dk_at dksX2_processBlock_0 4 rfl rfl)
theorem dX2_processBlock_7 : decode cX2_processBlock 7 = .ok (.new 47, 3) := dk_187 0 47 (dk_at dksX2_processBlock_0 7 rfl rfl)
theorem dX2_processBlock_10 : decode cX2_processBlock 10 = .ok (.dup, 1) := dk_89 (dk_at dksX2_processBlock_0 10 rfl rfl)
theorem dX2_processBlock_11 : decode cX2_processBlock 11 = .ok (.ldc 21, 2) := dk_18 21 (dk_at dksX2_processBlock_0 11 rfl rfl)
theorem dX2_processBlock_13 : decode cX2_processBlock 13 = .ok (.invokespecial 49, 3) := dk_183 0 49 (dk_at dksX2_processBlock_0 13 rfl rfl)
theorem dX2_processBlock_16 : decode cX2_processBlock 16 = .ok (.athrow, 1) := dk_191 (dk_at dksX2_processBlock_0 16 rfl rfl)
theorem dX2_processBlock_17 : decode cX2_processBlock 17 = .ok (.iload_n 2, 1) := dk_28 (dk_at dksX2_processBlock_0 17 rfl rfl)
theorem dX2_processBlock_18 : decode cX2_processBlock 18 = .ok (.aload_n 1, 1) := dk_43 (dk_at dksX2_processBlock_0 18 rfl rfl)
theorem dX2_processBlock_19 : decode cX2_processBlock 19 = .ok (.arraylength, 1) := dk_190 (dk_at dksX2_processBlock_0 19 rfl rfl)
theorem dX2_processBlock_20 : decode cX2_processBlock 20 = .ok (.bipush 16, 2) := dk_16 16 (dk_at dksX2_processBlock_0 20 rfl rfl)
theorem dX2_processBlock_22 : decode cX2_processBlock 22 = .ok (.isub, 1) := dk_100 (dk_at dksX2_processBlock_0 22 rfl rfl)
theorem dX2_processBlock_23 : decode cX2_processBlock 23 = .ok (.if_icmp .le 13, 3) := dk_164 0 13 (dk_at dksX2_processBlock_1 0 rfl rfl)
theorem dX2_processBlock_26 : decode cX2_processBlock 26 = .ok (.new 50, 3) := dk_187 0 50 (dk_at dksX2_processBlock_1 3 rfl rfl)
theorem dX2_processBlock_29 : decode cX2_processBlock 29 = .ok (.dup, 1) := dk_89 (dk_at dksX2_processBlock_1 6 rfl rfl)
theorem dX2_processBlock_30 : decode cX2_processBlock 30 = .ok (.ldc 52, 2) := dk_18 52 (dk_at dksX2_processBlock_1 7 rfl rfl)
theorem dX2_processBlock_32 : decode cX2_processBlock 32 = .ok (.invokespecial 54, 3) := dk_183 0 54 (dk_at dksX2_processBlock_1 9 rfl rfl)
theorem dX2_processBlock_35 : decode cX2_processBlock 35 = .ok (.athrow, 1) := dk_191 (dk_at dksX2_processBlock_1 12 rfl rfl)
theorem dX2_processBlock_36 : decode cX2_processBlock 36 = .ok (.iload 4, 2) := dk_21 4 (dk_at dksX2_processBlock_1 13 rfl rfl)
theorem dX2_processBlock_38 : decode cX2_processBlock 38 = .ok (.aload_n 3, 1) := dk_45 (dk_at dksX2_processBlock_1 15 rfl rfl)
theorem dX2_processBlock_39 : decode cX2_processBlock 39 = .ok (.arraylength, 1) := dk_190 (dk_at dksX2_processBlock_1 16 rfl rfl)
theorem dX2_processBlock_40 : decode cX2_processBlock 40 = .ok (.bipush 16, 2) := dk_16 16 (dk_at dksX2_processBlock_1 17 rfl rfl)
theorem dX2_processBlock_42 : decode cX2_processBlock 42 = .ok (.isub, 1) := dk_100 (dk_at dksX2_processBlock_1 19 rfl rfl)
theorem dX2_processBlock_43 : decode cX2_processBlock 43 = .ok (.if_icmp .le 13, 3) := dk_164 0 13 (dk_at dksX2_processBlock_1 20 rfl rfl)
theorem dX2_processBlock_46 : decode cX2_processBlock 46 = .ok (.new 55, 3) := dk_187 0 55 (dk_at dksX2_processBlock_2 0 rfl rfl)
theorem dX2_processBlock_49 : decode cX2_processBlock 49 = .ok (.dup, 1) := dk_89 (dk_at dksX2_processBlock_2 3 rfl rfl)
theorem dX2_processBlock_50 : decode cX2_processBlock 50 = .ok (.ldc 57, 2) := dk_18 57 (dk_at dksX2_processBlock_2 4 rfl rfl)
theorem dX2_processBlock_52 : decode cX2_processBlock 52 = .ok (.invokespecial 59, 3) := dk_183 0 59 (dk_at dksX2_processBlock_2 6 rfl rfl)
theorem dX2_processBlock_55 : decode cX2_processBlock 55 = .ok (.athrow, 1) := dk_191 (dk_at dksX2_processBlock_2 9 rfl rfl)
theorem dX2_processBlock_56 : decode cX2_processBlock 56 = .ok (.aload_n 0, 1) := dk_42 (dk_at dksX2_processBlock_2 10 rfl rfl)
theorem dX2_processBlock_57 : decode cX2_processBlock 57 = .ok (.getfield 44, 3) := dk_180 0 44 (dk_at dksX2_processBlock_2 11 rfl rfl)
theorem dX2_processBlock_60 : decode cX2_processBlock 60 = .ok (.ifCond .eq 15, 3) := dk_153 0 15 (dk_at dksX2_processBlock_2 14 rfl rfl)
theorem dX2_processBlock_63 : decode cX2_processBlock 63 = .ok (.aload_n 0, 1) := dk_42 (dk_at dksX2_processBlock_2 17 rfl rfl)
theorem dX2_processBlock_64 : decode cX2_processBlock 64 = .ok (.aload_n 1, 1) := dk_43 (dk_at dksX2_processBlock_2 18 rfl rfl)
theorem dX2_processBlock_65 : decode cX2_processBlock 65 = .ok (.iload_n 2, 1) := dk_28 (dk_at dksX2_processBlock_2 19 rfl rfl)
theorem dX2_processBlock_66 : decode cX2_processBlock 66 = .ok (.aload_n 3, 1) := dk_45 (dk_at dksX2_processBlock_2 20 rfl rfl)
theorem dX2_processBlock_67 : decode cX2_processBlock 67 = .ok (.iload 4, 2) := dk_21 4 (dk_at dksX2_processBlock_2 21 rfl rfl)
theorem dX2_processBlock_69 : decode cX2_processBlock 69 = .ok (.invokevirtual 60, 3) := dk_182 0 60 (dk_at dksX2_processBlock_3 0 rfl rfl)
theorem dX2_processBlock_72 : decode cX2_processBlock 72 = .ok (.goto 12, 3) := dk_167 0 12 (dk_at dksX2_processBlock_3 3 rfl rfl)
theorem dX2_processBlock_75 : decode cX2_processBlock 75 = .ok (.aload_n 0, 1) := dk_42 (dk_at dksX2_processBlock_3 6 rfl rfl)
theorem dX2_processBlock_76 : decode cX2_processBlock 76 = .ok (.aload_n 1, 1) := dk_43 (dk_at dksX2_processBlock_3 7 rfl rfl)
theorem dX2_processBlock_77 : decode cX2_processBlock 77 = .ok (.iload_n 2, 1) := dk_28 (dk_at dksX2_processBlock_3 8 rfl rfl)
theorem dX2_processBlock_78 : decode cX2_processBlock 78 = .ok (.aload_n 3, 1) := dk_45 (dk_at dksX2_processBlock_3 9 rfl rfl)
theorem dX2_processBlock_79 : decode cX2_processBlock 79 = .ok (.iload 4, 2) := dk_21 4 (dk_at dksX2_processBlock_3 10 rfl rfl)
theorem dX2_processBlock_81 : decode cX2_processBlock 81 = .ok (.invokevirtual 64, 3) := dk_182 0 64 (dk_at dksX2_processBlock_3 12 rfl rfl)
theorem dX2_processBlock_84 : decode cX2_processBlock 84 = .ok (.ireturn, 1) := dk_172 (dk_at dksX2_processBlock_3 15 rfl rfl)
abbrev cX2_encryptBlock : ByteArray := prog_9_method_4_code
def yX2_encryptBlock : MethodName := ⟨RX2, "encryptBlock", "([BI[BI)I"⟩
def dkwX2_encryptBlock_15 : List UInt8 := [21, 8, 45, 21, 4, 16, 12, 96, 184, 0, 74, 16, 16, 172]
abbrev dktX2_encryptBlock_15 : List UInt8 := dkwX2_encryptBlock_15 ++ []
def dkwX2_encryptBlock_14 : List UInt8 := [184, 0, 74, 21, 6, 45, 21, 4, 7, 96, 184, 0, 74, 21, 7, 45, 21, 4, 16, 8, 96, 184, 0, 74]
abbrev dktX2_encryptBlock_14 : List UInt8 := dkwX2_encryptBlock_14 ++ dktX2_encryptBlock_15
def dkwX2_encryptBlock_13 : List UInt8 := [16, 27, 184, 0, 38, 54, 7, 21, 8, 16, 30, 184, 0, 38, 54, 8, 167, 255, 6, 21, 5, 45, 21, 4]
abbrev dktX2_encryptBlock_13 : List UInt8 := dkwX2_encryptBlock_13 ++ dktX2_encryptBlock_14
def dkwX2_encryptBlock_12 : List UInt8 := [54, 6, 21, 14, 21, 7, 21, 6, 126, 130, 54, 5, 21, 6, 16, 31, 184, 0, 38, 54, 6, 21, 7]
abbrev dktX2_encryptBlock_12 : List UInt8 := dkwX2_encryptBlock_12 ++ dktX2_encryptBlock_13
def dkwX2_encryptBlock_11 : List UInt8 := [21, 14, 21, 6, 2, 130, 130, 21, 7, 130, 21, 8, 130, 54, 7, 21, 6, 21, 8, 21, 7, 128, 130]
abbrev dktX2_encryptBlock_11 : List UInt8 := dkwX2_encryptBlock_11 ++ dktX2_encryptBlock_12
def dkwX2_encryptBlock_10 : List UInt8 := [54, 14, 21, 6, 21, 8, 21, 7, 128, 130, 54, 6, 21, 5, 21, 7, 21, 6, 2, 130, 126, 130, 54, 8]
abbrev dktX2_encryptBlock_10 : List UInt8 := dkwX2_encryptBlock_10 ++ dktX2_encryptBlock_11
def dkwX2_encryptBlock_9 : List UInt8 := [184, 0, 38, 54, 6, 21, 7, 8, 184, 0, 38, 54, 7, 21, 8, 5, 184, 0, 38, 54, 8, 21, 8]
abbrev dktX2_encryptBlock_9 : List UInt8 := dkwX2_encryptBlock_9 ++ dktX2_encryptBlock_10
def dkwX2_encryptBlock_8 : List UInt8 := [21, 8, 21, 14, 130, 54, 8, 132, 13, 1, 21, 13, 16, 16, 164, 0, 6, 167, 0, 118, 21, 6, 4]
abbrev dktX2_encryptBlock_8 : List UInt8 := dkwX2_encryptBlock_8 ++ dktX2_encryptBlock_9
def dkwX2_encryptBlock_7 : List UInt8 := [130, 54, 15, 21, 5, 21, 15, 130, 54, 5, 21, 6, 21, 14, 130, 54, 6, 21, 7, 21, 15, 130, 54, 7]
abbrev dktX2_encryptBlock_7 : List UInt8 := dkwX2_encryptBlock_7 ++ dktX2_encryptBlock_8
def dkwX2_encryptBlock_6 : List UInt8 := [21, 6, 21, 8, 130, 54, 15, 21, 15, 21, 15, 16, 8, 184, 0, 38, 21, 15, 16, 24, 184, 0, 38, 130]
abbrev dktX2_encryptBlock_6 : List UInt8 := dkwX2_encryptBlock_6 ++ dktX2_encryptBlock_7
def dkwX2_encryptBlock_5 : List UInt8 := [54, 5, 21, 6, 21, 10, 130, 54, 6, 21, 7, 21, 11, 130, 54, 7, 21, 8, 21, 12, 130, 54, 8]
abbrev dktX2_encryptBlock_5 : List UInt8 := dkwX2_encryptBlock_5 ++ dktX2_encryptBlock_6
def dkwX2_encryptBlock_4 : List UInt8 := [21, 14, 16, 8, 184, 0, 38, 21, 14, 16, 24, 184, 0, 38, 130, 130, 54, 14, 21, 5, 21, 9, 130]
abbrev dktX2_encryptBlock_4 : List UInt8 := dkwX2_encryptBlock_4 ++ dktX2_encryptBlock_5
def dkwX2_encryptBlock_3 : List UInt8 := [21, 5, 178, 0, 70, 21, 13, 51, 17, 0, 255, 126, 130, 54, 5, 21, 5, 21, 7, 130, 54, 14, 21, 14]
abbrev dktX2_encryptBlock_3 : List UInt8 := dkwX2_encryptBlock_3 ++ dktX2_encryptBlock_4
def dkwX2_encryptBlock_2 : List UInt8 := [4, 46, 54, 10, 42, 180, 0, 7, 5, 46, 54, 11, 42, 180, 0, 7, 6, 46, 54, 12, 3, 54, 13]
abbrev dktX2_encryptBlock_2 : List UInt8 := dkwX2_encryptBlock_2 ++ dktX2_encryptBlock_3
def dkwX2_encryptBlock_1 : List UInt8 := [54, 7, 43, 28, 16, 12, 96, 184, 0, 67, 54, 8, 42, 180, 0, 7, 3, 46, 54, 9, 42, 180, 0, 7]
abbrev dktX2_encryptBlock_1 : List UInt8 := dkwX2_encryptBlock_1 ++ dktX2_encryptBlock_2
def dkwX2_encryptBlock_0 : List UInt8 := [43, 28, 184, 0, 67, 54, 5, 43, 28, 7, 96, 184, 0, 67, 54, 6, 43, 28, 16, 8, 96, 184, 0, 67]
abbrev dktX2_encryptBlock_0 : List UInt8 := dkwX2_encryptBlock_0 ++ dktX2_encryptBlock_1
theorem dksX2_encryptBlock_0 : cX2_encryptBlock.data.toList.drop 0 = dktX2_encryptBlock_0 := by decide +kernel
theorem dksX2_encryptBlock_1 : cX2_encryptBlock.data.toList.drop 24 = dktX2_encryptBlock_1 := dk_seg dksX2_encryptBlock_0 24 rfl rfl
theorem dksX2_encryptBlock_2 : cX2_encryptBlock.data.toList.drop 48 = dktX2_encryptBlock_2 := dk_seg dksX2_encryptBlock_1 24 rfl rfl
theorem dksX2_encryptBlock_3 : cX2_encryptBlock.data.toList.drop 71 = dktX2_encryptBlock_3 := dk_seg dksX2_encryptBlock_2 23 rfl rfl
theorem dksX2_encryptBlock_4 : cX2_encryptBlock.data.toList.drop 95 = dktX2_encryptBlock_4 := dk_seg dksX2_encryptBlock_3 24 rfl rfl
theorem dksX2_encryptBlock_5 : cX2_encryptBlock.data.toList.drop 118 = dktX2_encryptBlock_5 := dk_seg dksX2_encryptBlock_4 23 rfl rfl
theorem dksX2_encryptBlock_6 : cX2_encryptBlock.data.toList.drop 141 = dktX2_encryptBlock_6 := dk_seg dksX2_encryptBlock_5 23 rfl rfl
theorem dksX2_encryptBlock_7 : cX2_encryptBlock.data.toList.drop 165 = dktX2_encryptBlock_7 := dk_seg dksX2_encryptBlock_6 24 rfl rfl
theorem dksX2_encryptBlock_8 : cX2_encryptBlock.data.toList.drop 189 = dktX2_encryptBlock_8 := dk_seg dksX2_encryptBlock_7 24 rfl rfl
theorem dksX2_encryptBlock_9 : cX2_encryptBlock.data.toList.drop 212 = dktX2_encryptBlock_9 := dk_seg dksX2_encryptBlock_8 23 rfl rfl
theorem dksX2_encryptBlock_10 : cX2_encryptBlock.data.toList.drop 235 = dktX2_encryptBlock_10 := dk_seg dksX2_encryptBlock_9 23 rfl rfl
theorem dksX2_encryptBlock_11 : cX2_encryptBlock.data.toList.drop 259 = dktX2_encryptBlock_11 := dk_seg dksX2_encryptBlock_10 24 rfl rfl
theorem dksX2_encryptBlock_12 : cX2_encryptBlock.data.toList.drop 282 = dktX2_encryptBlock_12 := dk_seg dksX2_encryptBlock_11 23 rfl rfl
theorem dksX2_encryptBlock_13 : cX2_encryptBlock.data.toList.drop 305 = dktX2_encryptBlock_13 := dk_seg dksX2_encryptBlock_12 23 rfl rfl
theorem dksX2_encryptBlock_14 : cX2_encryptBlock.data.toList.drop 329 = dktX2_encryptBlock_14 := dk_seg dksX2_encryptBlock_13 24 rfl rfl
theorem dksX2_encryptBlock_15 : cX2_encryptBlock.data.toList.drop 353 = dktX2_encryptBlock_15 := dk_seg dksX2_encryptBlock_14 24 rfl rfl
theorem dX2_encryptBlock_0 : decode cX2_encryptBlock 0 = .ok (.aload_n 1, 1) := dk_43 (dk_at dksX2_encryptBlock_0 0 rfl rfl)
theorem dX2_encryptBlock_1 : decode cX2_encryptBlock 1 = .ok (.iload_n 2, 1) := dk_28 (dk_at dksX2_encryptBlock_0 1 rfl rfl)
theorem dX2_encryptBlock_2 : decode cX2_encryptBlock 2 = .ok (.invokestatic 67, 3) := dk_184 0 67 (dk_at dksX2_encryptBlock_0 2 rfl rfl)
theorem dX2_encryptBlock_5 : decode cX2_encryptBlock 5 = .ok (.istore 5, 2) := dk_54 5 (dk_at dksX2_encryptBlock_0 5 rfl rfl)
theorem dX2_encryptBlock_7 : decode cX2_encryptBlock 7 = .ok (.aload_n 1, 1) := dk_43 (dk_at dksX2_encryptBlock_0 7 rfl rfl)
theorem dX2_encryptBlock_8 : decode cX2_encryptBlock 8 = .ok (.iload_n 2, 1) := dk_28 (dk_at dksX2_encryptBlock_0 8 rfl rfl)
theorem dX2_encryptBlock_9 : decode cX2_encryptBlock 9 = .ok (.iconst 4, 1) := dk_7 (dk_at dksX2_encryptBlock_0 9 rfl rfl)
theorem dX2_encryptBlock_10 : decode cX2_encryptBlock 10 = .ok (.iadd, 1) := dk_96 (dk_at dksX2_encryptBlock_0 10 rfl rfl)
theorem dX2_encryptBlock_11 : decode cX2_encryptBlock 11 = .ok (.invokestatic 67, 3) := dk_184 0 67 (dk_at dksX2_encryptBlock_0 11 rfl rfl)
theorem dX2_encryptBlock_14 : decode cX2_encryptBlock 14 = .ok (.istore 6, 2) := dk_54 6 (dk_at dksX2_encryptBlock_0 14 rfl rfl)
theorem dX2_encryptBlock_16 : decode cX2_encryptBlock 16 = .ok (.aload_n 1, 1) := dk_43 (dk_at dksX2_encryptBlock_0 16 rfl rfl)
theorem dX2_encryptBlock_17 : decode cX2_encryptBlock 17 = .ok (.iload_n 2, 1) := dk_28 (dk_at dksX2_encryptBlock_0 17 rfl rfl)
theorem dX2_encryptBlock_18 : decode cX2_encryptBlock 18 = .ok (.bipush 8, 2) := dk_16 8 (dk_at dksX2_encryptBlock_0 18 rfl rfl)
theorem dX2_encryptBlock_20 : decode cX2_encryptBlock 20 = .ok (.iadd, 1) := dk_96 (dk_at dksX2_encryptBlock_0 20 rfl rfl)
theorem dX2_encryptBlock_21 : decode cX2_encryptBlock 21 = .ok (.invokestatic 67, 3) := dk_184 0 67 (dk_at dksX2_encryptBlock_0 21 rfl rfl)
theorem dX2_encryptBlock_24 : decode cX2_encryptBlock 24 = .ok (.istore 7, 2) := dk_54 7 (dk_at dksX2_encryptBlock_1 0 rfl rfl)
theorem dX2_encryptBlock_26 : decode cX2_encryptBlock 26 = .ok (.aload_n 1, 1) := dk_43 (dk_at dksX2_encryptBlock_1 2 rfl rfl)
theorem dX2_encryptBlock_27 : decode cX2_encryptBlock 27 = .ok (.iload_n 2, 1) := dk_28 (dk_at dksX2_encryptBlock_1 3 rfl rfl)
theorem dX2_encryptBlock_28 : decode cX2_encryptBlock 28 = .ok (.bipush 12, 2) := dk_16 12 (dk_at dksX2_encryptBlock_1 4 rfl rfl)
theorem dX2_encryptBlock_30 : decode cX2_encryptBlock 30 = .ok (.iadd, 1) := dk_96 (dk_at dksX2_encryptBlock_1 6 rfl rfl)
theorem dX2_encryptBlock_31 : decode cX2_encryptBlock 31 = .ok (.invokestatic 67, 3) := dk_184 0 67 (dk_at dksX2_encryptBlock_1 7 rfl rfl)
theorem dX2_encryptBlock_34 : decode cX2_encryptBlock 34 = .ok (.istore 8, 2) := dk_54 8 (dk_at dksX2_encryptBlock_1 10 rfl rfl)
theorem dX2_encryptBlock_36 : decode cX2_encryptBlock 36 = .ok (.aload_n 0, 1) := dk_42 (dk_at dksX2_encryptBlock_1 12 rfl rfl)
theorem dX2_encryptBlock_37 : decode cX2_encryptBlock 37 = .ok (.getfield 7, 3) := dk_180 0 7 (dk_at dksX2_encryptBlock_1 13 rfl rfl)
theorem dX2_encryptBlock_40 : decode cX2_encryptBlock 40 = .ok (.iconst 0, 1) := dk_3 (dk_at dksX2_encryptBlock_1 16 rfl rfl)
theorem dX2_encryptBlock_41 : decode cX2_encryptBlock 41 = .ok (.iaload, 1) := dk_46 (dk_at dksX2_encryptBlock_1 17 rfl rfl)
theorem dX2_encryptBlock_42 : decode cX2_encryptBlock 42 = .ok (.istore 9, 2) := dk_54 9 (dk_at dksX2_encryptBlock_1 18 rfl rfl)
theorem dX2_encryptBlock_44 : decode cX2_encryptBlock 44 = .ok (.aload_n 0, 1) := dk_42 (dk_at dksX2_encryptBlock_1 20 rfl rfl)
theorem dX2_encryptBlock_45 : decode cX2_encryptBlock 45 = .ok (.getfield 7, 3) := dk_180 0 7 (dk_at dksX2_encryptBlock_1 21 rfl rfl)
theorem dX2_encryptBlock_48 : decode cX2_encryptBlock 48 = .ok (.iconst 1, 1) := dk_4 (dk_at dksX2_encryptBlock_2 0 rfl rfl)
theorem dX2_encryptBlock_49 : decode cX2_encryptBlock 49 = .ok (.iaload, 1) := dk_46 (dk_at dksX2_encryptBlock_2 1 rfl rfl)
theorem dX2_encryptBlock_50 : decode cX2_encryptBlock 50 = .ok (.istore 10, 2) := dk_54 10 (dk_at dksX2_encryptBlock_2 2 rfl rfl)
theorem dX2_encryptBlock_52 : decode cX2_encryptBlock 52 = .ok (.aload_n 0, 1) := dk_42 (dk_at dksX2_encryptBlock_2 4 rfl rfl)
theorem dX2_encryptBlock_53 : decode cX2_encryptBlock 53 = .ok (.getfield 7, 3) := dk_180 0 7 (dk_at dksX2_encryptBlock_2 5 rfl rfl)
theorem dX2_encryptBlock_56 : decode cX2_encryptBlock 56 = .ok (.iconst 2, 1) := dk_5 (dk_at dksX2_encryptBlock_2 8 rfl rfl)
theorem dX2_encryptBlock_57 : decode cX2_encryptBlock 57 = .ok (.iaload, 1) := dk_46 (dk_at dksX2_encryptBlock_2 9 rfl rfl)
theorem dX2_encryptBlock_58 : decode cX2_encryptBlock 58 = .ok (.istore 11, 2) := dk_54 11 (dk_at dksX2_encryptBlock_2 10 rfl rfl)
theorem dX2_encryptBlock_60 : decode cX2_encryptBlock 60 = .ok (.aload_n 0, 1) := dk_42 (dk_at dksX2_encryptBlock_2 12 rfl rfl)
theorem dX2_encryptBlock_61 : decode cX2_encryptBlock 61 = .ok (.getfield 7, 3) := dk_180 0 7 (dk_at dksX2_encryptBlock_2 13 rfl rfl)
theorem dX2_encryptBlock_64 : decode cX2_encryptBlock 64 = .ok (.iconst 3, 1) := dk_6 (dk_at dksX2_encryptBlock_2 16 rfl rfl)
theorem dX2_encryptBlock_65 : decode cX2_encryptBlock 65 = .ok (.iaload, 1) := dk_46 (dk_at dksX2_encryptBlock_2 17 rfl rfl)
theorem dX2_encryptBlock_66 : decode cX2_encryptBlock 66 = .ok (.istore 12, 2) := dk_54 12 (dk_at dksX2_encryptBlock_2 18 rfl rfl)
theorem dX2_encryptBlock_68 : decode cX2_encryptBlock 68 = .ok (.iconst 0, 1) := dk_3 (dk_at dksX2_encryptBlock_2 20 rfl rfl)
theorem dX2_encryptBlock_69 : decode cX2_encryptBlock 69 = .ok (.istore 13, 2) := dk_54 13 (dk_at dksX2_encryptBlock_2 21 rfl rfl)
theorem dX2_encryptBlock_71 : decode cX2_encryptBlock 71 = .ok (.iload 5, 2) := dk_21 5 (dk_at dksX2_encryptBlock_3 0 rfl rfl)
theorem dX2_encryptBlock_73 : decode cX2_encryptBlock 73 = .ok (.getstatic 70, 3) := dk_178 0 70 (dk_at dksX2_encryptBlock_3 2 rfl rfl)
theorem dX2_encryptBlock_76 : decode cX2_encryptBlock 76 = .ok (.iload 13, 2) := dk_21 13 (dk_at dksX2_encryptBlock_3 5 rfl rfl)
theorem dX2_encryptBlock_78 : decode cX2_encryptBlock 78 = .ok (.baload, 1) := dk_51 (dk_at dksX2_encryptBlock_3 7 rfl rfl)
theorem dX2_encryptBlock_79 : decode cX2_encryptBlock 79 = .ok (.sipush 255, 3) := dk_17 0 255 (dk_at dksX2_encryptBlock_3 8 rfl rfl)
theorem dX2_encryptBlock_82 : decode cX2_encryptBlock 82 = .ok (.iand, 1) := dk_126 (dk_at dksX2_encryptBlock_3 11 rfl rfl)
theorem dX2_encryptBlock_83 : decode cX2_encryptBlock 83 = .ok (.ixor, 1) := dk_130 (dk_at dksX2_encryptBlock_3 12 rfl rfl)
theorem dX2_encryptBlock_84 : decode cX2_encryptBlock 84 = .ok (.istore 5, 2) := dk_54 5 (dk_at dksX2_encryptBlock_3 13 rfl rfl)
theorem dX2_encryptBlock_86 : decode cX2_encryptBlock 86 = .ok (.iload 5, 2) := dk_21 5 (dk_at dksX2_encryptBlock_3 15 rfl rfl)
theorem dX2_encryptBlock_88 : decode cX2_encryptBlock 88 = .ok (.iload 7, 2) := dk_21 7 (dk_at dksX2_encryptBlock_3 17 rfl rfl)
theorem dX2_encryptBlock_90 : decode cX2_encryptBlock 90 = .ok (.ixor, 1) := dk_130 (dk_at dksX2_encryptBlock_3 19 rfl rfl)
theorem dX2_encryptBlock_91 : decode cX2_encryptBlock 91 = .ok (.istore 14, 2) := dk_54 14 (dk_at dksX2_encryptBlock_3 20 rfl rfl)
theorem dX2_encryptBlock_93 : decode cX2_encryptBlock 93 = .ok (.iload 14, 2) := dk_21 14 (dk_at dksX2_encryptBlock_3 22 rfl rfl)
theorem dX2_encryptBlock_95 : decode cX2_encryptBlock 95 = .ok (.iload 14, 2) := dk_21 14 (dk_at dksX2_encryptBlock_4 0 rfl rfl)
theorem dX2_encryptBlock_97 : decode cX2_encryptBlock 97 = .ok (.bipush 8, 2) := dk_16 8 (dk_at dksX2_encryptBlock_4 2 rfl rfl)
theorem dX2_encryptBlock_99 : decode cX2_encryptBlock 99 = .ok (.invokestatic 38, 3) := dk_184 0 38 (dk_at dksX2_encryptBlock_4 4 rfl rfl)
theorem dX2_encryptBlock_102 : decode cX2_encryptBlock 102 = .ok (.iload 14, 2) := dk_21 14 (dk_at dksX2_encryptBlock_4 7 rfl rfl)
theorem dX2_encryptBlock_104 : decode cX2_encryptBlock 104 = .ok (.bipush 24, 2) := dk_16 24 (dk_at dksX2_encryptBlock_4 9 rfl rfl)
theorem dX2_encryptBlock_106 : decode cX2_encryptBlock 106 = .ok (.invokestatic 38, 3) := dk_184 0 38 (dk_at dksX2_encryptBlock_4 11 rfl rfl)
theorem dX2_encryptBlock_109 : decode cX2_encryptBlock 109 = .ok (.ixor, 1) := dk_130 (dk_at dksX2_encryptBlock_4 14 rfl rfl)
theorem dX2_encryptBlock_110 : decode cX2_encryptBlock 110 = .ok (.ixor, 1) := dk_130 (dk_at dksX2_encryptBlock_4 15 rfl rfl)
theorem dX2_encryptBlock_111 : decode cX2_encryptBlock 111 = .ok (.istore 14, 2) := dk_54 14 (dk_at dksX2_encryptBlock_4 16 rfl rfl)
theorem dX2_encryptBlock_113 : decode cX2_encryptBlock 113 = .ok (.iload 5, 2) := dk_21 5 (dk_at dksX2_encryptBlock_4 18 rfl rfl)
theorem dX2_encryptBlock_115 : decode cX2_encryptBlock 115 = .ok (.iload 9, 2) := dk_21 9 (dk_at dksX2_encryptBlock_4 20 rfl rfl)
theorem dX2_encryptBlock_117 : decode cX2_encryptBlock 117 = .ok (.ixor, 1) := dk_130 (dk_at dksX2_encryptBlock_4 22 rfl rfl)
theorem dX2_encryptBlock_118 : decode cX2_encryptBlock 118 = .ok (.istore 5, 2) := dk_54 5 (dk_at dksX2_encryptBlock_5 0 rfl rfl)
theorem dX2_encryptBlock_120 : decode cX2_encryptBlock 120 = .ok (.iload 6, 2) := dk_21 6 (dk_at dksX2_encryptBlock_5 2 rfl rfl)
theorem dX2_encryptBlock_122 : decode cX2_encryptBlock 122 = .ok (.iload 10, 2) := dk_21 10 (dk_at dksX2_encryptBlock_5 4 rfl rfl)
theorem dX2_encryptBlock_124 : decode cX2_encryptBlock 124 = .ok (.ixor, 1) := dk_130 (dk_at dksX2_encryptBlock_5 6 rfl rfl)
theorem dX2_encryptBlock_125 : decode cX2_encryptBlock 125 = .ok (.istore 6, 2) := dk_54 6 (dk_at dksX2_encryptBlock_5 7 rfl rfl)
theorem dX2_encryptBlock_127 : decode cX2_encryptBlock 127 = .ok (.iload 7, 2) := dk_21 7 (dk_at dksX2_encryptBlock_5 9 rfl rfl)
theorem dX2_encryptBlock_129 : decode cX2_encryptBlock 129 = .ok (.iload 11, 2) := dk_21 11 (dk_at dksX2_encryptBlock_5 11 rfl rfl)
theorem dX2_encryptBlock_131 : decode cX2_encryptBlock 131 = .ok (.ixor, 1) := dk_130 (dk_at dksX2_encryptBlock_5 13 rfl rfl)
theorem dX2_encryptBlock_132 : decode cX2_encryptBlock 132 = .ok (.istore 7, 2) := dk_54 7 (dk_at dksX2_encryptBlock_5 14 rfl rfl)
theorem dX2_encryptBlock_134 : decode cX2_encryptBlock 134 = .ok (.iload 8, 2) := dk_21 8 (dk_at dksX2_encryptBlock_5 16 rfl rfl)
theorem dX2_encryptBlock_136 : decode cX2_encryptBlock 136 = .ok (.iload 12, 2) := dk_21 12 (dk_at dksX2_encryptBlock_5 18 rfl rfl)
theorem dX2_encryptBlock_138 : decode cX2_encryptBlock 138 = .ok (.ixor, 1) := dk_130 (dk_at dksX2_encryptBlock_5 20 rfl rfl)
theorem dX2_encryptBlock_139 : decode cX2_encryptBlock 139 = .ok (.istore 8, 2) := dk_54 8 (dk_at dksX2_encryptBlock_5 21 rfl rfl)
theorem dX2_encryptBlock_141 : decode cX2_encryptBlock 141 = .ok (.iload 6, 2) := dk_21 6 (dk_at dksX2_encryptBlock_6 0 rfl rfl)
theorem dX2_encryptBlock_143 : decode cX2_encryptBlock 143 = .ok (.iload 8, 2) := dk_21 8 (dk_at dksX2_encryptBlock_6 2 rfl rfl)
theorem dX2_encryptBlock_145 : decode cX2_encryptBlock 145 = .ok (.ixor, 1) := dk_130 (dk_at dksX2_encryptBlock_6 4 rfl rfl)
theorem dX2_encryptBlock_146 : decode cX2_encryptBlock 146 = .ok (.istore 15, 2) := dk_54 15 (dk_at dksX2_encryptBlock_6 5 rfl rfl)
theorem dX2_encryptBlock_148 : decode cX2_encryptBlock 148 = .ok (.iload 15, 2) := dk_21 15 (dk_at dksX2_encryptBlock_6 7 rfl rfl)
theorem dX2_encryptBlock_150 : decode cX2_encryptBlock 150 = .ok (.iload 15, 2) := dk_21 15 (dk_at dksX2_encryptBlock_6 9 rfl rfl)
theorem dX2_encryptBlock_152 : decode cX2_encryptBlock 152 = .ok (.bipush 8, 2) := dk_16 8 (dk_at dksX2_encryptBlock_6 11 rfl rfl)
theorem dX2_encryptBlock_154 : decode cX2_encryptBlock 154 = .ok (.invokestatic 38, 3) := dk_184 0 38 (dk_at dksX2_encryptBlock_6 13 rfl rfl)
theorem dX2_encryptBlock_157 : decode cX2_encryptBlock 157 = .ok (.iload 15, 2) := dk_21 15 (dk_at dksX2_encryptBlock_6 16 rfl rfl)
theorem dX2_encryptBlock_159 : decode cX2_encryptBlock 159 = .ok (.bipush 24, 2) := dk_16 24 (dk_at dksX2_encryptBlock_6 18 rfl rfl)
theorem dX2_encryptBlock_161 : decode cX2_encryptBlock 161 = .ok (.invokestatic 38, 3) := dk_184 0 38 (dk_at dksX2_encryptBlock_6 20 rfl rfl)
theorem dX2_encryptBlock_164 : decode cX2_encryptBlock 164 = .ok (.ixor, 1) := dk_130 (dk_at dksX2_encryptBlock_6 23 rfl rfl)
theorem dX2_encryptBlock_165 : decode cX2_encryptBlock 165 = .ok (.ixor, 1) := dk_130 (dk_at dksX2_encryptBlock_7 0 rfl rfl)
theorem dX2_encryptBlock_166 : decode cX2_encryptBlock 166 = .ok (.istore 15, 2) := dk_54 15 (dk_at dksX2_encryptBlock_7 1 rfl rfl)
theorem dX2_encryptBlock_168 : decode cX2_encryptBlock 168 = .ok (.iload 5, 2) := dk_21 5 (dk_at dksX2_encryptBlock_7 3 rfl rfl)
theorem dX2_encryptBlock_170 : decode cX2_encryptBlock 170 = .ok (.iload 15, 2) := dk_21 15 (dk_at dksX2_encryptBlock_7 5 rfl rfl)
theorem dX2_encryptBlock_172 : decode cX2_encryptBlock 172 = .ok (.ixor, 1) := dk_130 (dk_at dksX2_encryptBlock_7 7 rfl rfl)
theorem dX2_encryptBlock_173 : decode cX2_encryptBlock 173 = .ok (.istore 5, 2) := dk_54 5 (dk_at dksX2_encryptBlock_7 8 rfl rfl)
theorem dX2_encryptBlock_175 : decode cX2_encryptBlock 175 = .ok (.iload 6, 2) := dk_21 6 (dk_at dksX2_encryptBlock_7 10 rfl rfl)
theorem dX2_encryptBlock_177 : decode cX2_encryptBlock 177 = .ok (.iload 14, 2) := dk_21 14 (dk_at dksX2_encryptBlock_7 12 rfl rfl)
theorem dX2_encryptBlock_179 : decode cX2_encryptBlock 179 = .ok (.ixor, 1) := dk_130 (dk_at dksX2_encryptBlock_7 14 rfl rfl)
theorem dX2_encryptBlock_180 : decode cX2_encryptBlock 180 = .ok (.istore 6, 2) := dk_54 6 (dk_at dksX2_encryptBlock_7 15 rfl rfl)
theorem dX2_encryptBlock_182 : decode cX2_encryptBlock 182 = .ok (.iload 7, 2) := dk_21 7 (dk_at dksX2_encryptBlock_7 17 rfl rfl)
theorem dX2_encryptBlock_184 : decode cX2_encryptBlock 184 = .ok (.iload 15, 2) := dk_21 15 (dk_at dksX2_encryptBlock_7 19 rfl rfl)
theorem dX2_encryptBlock_186 : decode cX2_encryptBlock 186 = .ok (.ixor, 1) := dk_130 (dk_at dksX2_encryptBlock_7 21 rfl rfl)
theorem dX2_encryptBlock_187 : decode cX2_encryptBlock 187 = .ok (.istore 7, 2) := dk_54 7 (dk_at dksX2_encryptBlock_7 22 rfl rfl)
theorem dX2_encryptBlock_189 : decode cX2_encryptBlock 189 = .ok (.iload 8, 2) := dk_21 8 (dk_at dksX2_encryptBlock_8 0 rfl rfl)
theorem dX2_encryptBlock_191 : decode cX2_encryptBlock 191 = .ok (.iload 14, 2) := dk_21 14 (dk_at dksX2_encryptBlock_8 2 rfl rfl)
theorem dX2_encryptBlock_193 : decode cX2_encryptBlock 193 = .ok (.ixor, 1) := dk_130 (dk_at dksX2_encryptBlock_8 4 rfl rfl)
theorem dX2_encryptBlock_194 : decode cX2_encryptBlock 194 = .ok (.istore 8, 2) := dk_54 8 (dk_at dksX2_encryptBlock_8 5 rfl rfl)
theorem dX2_encryptBlock_196 : decode cX2_encryptBlock 196 = .ok (.iinc 13 1, 3) := dk_132 13 1 (dk_at dksX2_encryptBlock_8 7 rfl rfl)
theorem dX2_encryptBlock_199 : decode cX2_encryptBlock 199 = .ok (.iload 13, 2) := dk_21 13 (dk_at dksX2_encryptBlock_8 10 rfl rfl)
theorem dX2_encryptBlock_201 : decode cX2_encryptBlock 201 = .ok (.bipush 16, 2) := dk_16 16 (dk_at dksX2_encryptBlock_8 12 rfl rfl)
theorem dX2_encryptBlock_203 : decode cX2_encryptBlock 203 = .ok (.if_icmp .le 6, 3) := dk_164 0 6 (dk_at dksX2_encryptBlock_8 14 rfl rfl)
theorem dX2_encryptBlock_206 : decode cX2_encryptBlock 206 = .ok (.goto 118, 3) := dk_167 0 118 (dk_at dksX2_encryptBlock_8 17 rfl rfl)
theorem dX2_encryptBlock_209 : decode cX2_encryptBlock 209 = .ok (.iload 6, 2) := dk_21 6 (dk_at dksX2_encryptBlock_8 20 rfl rfl)
theorem dX2_encryptBlock_211 : decode cX2_encryptBlock 211 = .ok (.iconst 1, 1) := dk_4 (dk_at dksX2_encryptBlock_8 22 rfl rfl)
theorem dX2_encryptBlock_212 : decode cX2_encryptBlock 212 = .ok (.invokestatic 38, 3) := dk_184 0 38 (dk_at dksX2_encryptBlock_9 0 rfl rfl)
theorem dX2_encryptBlock_215 : decode cX2_encryptBlock 215 = .ok (.istore 6, 2) := dk_54 6 (dk_at dksX2_encryptBlock_9 3 rfl rfl)
theorem dX2_encryptBlock_217 : decode cX2_encryptBlock 217 = .ok (.iload 7, 2) := dk_21 7 (dk_at dksX2_encryptBlock_9 5 rfl rfl)
theorem dX2_encryptBlock_219 : decode cX2_encryptBlock 219 = .ok (.iconst 5, 1) := dk_8 (dk_at dksX2_encryptBlock_9 7 rfl rfl)
theorem dX2_encryptBlock_220 : decode cX2_encryptBlock 220 = .ok (.invokestatic 38, 3) := dk_184 0 38 (dk_at dksX2_encryptBlock_9 8 rfl rfl)
theorem dX2_encryptBlock_223 : decode cX2_encryptBlock 223 = .ok (.istore 7, 2) := dk_54 7 (dk_at dksX2_encryptBlock_9 11 rfl rfl)
theorem dX2_encryptBlock_225 : decode cX2_encryptBlock 225 = .ok (.iload 8, 2) := dk_21 8 (dk_at dksX2_encryptBlock_9 13 rfl rfl)
theorem dX2_encryptBlock_227 : decode cX2_encryptBlock 227 = .ok (.iconst 2, 1) := dk_5 (dk_at dksX2_encryptBlock_9 15 rfl rfl)
theorem dX2_encryptBlock_228 : decode cX2_encryptBlock 228 = .ok (.invokestatic 38, 3) := dk_184 0 38 (dk_at dksX2_encryptBlock_9 16 rfl rfl)
theorem dX2_encryptBlock_231 : decode cX2_encryptBlock 231 = .ok (.istore 8, 2) := dk_54 8 (dk_at dksX2_encryptBlock_9 19 rfl rfl)
theorem dX2_encryptBlock_233 : decode cX2_encryptBlock 233 = .ok (.iload 8, 2) := dk_21 8 (dk_at dksX2_encryptBlock_9 21 rfl rfl)
theorem dX2_encryptBlock_235 : decode cX2_encryptBlock 235 = .ok (.istore 14, 2) := dk_54 14 (dk_at dksX2_encryptBlock_10 0 rfl rfl)
theorem dX2_encryptBlock_237 : decode cX2_encryptBlock 237 = .ok (.iload 6, 2) := dk_21 6 (dk_at dksX2_encryptBlock_10 2 rfl rfl)
theorem dX2_encryptBlock_239 : decode cX2_encryptBlock 239 = .ok (.iload 8, 2) := dk_21 8 (dk_at dksX2_encryptBlock_10 4 rfl rfl)
theorem dX2_encryptBlock_241 : decode cX2_encryptBlock 241 = .ok (.iload 7, 2) := dk_21 7 (dk_at dksX2_encryptBlock_10 6 rfl rfl)
theorem dX2_encryptBlock_243 : decode cX2_encryptBlock 243 = .ok (.ior, 1) := dk_128 (dk_at dksX2_encryptBlock_10 8 rfl rfl)
theorem dX2_encryptBlock_244 : decode cX2_encryptBlock 244 = .ok (.ixor, 1) := dk_130 (dk_at dksX2_encryptBlock_10 9 rfl rfl)
theorem dX2_encryptBlock_245 : decode cX2_encryptBlock 245 = .ok (.istore 6, 2) := dk_54 6 (dk_at dksX2_encryptBlock_10 10 rfl rfl)
theorem dX2_encryptBlock_247 : decode cX2_encryptBlock 247 = .ok (.iload 5, 2) := dk_21 5 (dk_at dksX2_encryptBlock_10 12 rfl rfl)
theorem dX2_encryptBlock_249 : decode cX2_encryptBlock 249 = .ok (.iload 7, 2) := dk_21 7 (dk_at dksX2_encryptBlock_10 14 rfl rfl)
theorem dX2_encryptBlock_251 : decode cX2_encryptBlock 251 = .ok (.iload 6, 2) := dk_21 6 (dk_at dksX2_encryptBlock_10 16 rfl rfl)
theorem dX2_encryptBlock_253 : decode cX2_encryptBlock 253 = .ok (.iconst (-1), 1) := dk_2 (dk_at dksX2_encryptBlock_10 18 rfl rfl)
theorem dX2_encryptBlock_254 : decode cX2_encryptBlock 254 = .ok (.ixor, 1) := dk_130 (dk_at dksX2_encryptBlock_10 19 rfl rfl)
theorem dX2_encryptBlock_255 : decode cX2_encryptBlock 255 = .ok (.iand, 1) := dk_126 (dk_at dksX2_encryptBlock_10 20 rfl rfl)
theorem dX2_encryptBlock_256 : decode cX2_encryptBlock 256 = .ok (.ixor, 1) := dk_130 (dk_at dksX2_encryptBlock_10 21 rfl rfl)
theorem dX2_encryptBlock_257 : decode cX2_encryptBlock 257 = .ok (.istore 8, 2) := dk_54 8 (dk_at dksX2_encryptBlock_10 22 rfl rfl)
theorem dX2_encryptBlock_259 : decode cX2_encryptBlock 259 = .ok (.iload 14, 2) := dk_21 14 (dk_at dksX2_encryptBlock_11 0 rfl rfl)
theorem dX2_encryptBlock_261 : decode cX2_encryptBlock 261 = .ok (.iload 6, 2) := dk_21 6 (dk_at dksX2_encryptBlock_11 2 rfl rfl)
theorem dX2_encryptBlock_263 : decode cX2_encryptBlock 263 = .ok (.iconst (-1), 1) := dk_2 (dk_at dksX2_encryptBlock_11 4 rfl rfl)
theorem dX2_encryptBlock_264 : decode cX2_encryptBlock 264 = .ok (.ixor, 1) := dk_130 (dk_at dksX2_encryptBlock_11 5 rfl rfl)
theorem dX2_encryptBlock_265 : decode cX2_encryptBlock 265 = .ok (.ixor, 1) := dk_130 (dk_at dksX2_encryptBlock_11 6 rfl rfl)
theorem dX2_encryptBlock_266 : decode cX2_encryptBlock 266 = .ok (.iload 7, 2) := dk_21 7 (dk_at dksX2_encryptBlock_11 7 rfl rfl)
theorem dX2_encryptBlock_268 : decode cX2_encryptBlock 268 = .ok (.ixor, 1) := dk_130 (dk_at dksX2_encryptBlock_11 9 rfl rfl)
theorem dX2_encryptBlock_269 : decode cX2_encryptBlock 269 = .ok (.iload 8, 2) := dk_21 8 (dk_at dksX2_encryptBlock_11 10 rfl rfl)
theorem dX2_encryptBlock_271 : decode cX2_encryptBlock 271 = .ok (.ixor, 1) := dk_130 (dk_at dksX2_encryptBlock_11 12 rfl rfl)
theorem dX2_encryptBlock_272 : decode cX2_encryptBlock 272 = .ok (.istore 7, 2) := dk_54 7 (dk_at dksX2_encryptBlock_11 13 rfl rfl)
theorem dX2_encryptBlock_274 : decode cX2_encryptBlock 274 = .ok (.iload 6, 2) := dk_21 6 (dk_at dksX2_encryptBlock_11 15 rfl rfl)
theorem dX2_encryptBlock_276 : decode cX2_encryptBlock 276 = .ok (.iload 8, 2) := dk_21 8 (dk_at dksX2_encryptBlock_11 17 rfl rfl)
theorem dX2_encryptBlock_278 : decode cX2_encryptBlock 278 = .ok (.iload 7, 2) := dk_21 7 (dk_at dksX2_encryptBlock_11 19 rfl rfl)
theorem dX2_encryptBlock_280 : decode cX2_encryptBlock 280 = .ok (.ior, 1) := dk_128 (dk_at dksX2_encryptBlock_11 21 rfl rfl)
theorem dX2_encryptBlock_281 : decode cX2_encryptBlock 281 = .ok (.ixor, 1) := dk_130 (dk_at dksX2_encryptBlock_11 22 rfl rfl)
theorem dX2_encryptBlock_282 : decode cX2_encryptBlock 282 = .ok (.istore 6, 2) := dk_54 6 (dk_at dksX2_encryptBlock_12 0 rfl rfl)
theorem dX2_encryptBlock_284 : decode cX2_encryptBlock 284 = .ok (.iload 14, 2) := dk_21 14 (dk_at dksX2_encryptBlock_12 2 rfl rfl)
theorem dX2_encryptBlock_286 : decode cX2_encryptBlock 286 = .ok (.iload 7, 2) := dk_21 7 (dk_at dksX2_encryptBlock_12 4 rfl rfl)
theorem dX2_encryptBlock_288 : decode cX2_encryptBlock 288 = .ok (.iload 6, 2) := dk_21 6 (dk_at dksX2_encryptBlock_12 6 rfl rfl)
theorem dX2_encryptBlock_290 : decode cX2_encryptBlock 290 = .ok (.iand, 1) := dk_126 (dk_at dksX2_encryptBlock_12 8 rfl rfl)
theorem dX2_encryptBlock_291 : decode cX2_encryptBlock 291 = .ok (.ixor, 1) := dk_130 (dk_at dksX2_encryptBlock_12 9 rfl rfl)
theorem dX2_encryptBlock_292 : decode cX2_encryptBlock 292 = .ok (.istore 5, 2) := dk_54 5 (dk_at dksX2_encryptBlock_12 10 rfl rfl)
theorem dX2_encryptBlock_294 : decode cX2_encryptBlock 294 = .ok (.iload 6, 2) := dk_21 6 (dk_at dksX2_encryptBlock_12 12 rfl rfl)
theorem dX2_encryptBlock_296 : decode cX2_encryptBlock 296 = .ok (.bipush 31, 2) := dk_16 31 (dk_at dksX2_encryptBlock_12 14 rfl rfl)
theorem dX2_encryptBlock_298 : decode cX2_encryptBlock 298 = .ok (.invokestatic 38, 3) := dk_184 0 38 (dk_at dksX2_encryptBlock_12 16 rfl rfl)
theorem dX2_encryptBlock_301 : decode cX2_encryptBlock 301 = .ok (.istore 6, 2) := dk_54 6 (dk_at dksX2_encryptBlock_12 19 rfl rfl)
theorem dX2_encryptBlock_303 : decode cX2_encryptBlock 303 = .ok (.iload 7, 2) := dk_21 7 (dk_at dksX2_encryptBlock_12 21 rfl rfl)
theorem dX2_encryptBlock_305 : decode cX2_encryptBlock 305 = .ok (.bipush 27, 2) := dk_16 27 (dk_at dksX2_encryptBlock_13 0 rfl rfl)
theorem dX2_encryptBlock_307 : decode cX2_encryptBlock 307 = .ok (.invokestatic 38, 3) := dk_184 0 38 (dk_at dksX2_encryptBlock_13 2 rfl rfl)
theorem dX2_encryptBlock_310 : decode cX2_encryptBlock 310 = .ok (.istore 7, 2) := dk_54 7 (dk_at dksX2_encryptBlock_13 5 rfl rfl)
theorem dX2_encryptBlock_312 : decode cX2_encryptBlock 312 = .ok (.iload 8, 2) := dk_21 8 (dk_at dksX2_encryptBlock_13 7 rfl rfl)
theorem dX2_encryptBlock_314 : decode cX2_encryptBlock 314 = .ok (.bipush 30, 2) := dk_16 30 (dk_at dksX2_encryptBlock_13 9 rfl rfl)
theorem dX2_encryptBlock_316 : decode cX2_encryptBlock 316 = .ok (.invokestatic 38, 3) := dk_184 0 38 (dk_at dksX2_encryptBlock_13 11 rfl rfl)
theorem dX2_encryptBlock_319 : decode cX2_encryptBlock 319 = .ok (.istore 8, 2) := dk_54 8 (dk_at dksX2_encryptBlock_13 14 rfl rfl)
theorem dX2_encryptBlock_321 : decode cX2_encryptBlock 321 = .ok (.goto (-250), 3) := dk_167 255 6 (dk_at dksX2_encryptBlock_13 16 rfl rfl)
theorem dX2_encryptBlock_324 : decode cX2_encryptBlock 324 = .ok (.iload 5, 2) := dk_21 5 (dk_at dksX2_encryptBlock_13 19 rfl rfl)
theorem dX2_encryptBlock_326 : decode cX2_encryptBlock 326 = .ok (.aload_n 3, 1) := dk_45 (dk_at dksX2_encryptBlock_13 21 rfl rfl)
theorem dX2_encryptBlock_327 : decode cX2_encryptBlock 327 = .ok (.iload 4, 2) := dk_21 4 (dk_at dksX2_encryptBlock_13 22 rfl rfl)
theorem dX2_encryptBlock_329 : decode cX2_encryptBlock 329 = .ok (.invokestatic 74, 3) := dk_184 0 74 (dk_at dksX2_encryptBlock_14 0 rfl rfl)
theorem dX2_encryptBlock_332 : decode cX2_encryptBlock 332 = .ok (.iload 6, 2) := dk_21 6 (dk_at dksX2_encryptBlock_14 3 rfl rfl)
theorem dX2_encryptBlock_334 : decode cX2_encryptBlock 334 = .ok (.aload_n 3, 1) := dk_45 (dk_at dksX2_encryptBlock_14 5 rfl rfl)
theorem dX2_encryptBlock_335 : decode cX2_encryptBlock 335 = .ok (.iload 4, 2) := dk_21 4 (dk_at dksX2_encryptBlock_14 6 rfl rfl)
theorem dX2_encryptBlock_337 : decode cX2_encryptBlock 337 = .ok (.iconst 4, 1) := dk_7 (dk_at dksX2_encryptBlock_14 8 rfl rfl)
theorem dX2_encryptBlock_338 : decode cX2_encryptBlock 338 = .ok (.iadd, 1) := dk_96 (dk_at dksX2_encryptBlock_14 9 rfl rfl)
theorem dX2_encryptBlock_339 : decode cX2_encryptBlock 339 = .ok (.invokestatic 74, 3) := dk_184 0 74 (dk_at dksX2_encryptBlock_14 10 rfl rfl)
theorem dX2_encryptBlock_342 : decode cX2_encryptBlock 342 = .ok (.iload 7, 2) := dk_21 7 (dk_at dksX2_encryptBlock_14 13 rfl rfl)
theorem dX2_encryptBlock_344 : decode cX2_encryptBlock 344 = .ok (.aload_n 3, 1) := dk_45 (dk_at dksX2_encryptBlock_14 15 rfl rfl)
theorem dX2_encryptBlock_345 : decode cX2_encryptBlock 345 = .ok (.iload 4, 2) := dk_21 4 (dk_at dksX2_encryptBlock_14 16 rfl rfl)
theorem dX2_encryptBlock_347 : decode cX2_encryptBlock 347 = .ok (.bipush 8, 2) := dk_16 8 (dk_at dksX2_encryptBlock_14 18 rfl rfl)
theorem dX2_encryptBlock_349 : decode cX2_encryptBlock 349 = .ok (.iadd, 1) := dk_96 (dk_at dksX2_encryptBlock_14 20 rfl rfl)
theorem dX2_encryptBlock_350 : decode cX2_encryptBlock 350 = .ok (.invokestatic 74, 3) := dk_184 0 74 (dk_at dksX2_encryptBlock_14 21 rfl rfl)
theorem dX2_encryptBlock_353 : decode cX2_encryptBlock 353 = .ok (.iload 8, 2) := dk_21 8 (dk_at dksX2_encryptBlock_15 0 rfl rfl)
theorem dX2_encryptBlock_355 : decode cX2_encryptBlock 355 = .ok (.aload_n 3, 1) := dk_45 (dk_at dksX2_encryptBlock_15 2 rfl rfl)
theorem dX2_encryptBlock_356 : decode cX2_encryptBlock 356 = .ok (.iload 4, 2) := dk_21 4 (dk_at dksX2_encryptBlock_15 3 rfl rfl)
theorem dX2_encryptBlock_358 : decode cX2_encryptBlock 358 = .ok (.bipush 12, 2) := dk_16 12 (dk_at dksX2_encryptBlock_15 5 rfl rfl)
theorem dX2_encryptBlock_360 : decode cX2_encryptBlock 360 = .ok (.iadd, 1) := dk_96 (dk_at dksX2_encryptBlock_15 7 rfl rfl)
theorem dX2_encryptBlock_361 : decode cX2_encryptBlock 361 = .ok (.invokestatic 74, 3) := dk_184 0 74 (dk_at dksX2_encryptBlock_15 8 rfl rfl)
theorem dX2_encryptBlock_364 : decode cX2_encryptBlock 364 = .ok (.bipush 16, 2) := dk_16 16 (dk_at dksX2_encryptBlock_15 11 rfl rfl)
theorem dX2_encryptBlock_366 : decode cX2_encryptBlock 366 = .ok (.ireturn, 1) := dk_172 (dk_at dksX2_encryptBlock_15 13 rfl rfl)
abbrev cX2_decryptBlock : ByteArray := prog_9_method_5_code
def yX2_decryptBlock : MethodName := ⟨RX2, "decryptBlock", "([BI[BI)I"⟩
def dkwX2_decryptBlock_15 : List UInt8 := [16, 12, 96, 184, 0, 74, 16, 16, 172]
abbrev dktX2_decryptBlock_15 : List UInt8 := dkwX2_decryptBlock_15 ++ []
def dkwX2_decryptBlock_14 : List UInt8 := [45, 21, 4, 7, 96, 184, 0, 74, 21, 7, 45, 21, 4, 16, 8, 96, 184, 0, 74, 21, 8, 45, 21, 4]
abbrev dktX2_decryptBlock_14 : List UInt8 := dkwX2_decryptBlock_14 ++ dktX2_decryptBlock_15
def dkwX2_decryptBlock_13 : List UInt8 := [54, 7, 21, 8, 16, 30, 184, 0, 38, 54, 8, 167, 255, 8, 21, 5, 45, 21, 4, 184, 0, 74, 21, 6]
abbrev dktX2_decryptBlock_13 : List UInt8 := dkwX2_decryptBlock_13 ++ dktX2_decryptBlock_14
def dkwX2_decryptBlock_12 : List UInt8 := [21, 7, 21, 6, 126, 130, 54, 5, 21, 6, 16, 31, 184, 0, 38, 54, 6, 21, 7, 16, 27, 184, 0, 38]
abbrev dktX2_decryptBlock_12 : List UInt8 := dkwX2_decryptBlock_12 ++ dktX2_decryptBlock_13
def dkwX2_decryptBlock_11 : List UInt8 := [2, 130, 130, 21, 7, 130, 21, 8, 130, 54, 7, 21, 6, 21, 8, 21, 7, 128, 130, 54, 6, 21, 14]
abbrev dktX2_decryptBlock_11 : List UInt8 := dkwX2_decryptBlock_11 ++ dktX2_decryptBlock_12
def dkwX2_decryptBlock_10 : List UInt8 := [21, 8, 21, 7, 128, 130, 54, 6, 21, 5, 21, 7, 21, 6, 2, 130, 126, 130, 54, 8, 21, 14, 21, 6]
abbrev dktX2_decryptBlock_10 : List UInt8 := dkwX2_decryptBlock_10 ++ dktX2_decryptBlock_11
def dkwX2_decryptBlock_9 : List UInt8 := [54, 6, 21, 7, 8, 184, 0, 38, 54, 7, 21, 8, 5, 184, 0, 38, 54, 8, 21, 8, 54, 14, 21, 6]
abbrev dktX2_decryptBlock_9 : List UInt8 := dkwX2_decryptBlock_9 ++ dktX2_decryptBlock_10
def dkwX2_decryptBlock_8 : List UInt8 := [17, 0, 255, 126, 130, 54, 5, 132, 13, 255, 21, 13, 156, 0, 6, 167, 0, 118, 21, 6, 4, 184, 0, 38]
abbrev dktX2_decryptBlock_8 : List UInt8 := dkwX2_decryptBlock_8 ++ dktX2_decryptBlock_9
def dkwX2_decryptBlock_7 : List UInt8 := [54, 6, 21, 7, 21, 15, 130, 54, 7, 21, 8, 21, 14, 130, 54, 8, 21, 5, 178, 0, 70, 21, 13, 51]
abbrev dktX2_decryptBlock_7 : List UInt8 := dkwX2_decryptBlock_7 ++ dktX2_decryptBlock_8
def dkwX2_decryptBlock_6 : List UInt8 := [21, 15, 16, 24, 184, 0, 38, 130, 130, 54, 15, 21, 5, 21, 15, 130, 54, 5, 21, 6, 21, 14, 130]
abbrev dktX2_decryptBlock_6 : List UInt8 := dkwX2_decryptBlock_6 ++ dktX2_decryptBlock_7
def dkwX2_decryptBlock_5 : List UInt8 := [21, 8, 21, 12, 130, 54, 8, 21, 6, 21, 8, 130, 54, 15, 21, 15, 21, 15, 16, 8, 184, 0, 38]
abbrev dktX2_decryptBlock_5 : List UInt8 := dkwX2_decryptBlock_5 ++ dktX2_decryptBlock_6
def dkwX2_decryptBlock_4 : List UInt8 := [130, 54, 14, 21, 5, 21, 9, 130, 54, 5, 21, 6, 21, 10, 130, 54, 6, 21, 7, 21, 11, 130, 54, 7]
abbrev dktX2_decryptBlock_4 : List UInt8 := dkwX2_decryptBlock_4 ++ dktX2_decryptBlock_5
def dkwX2_decryptBlock_3 : List UInt8 := [21, 5, 21, 7, 130, 54, 14, 21, 14, 21, 14, 16, 8, 184, 0, 38, 21, 14, 16, 24, 184, 0, 38, 130]
abbrev dktX2_decryptBlock_3 : List UInt8 := dkwX2_decryptBlock_3 ++ dktX2_decryptBlock_4
def dkwX2_decryptBlock_2 : List UInt8 := [4, 46, 54, 10, 42, 180, 0, 7, 5, 46, 54, 11, 42, 180, 0, 7, 6, 46, 54, 12, 16, 16, 54, 13]
abbrev dktX2_decryptBlock_2 : List UInt8 := dkwX2_decryptBlock_2 ++ dktX2_decryptBlock_3
def dkwX2_decryptBlock_1 : List UInt8 := [54, 7, 43, 28, 16, 12, 96, 184, 0, 67, 54, 8, 42, 180, 0, 7, 3, 46, 54, 9, 42, 180, 0, 7]
abbrev dktX2_decryptBlock_1 : List UInt8 := dkwX2_decryptBlock_1 ++ dktX2_decryptBlock_2
def dkwX2_decryptBlock_0 : List UInt8 := [43, 28, 184, 0, 67, 54, 5, 43, 28, 7, 96, 184, 0, 67, 54, 6, 43, 28, 16, 8, 96, 184, 0, 67]
abbrev dktX2_decryptBlock_0 : List UInt8 := dkwX2_decryptBlock_0 ++ dktX2_decryptBlock_1
theorem dksX2_decryptBlock_0 : cX2_decryptBlock.data.toList.drop 0 = dktX2_decryptBlock_0 := by decide +kernel
theorem dksX2_decryptBlock_1 : cX2_decryptBlock.data.toList.drop 24 = dktX2_decryptBlock_1 := dk_seg dksX2_decryptBlock_0 24 rfl rfl
theorem dksX2_decryptBlock_2 : cX2_decryptBlock.data.toList.drop 48 = dktX2_decryptBlock_2 := dk_seg dksX2_decryptBlock_1 24 rfl rfl
theorem dksX2_decryptBlock_3 : cX2_decryptBlock.data.toList.drop 72 = dktX2_decryptBlock_3 := dk_seg dksX2_decryptBlock_2 24 rfl rfl
theorem dksX2_decryptBlock_4 : cX2_decryptBlock.data.toList.drop 96 = dktX2_decryptBlock_4 := dk_seg dksX2_decryptBlock_3 24 rfl rfl
theorem dksX2_decryptBlock_5 : cX2_decryptBlock.data.toList.drop 120 = dktX2_decryptBlock_5 := dk_seg dksX2_decryptBlock_4 24 rfl rfl
theorem dksX2_decryptBlock_6 : cX2_decryptBlock.data.toList.drop 143 = dktX2_decryptBlock_6 := dk_seg dksX2_decryptBlock_5 23 rfl rfl
theorem dksX2_decryptBlock_7 : cX2_decryptBlock.data.toList.drop 166 = dktX2_decryptBlock_7 := dk_seg dksX2_decryptBlock_6 23 rfl rfl
theorem dksX2_decryptBlock_8 : cX2_decryptBlock.data.toList.drop 190 = dktX2_decryptBlock_8 := dk_seg dksX2_decryptBlock_7 24 rfl rfl
theorem dksX2_decryptBlock_9 : cX2_decryptBlock.data.toList.drop 214 = dktX2_decryptBlock_9 := dk_seg dksX2_decryptBlock_8 24 rfl rfl
theorem dksX2_decryptBlock_10 : cX2_decryptBlock.data.toList.drop 238 = dktX2_decryptBlock_10 := dk_seg dksX2_decryptBlock_9 24 rfl rfl
theorem dksX2_decryptBlock_11 : cX2_decryptBlock.data.toList.drop 262 = dktX2_decryptBlock_11 := dk_seg dksX2_decryptBlock_10 24 rfl rfl
theorem dksX2_decryptBlock_12 : cX2_decryptBlock.data.toList.drop 285 = dktX2_decryptBlock_12 := dk_seg dksX2_decryptBlock_11 23 rfl rfl
theorem dksX2_decryptBlock_13 : cX2_decryptBlock.data.toList.drop 309 = dktX2_decryptBlock_13 := dk_seg dksX2_decryptBlock_12 24 rfl rfl
theorem dksX2_decryptBlock_14 : cX2_decryptBlock.data.toList.drop 333 = dktX2_decryptBlock_14 := dk_seg dksX2_decryptBlock_13 24 rfl rfl
theorem dksX2_decryptBlock_15 : cX2_decryptBlock.data.toList.drop 357 = dktX2_decryptBlock_15 := dk_seg dksX2_decryptBlock_14 24 rfl rfl
theorem dX2_decryptBlock_0 : decode cX2_decryptBlock 0 = .ok (.aload_n 1, 1) := dk_43 (dk_at dksX2_decryptBlock_0 0 rfl rfl)
theorem dX2_decryptBlock_1 : decode cX2_decryptBlock 1 = .ok (.iload_n 2, 1) := dk_28 (dk_at dksX2_decryptBlock_0 1 rfl rfl)
theorem dX2_decryptBlock_2 : decode cX2_decryptBlock 2 = .ok (.invokestatic 67, 3) := dk_184 0 67 (dk_at dksX2_decryptBlock_0 2 rfl rfl)
theorem dX2_decryptBlock_5 : decode cX2_decryptBlock 5 = .ok (.istore 5, 2) := dk_54 5 (dk_at dksX2_decryptBlock_0 5 rfl rfl)
theorem dX2_decryptBlock_7 : decode cX2_decryptBlock 7 = .ok (.aload_n 1, 1) := dk_43 (dk_at dksX2_decryptBlock_0 7 rfl rfl)
theorem dX2_decryptBlock_8 : decode cX2_decryptBlock 8 = .ok (.iload_n 2, 1) := dk_28 (dk_at dksX2_decryptBlock_0 8 rfl rfl)
theorem dX2_decryptBlock_9 : decode cX2_decryptBlock 9 = .ok (.iconst 4, 1) := dk_7 (dk_at dksX2_decryptBlock_0 9 rfl rfl)
theorem dX2_decryptBlock_10 : decode cX2_decryptBlock 10 = .ok (.iadd, 1) := dk_96 (dk_at dksX2_decryptBlock_0 10 rfl rfl)
theorem dX2_decryptBlock_11 : decode cX2_decryptBlock 11 = .ok (.invokestatic 67, 3) := dk_184 0 67 (dk_at dksX2_decryptBlock_0 11 rfl rfl)
theorem dX2_decryptBlock_14 : decode cX2_decryptBlock 14 = .ok (.istore 6, 2) := dk_54 6 (dk_at dksX2_decryptBlock_0 14 rfl rfl)
theorem dX2_decryptBlock_16 : decode cX2_decryptBlock 16 = .ok (.aload_n 1, 1) := dk_43 (dk_at dksX2_decryptBlock_0 16 rfl rfl)
theorem dX2_decryptBlock_17 : decode cX2_decryptBlock 17 = .ok (.iload_n 2, 1) := dk_28 (dk_at dksX2_decryptBlock_0 17 rfl rfl)
theorem dX2_decryptBlock_18 : decode cX2_decryptBlock 18 = .ok (.bipush 8, 2) := dk_16 8 (dk_at dksX2_decryptBlock_0 18 rfl rfl)
theorem dX2_decryptBlock_20 : decode cX2_decryptBlock 20 = .ok (.iadd, 1) := dk_96 (dk_at dksX2_decryptBlock_0 20 rfl rfl)
theorem dX2_decryptBlock_21 : decode cX2_decryptBlock 21 = .ok (.invokestatic 67, 3) := dk_184 0 67 (dk_at dksX2_decryptBlock_0 21 rfl rfl)
theorem dX2_decryptBlock_24 : decode cX2_decryptBlock 24 = .ok (.istore 7, 2) := dk_54 7 (dk_at dksX2_decryptBlock_1 0 rfl rfl)
theorem dX2_decryptBlock_26 : decode cX2_decryptBlock 26 = .ok (.aload_n 1, 1) := dk_43 (dk_at dksX2_decryptBlock_1 2 rfl rfl)
theorem dX2_decryptBlock_27 : decode cX2_decryptBlock 27 = .ok (.iload_n 2, 1) := dk_28 (dk_at dksX2_decryptBlock_1 3 rfl rfl)
theorem dX2_decryptBlock_28 : decode cX2_decryptBlock 28 = .ok (.bipush 12, 2) := dk_16 12 (dk_at dksX2_decryptBlock_1 4 rfl rfl)
theorem dX2_decryptBlock_30 : decode cX2_decryptBlock 30 = .ok (.iadd, 1) := dk_96 (dk_at dksX2_decryptBlock_1 6 rfl rfl)
theorem dX2_decryptBlock_31 : decode cX2_decryptBlock 31 = .ok (.invokestatic 67, 3) := dk_184 0 67 (dk_at dksX2_decryptBlock_1 7 rfl rfl)
theorem dX2_decryptBlock_34 : decode cX2_decryptBlock 34 = .ok (.istore 8, 2) := dk_54 8 (dk_at dksX2_decryptBlock_1 10 rfl rfl)
theorem dX2_decryptBlock_36 : decode cX2_decryptBlock 36 = .ok (.aload_n 0, 1) := dk_42 (dk_at dksX2_decryptBlock_1 12 rfl rfl)
theorem dX2_decryptBlock_37 : decode cX2_decryptBlock 37 = .ok (.getfield 7, 3) := dk_180 0 7 (dk_at dksX2_decryptBlock_1 13 rfl rfl)
theorem dX2_decryptBlock_40 : decode cX2_decryptBlock 40 = .ok (.iconst 0, 1) := dk_3 (dk_at dksX2_decryptBlock_1 16 rfl rfl)
theorem dX2_decryptBlock_41 : decode cX2_decryptBlock 41 = .ok (.iaload, 1) := dk_46 (dk_at dksX2_decryptBlock_1 17 rfl rfl)
theorem dX2_decryptBlock_42 : decode cX2_decryptBlock 42 = .ok (.istore 9, 2) := dk_54 9 (dk_at dksX2_decryptBlock_1 18 rfl rfl)
theorem dX2_decryptBlock_44 : decode cX2_decryptBlock 44 = .ok (.aload_n 0, 1) := dk_42 (dk_at dksX2_decryptBlock_1 20 rfl rfl)
theorem dX2_decryptBlock_45 : decode cX2_decryptBlock 45 = .ok (.getfield 7, 3) := dk_180 0 7 (dk_at dksX2_decryptBlock_1 21 rfl rfl)
theorem dX2_decryptBlock_48 : decode cX2_decryptBlock 48 = .ok (.iconst 1, 1) := dk_4 (dk_at dksX2_decryptBlock_2 0 rfl rfl)
theorem dX2_decryptBlock_49 : decode cX2_decryptBlock 49 = .ok (.iaload, 1) := dk_46 (dk_at dksX2_decryptBlock_2 1 rfl rfl)
theorem dX2_decryptBlock_50 : decode cX2_decryptBlock 50 = .ok (.istore 10, 2) := dk_54 10 (dk_at dksX2_decryptBlock_2 2 rfl rfl)
theorem dX2_decryptBlock_52 : decode cX2_decryptBlock 52 = .ok (.aload_n 0, 1) := dk_42 (dk_at dksX2_decryptBlock_2 4 rfl rfl)
theorem dX2_decryptBlock_53 : decode cX2_decryptBlock 53 = .ok (.getfield 7, 3) := dk_180 0 7 (dk_at dksX2_decryptBlock_2 5 rfl rfl)
theorem dX2_decryptBlock_56 : decode cX2_decryptBlock 56 = .ok (.iconst 2, 1) := dk_5 (dk_at dksX2_decryptBlock_2 8 rfl rfl)
theorem dX2_decryptBlock_57 : decode cX2_decryptBlock 57 = .ok (.iaload, 1) := dk_46 (dk_at dksX2_decryptBlock_2 9 rfl rfl)
theorem dX2_decryptBlock_58 : decode cX2_decryptBlock 58 = .ok (.istore 11, 2) := dk_54 11 (dk_at dksX2_decryptBlock_2 10 rfl rfl)
theorem dX2_decryptBlock_60 : decode cX2_decryptBlock 60 = .ok (.aload_n 0, 1) := dk_42 (dk_at dksX2_decryptBlock_2 12 rfl rfl)
theorem dX2_decryptBlock_61 : decode cX2_decryptBlock 61 = .ok (.getfield 7, 3) := dk_180 0 7 (dk_at dksX2_decryptBlock_2 13 rfl rfl)
theorem dX2_decryptBlock_64 : decode cX2_decryptBlock 64 = .ok (.iconst 3, 1) := dk_6 (dk_at dksX2_decryptBlock_2 16 rfl rfl)
theorem dX2_decryptBlock_65 : decode cX2_decryptBlock 65 = .ok (.iaload, 1) := dk_46 (dk_at dksX2_decryptBlock_2 17 rfl rfl)
theorem dX2_decryptBlock_66 : decode cX2_decryptBlock 66 = .ok (.istore 12, 2) := dk_54 12 (dk_at dksX2_decryptBlock_2 18 rfl rfl)
theorem dX2_decryptBlock_68 : decode cX2_decryptBlock 68 = .ok (.bipush 16, 2) := dk_16 16 (dk_at dksX2_decryptBlock_2 20 rfl rfl)
theorem dX2_decryptBlock_70 : decode cX2_decryptBlock 70 = .ok (.istore 13, 2) := dk_54 13 (dk_at dksX2_decryptBlock_2 22 rfl rfl)
theorem dX2_decryptBlock_72 : decode cX2_decryptBlock 72 = .ok (.iload 5, 2) := dk_21 5 (dk_at dksX2_decryptBlock_3 0 rfl rfl)
theorem dX2_decryptBlock_74 : decode cX2_decryptBlock 74 = .ok (.iload 7, 2) := dk_21 7 (dk_at dksX2_decryptBlock_3 2 rfl rfl)
theorem dX2_decryptBlock_76 : decode cX2_decryptBlock 76 = .ok (.ixor, 1) := dk_130 (dk_at dksX2_decryptBlock_3 4 rfl rfl)
theorem dX2_decryptBlock_77 : decode cX2_decryptBlock 77 = .ok (.istore 14, 2) := dk_54 14 (dk_at dksX2_decryptBlock_3 5 rfl rfl)
theorem dX2_decryptBlock_79 : decode cX2_decryptBlock 79 = .ok (.iload 14, 2) := dk_21 14 (dk_at dksX2_decryptBlock_3 7 rfl rfl)
theorem dX2_decryptBlock_81 : decode cX2_decryptBlock 81 = .ok (.iload 14, 2) := dk_21 14 (dk_at dksX2_decryptBlock_3 9 rfl rfl)
theorem dX2_decryptBlock_83 : decode cX2_decryptBlock 83 = .ok (.bipush 8, 2) := dk_16 8 (dk_at dksX2_decryptBlock_3 11 rfl rfl)
theorem dX2_decryptBlock_85 : decode cX2_decryptBlock 85 = .ok (.invokestatic 38, 3) := dk_184 0 38 (dk_at dksX2_decryptBlock_3 13 rfl rfl)
theorem dX2_decryptBlock_88 : decode cX2_decryptBlock 88 = .ok (.iload 14, 2) := dk_21 14 (dk_at dksX2_decryptBlock_3 16 rfl rfl)
theorem dX2_decryptBlock_90 : decode cX2_decryptBlock 90 = .ok (.bipush 24, 2) := dk_16 24 (dk_at dksX2_decryptBlock_3 18 rfl rfl)
theorem dX2_decryptBlock_92 : decode cX2_decryptBlock 92 = .ok (.invokestatic 38, 3) := dk_184 0 38 (dk_at dksX2_decryptBlock_3 20 rfl rfl)
theorem dX2_decryptBlock_95 : decode cX2_decryptBlock 95 = .ok (.ixor, 1) := dk_130 (dk_at dksX2_decryptBlock_3 23 rfl rfl)
theorem dX2_decryptBlock_96 : decode cX2_decryptBlock 96 = .ok (.ixor, 1) := dk_130 (dk_at dksX2_decryptBlock_4 0 rfl rfl)
theorem dX2_decryptBlock_97 : decode cX2_decryptBlock 97 = .ok (.istore 14, 2) := dk_54 14 (dk_at dksX2_decryptBlock_4 1 rfl rfl)
theorem dX2_decryptBlock_99 : decode cX2_decryptBlock 99 = .ok (.iload 5, 2) := dk_21 5 (dk_at dksX2_decryptBlock_4 3 rfl rfl)
theorem dX2_decryptBlock_101 : decode cX2_decryptBlock 101 = .ok (.iload 9, 2) := dk_21 9 (dk_at dksX2_decryptBlock_4 5 rfl rfl)
theorem dX2_decryptBlock_103 : decode cX2_decryptBlock 103 = .ok (.ixor, 1) := dk_130 (dk_at dksX2_decryptBlock_4 7 rfl rfl)
theorem dX2_decryptBlock_104 : decode cX2_decryptBlock 104 = .ok (.istore 5, 2) := dk_54 5 (dk_at dksX2_decryptBlock_4 8 rfl rfl)
theorem dX2_decryptBlock_106 : decode cX2_decryptBlock 106 = .ok (.iload 6, 2) := dk_21 6 (dk_at dksX2_decryptBlock_4 10 rfl rfl)
theorem dX2_decryptBlock_108 : decode cX2_decryptBlock 108 = .ok (.iload 10, 2) := dk_21 10 (dk_at dksX2_decryptBlock_4 12 rfl rfl)
theorem dX2_decryptBlock_110 : decode cX2_decryptBlock 110 = .ok (.ixor, 1) := dk_130 (dk_at dksX2_decryptBlock_4 14 rfl rfl)
theorem dX2_decryptBlock_111 : decode cX2_decryptBlock 111 = .ok (.istore 6, 2) := dk_54 6 (dk_at dksX2_decryptBlock_4 15 rfl rfl)
theorem dX2_decryptBlock_113 : decode cX2_decryptBlock 113 = .ok (.iload 7, 2) := dk_21 7 (dk_at dksX2_decryptBlock_4 17 rfl rfl)
theorem dX2_decryptBlock_115 : decode cX2_decryptBlock 115 = .ok (.iload 11, 2) := dk_21 11 (dk_at dksX2_decryptBlock_4 19 rfl rfl)
theorem dX2_decryptBlock_117 : decode cX2_decryptBlock 117 = .ok (.ixor, 1) := dk_130 (dk_at dksX2_decryptBlock_4 21 rfl rfl)
theorem dX2_decryptBlock_118 : decode cX2_decryptBlock 118 = .ok (.istore 7, 2) := dk_54 7 (dk_at dksX2_decryptBlock_4 22 rfl rfl)
theorem dX2_decryptBlock_120 : decode cX2_decryptBlock 120 = .ok (.iload 8, 2) := dk_21 8 (dk_at dksX2_decryptBlock_5 0 rfl rfl)
theorem dX2_decryptBlock_122 : decode cX2_decryptBlock 122 = .ok (.iload 12, 2) := dk_21 12 (dk_at dksX2_decryptBlock_5 2 rfl rfl)
theorem dX2_decryptBlock_124 : decode cX2_decryptBlock 124 = .ok (.ixor, 1) := dk_130 (dk_at dksX2_decryptBlock_5 4 rfl rfl)
theorem dX2_decryptBlock_125 : decode cX2_decryptBlock 125 = .ok (.istore 8, 2) := dk_54 8 (dk_at dksX2_decryptBlock_5 5 rfl rfl)
theorem dX2_decryptBlock_127 : decode cX2_decryptBlock 127 = .ok (.iload 6, 2) := dk_21 6 (dk_at dksX2_decryptBlock_5 7 rfl rfl)
theorem dX2_decryptBlock_129 : decode cX2_decryptBlock 129 = .ok (.iload 8, 2) := dk_21 8 (dk_at dksX2_decryptBlock_5 9 rfl rfl)
theorem dX2_decryptBlock_131 : decode cX2_decryptBlock 131 = .ok (.ixor, 1) := dk_130 (dk_at dksX2_decryptBlock_5 11 rfl rfl)
theorem dX2_decryptBlock_132 : decode cX2_decryptBlock 132 = .ok (.istore 15, 2) := dk_54 15 (dk_at dksX2_decryptBlock_5 12 rfl rfl)
theorem dX2_decryptBlock_134 : decode cX2_decryptBlock 134 = .ok (.iload 15, 2) := dk_21 15 (dk_at dksX2_decryptBlock_5 14 rfl rfl)
theorem dX2_decryptBlock_136 : decode cX2_decryptBlock 136 = .ok (.iload 15, 2) := dk_21 15 (dk_at dksX2_decryptBlock_5 16 rfl rfl)
theorem dX2_decryptBlock_138 : decode cX2_decryptBlock 138 = .ok (.bipush 8, 2) := dk_16 8 (dk_at dksX2_decryptBlock_5 18 rfl rfl)
theorem dX2_decryptBlock_140 : decode cX2_decryptBlock 140 = .ok (.invokestatic 38, 3) := dk_184 0 38 (dk_at dksX2_decryptBlock_5 20 rfl rfl)
theorem dX2_decryptBlock_143 : decode cX2_decryptBlock 143 = .ok (.iload 15, 2) := dk_21 15 (dk_at dksX2_decryptBlock_6 0 rfl rfl)
theorem dX2_decryptBlock_145 : decode cX2_decryptBlock 145 = .ok (.bipush 24, 2) := dk_16 24 (dk_at dksX2_decryptBlock_6 2 rfl rfl)
theorem dX2_decryptBlock_147 : decode cX2_decryptBlock 147 = .ok (.invokestatic 38, 3) := dk_184 0 38 (dk_at dksX2_decryptBlock_6 4 rfl rfl)
theorem dX2_decryptBlock_150 : decode cX2_decryptBlock 150 = .ok (.ixor, 1) := dk_130 (dk_at dksX2_decryptBlock_6 7 rfl rfl)
theorem dX2_decryptBlock_151 : decode cX2_decryptBlock 151 = .ok (.ixor, 1) := dk_130 (dk_at dksX2_decryptBlock_6 8 rfl rfl)
theorem dX2_decryptBlock_152 : decode cX2_decryptBlock 152 = .ok (.istore 15, 2) := dk_54 15 (dk_at dksX2_decryptBlock_6 9 rfl rfl)
theorem dX2_decryptBlock_154 : decode cX2_decryptBlock 154 = .ok (.iload 5, 2) := dk_21 5 (dk_at dksX2_decryptBlock_6 11 rfl rfl)
theorem dX2_decryptBlock_156 : decode cX2_decryptBlock 156 = .ok (.iload 15, 2) := dk_21 15 (dk_at dksX2_decryptBlock_6 13 rfl rfl)
theorem dX2_decryptBlock_158 : decode cX2_decryptBlock 158 = .ok (.ixor, 1) := dk_130 (dk_at dksX2_decryptBlock_6 15 rfl rfl)
theorem dX2_decryptBlock_159 : decode cX2_decryptBlock 159 = .ok (.istore 5, 2) := dk_54 5 (dk_at dksX2_decryptBlock_6 16 rfl rfl)
theorem dX2_decryptBlock_161 : decode cX2_decryptBlock 161 = .ok (.iload 6, 2) := dk_21 6 (dk_at dksX2_decryptBlock_6 18 rfl rfl)
theorem dX2_decryptBlock_163 : decode cX2_decryptBlock 163 = .ok (.iload 14, 2) := dk_21 14 (dk_at dksX2_decryptBlock_6 20 rfl rfl)
theorem dX2_decryptBlock_165 : decode cX2_decryptBlock 165 = .ok (.ixor, 1) := dk_130 (dk_at dksX2_decryptBlock_6 22 rfl rfl)
theorem dX2_decryptBlock_166 : decode cX2_decryptBlock 166 = .ok (.istore 6, 2) := dk_54 6 (dk_at dksX2_decryptBlock_7 0 rfl rfl)
theorem dX2_decryptBlock_168 : decode cX2_decryptBlock 168 = .ok (.iload 7, 2) := dk_21 7 (dk_at dksX2_decryptBlock_7 2 rfl rfl)
theorem dX2_decryptBlock_170 : decode cX2_decryptBlock 170 = .ok (.iload 15, 2) := dk_21 15 (dk_at dksX2_decryptBlock_7 4 rfl rfl)
theorem dX2_decryptBlock_172 : decode cX2_decryptBlock 172 = .ok (.ixor, 1) := dk_130 (dk_at dksX2_decryptBlock_7 6 rfl rfl)
theorem dX2_decryptBlock_173 : decode cX2_decryptBlock 173 = .ok (.istore 7, 2) := dk_54 7 (dk_at dksX2_decryptBlock_7 7 rfl rfl)
theorem dX2_decryptBlock_175 : decode cX2_decryptBlock 175 = .ok (.iload 8, 2) := dk_21 8 (dk_at dksX2_decryptBlock_7 9 rfl rfl)
theorem dX2_decryptBlock_177 : decode cX2_decryptBlock 177 = .ok (.iload 14, 2) := dk_21 14 (dk_at dksX2_decryptBlock_7 11 rfl rfl)
theorem dX2_decryptBlock_179 : decode cX2_decryptBlock 179 = .ok (.ixor, 1) := dk_130 (dk_at dksX2_decryptBlock_7 13 rfl rfl)
theorem dX2_decryptBlock_180 : decode cX2_decryptBlock 180 = .ok (.istore 8, 2) := dk_54 8 (dk_at dksX2_decryptBlock_7 14 rfl rfl)
theorem dX2_decryptBlock_182 : decode cX2_decryptBlock 182 = .ok (.iload 5, 2) := dk_21 5 (dk_at dksX2_decryptBlock_7 16 rfl rfl)
theorem dX2_decryptBlock_184 : decode cX2_decryptBlock 184 = .ok (.getstatic 70, 3) := dk_178 0 70 (dk_at dksX2_decryptBlock_7 18 rfl rfl)
theorem dX2_decryptBlock_187 : decode cX2_decryptBlock 187 = .ok (.iload 13, 2) := dk_21 13 (dk_at dksX2_decryptBlock_7 21 rfl rfl)
theorem dX2_decryptBlock_189 : decode cX2_decryptBlock 189 = .ok (.baload, 1) := dk_51 (dk_at dksX2_decryptBlock_7 23 rfl rfl)
theorem dX2_decryptBlock_190 : decode cX2_decryptBlock 190 = .ok (.sipush 255, 3) := dk_17 0 255 (dk_at dksX2_decryptBlock_8 0 rfl rfl)
theorem dX2_decryptBlock_193 : decode cX2_decryptBlock 193 = .ok (.iand, 1) := dk_126 (dk_at dksX2_decryptBlock_8 3 rfl rfl)
theorem dX2_decryptBlock_194 : decode cX2_decryptBlock 194 = .ok (.ixor, 1) := dk_130 (dk_at dksX2_decryptBlock_8 4 rfl rfl)
theorem dX2_decryptBlock_195 : decode cX2_decryptBlock 195 = .ok (.istore 5, 2) := dk_54 5 (dk_at dksX2_decryptBlock_8 5 rfl rfl)
theorem dX2_decryptBlock_197 : decode cX2_decryptBlock 197 = .ok (.iinc 13 (-1), 3) := dk_132 13 255 (dk_at dksX2_decryptBlock_8 7 rfl rfl)
theorem dX2_decryptBlock_200 : decode cX2_decryptBlock 200 = .ok (.iload 13, 2) := dk_21 13 (dk_at dksX2_decryptBlock_8 10 rfl rfl)
theorem dX2_decryptBlock_202 : decode cX2_decryptBlock 202 = .ok (.ifCond .ge 6, 3) := dk_156 0 6 (dk_at dksX2_decryptBlock_8 12 rfl rfl)
theorem dX2_decryptBlock_205 : decode cX2_decryptBlock 205 = .ok (.goto 118, 3) := dk_167 0 118 (dk_at dksX2_decryptBlock_8 15 rfl rfl)
theorem dX2_decryptBlock_208 : decode cX2_decryptBlock 208 = .ok (.iload 6, 2) := dk_21 6 (dk_at dksX2_decryptBlock_8 18 rfl rfl)
theorem dX2_decryptBlock_210 : decode cX2_decryptBlock 210 = .ok (.iconst 1, 1) := dk_4 (dk_at dksX2_decryptBlock_8 20 rfl rfl)
theorem dX2_decryptBlock_211 : decode cX2_decryptBlock 211 = .ok (.invokestatic 38, 3) := dk_184 0 38 (dk_at dksX2_decryptBlock_8 21 rfl rfl)
theorem dX2_decryptBlock_214 : decode cX2_decryptBlock 214 = .ok (.istore 6, 2) := dk_54 6 (dk_at dksX2_decryptBlock_9 0 rfl rfl)
theorem dX2_decryptBlock_216 : decode cX2_decryptBlock 216 = .ok (.iload 7, 2) := dk_21 7 (dk_at dksX2_decryptBlock_9 2 rfl rfl)
theorem dX2_decryptBlock_218 : decode cX2_decryptBlock 218 = .ok (.iconst 5, 1) := dk_8 (dk_at dksX2_decryptBlock_9 4 rfl rfl)
theorem dX2_decryptBlock_219 : decode cX2_decryptBlock 219 = .ok (.invokestatic 38, 3) := dk_184 0 38 (dk_at dksX2_decryptBlock_9 5 rfl rfl)
theorem dX2_decryptBlock_222 : decode cX2_decryptBlock 222 = .ok (.istore 7, 2) := dk_54 7 (dk_at dksX2_decryptBlock_9 8 rfl rfl)
theorem dX2_decryptBlock_224 : decode cX2_decryptBlock 224 = .ok (.iload 8, 2) := dk_21 8 (dk_at dksX2_decryptBlock_9 10 rfl rfl)
theorem dX2_decryptBlock_226 : decode cX2_decryptBlock 226 = .ok (.iconst 2, 1) := dk_5 (dk_at dksX2_decryptBlock_9 12 rfl rfl)
theorem dX2_decryptBlock_227 : decode cX2_decryptBlock 227 = .ok (.invokestatic 38, 3) := dk_184 0 38 (dk_at dksX2_decryptBlock_9 13 rfl rfl)
theorem dX2_decryptBlock_230 : decode cX2_decryptBlock 230 = .ok (.istore 8, 2) := dk_54 8 (dk_at dksX2_decryptBlock_9 16 rfl rfl)
theorem dX2_decryptBlock_232 : decode cX2_decryptBlock 232 = .ok (.iload 8, 2) := dk_21 8 (dk_at dksX2_decryptBlock_9 18 rfl rfl)
theorem dX2_decryptBlock_234 : decode cX2_decryptBlock 234 = .ok (.istore 14, 2) := dk_54 14 (dk_at dksX2_decryptBlock_9 20 rfl rfl)
theorem dX2_decryptBlock_236 : decode cX2_decryptBlock 236 = .ok (.iload 6, 2) := dk_21 6 (dk_at dksX2_decryptBlock_9 22 rfl rfl)
theorem dX2_decryptBlock_238 : decode cX2_decryptBlock 238 = .ok (.iload 8, 2) := dk_21 8 (dk_at dksX2_decryptBlock_10 0 rfl rfl)
theorem dX2_decryptBlock_240 : decode cX2_decryptBlock 240 = .ok (.iload 7, 2) := dk_21 7 (dk_at dksX2_decryptBlock_10 2 rfl rfl)
theorem dX2_decryptBlock_242 : decode cX2_decryptBlock 242 = .ok (.ior, 1) := dk_128 (dk_at dksX2_decryptBlock_10 4 rfl rfl)
theorem dX2_decryptBlock_243 : decode cX2_decryptBlock 243 = .ok (.ixor, 1) := dk_130 (dk_at dksX2_decryptBlock_10 5 rfl rfl)
theorem dX2_decryptBlock_244 : decode cX2_decryptBlock 244 = .ok (.istore 6, 2) := dk_54 6 (dk_at dksX2_decryptBlock_10 6 rfl rfl)
theorem dX2_decryptBlock_246 : decode cX2_decryptBlock 246 = .ok (.iload 5, 2) := dk_21 5 (dk_at dksX2_decryptBlock_10 8 rfl rfl)
theorem dX2_decryptBlock_248 : decode cX2_decryptBlock 248 = .ok (.iload 7, 2) := dk_21 7 (dk_at dksX2_decryptBlock_10 10 rfl rfl)
theorem dX2_decryptBlock_250 : decode cX2_decryptBlock 250 = .ok (.iload 6, 2) := dk_21 6 (dk_at dksX2_decryptBlock_10 12 rfl rfl)
theorem dX2_decryptBlock_252 : decode cX2_decryptBlock 252 = .ok (.iconst (-1), 1) := dk_2 (dk_at dksX2_decryptBlock_10 14 rfl rfl)
theorem dX2_decryptBlock_253 : decode cX2_decryptBlock 253 = .ok (.ixor, 1) := dk_130 (dk_at dksX2_decryptBlock_10 15 rfl rfl)
theorem dX2_decryptBlock_254 : decode cX2_decryptBlock 254 = .ok (.iand, 1) := dk_126 (dk_at dksX2_decryptBlock_10 16 rfl rfl)
theorem dX2_decryptBlock_255 : decode cX2_decryptBlock 255 = .ok (.ixor, 1) := dk_130 (dk_at dksX2_decryptBlock_10 17 rfl rfl)
theorem dX2_decryptBlock_256 : decode cX2_decryptBlock 256 = .ok (.istore 8, 2) := dk_54 8 (dk_at dksX2_decryptBlock_10 18 rfl rfl)
theorem dX2_decryptBlock_258 : decode cX2_decryptBlock 258 = .ok (.iload 14, 2) := dk_21 14 (dk_at dksX2_decryptBlock_10 20 rfl rfl)
theorem dX2_decryptBlock_260 : decode cX2_decryptBlock 260 = .ok (.iload 6, 2) := dk_21 6 (dk_at dksX2_decryptBlock_10 22 rfl rfl)
theorem dX2_decryptBlock_262 : decode cX2_decryptBlock 262 = .ok (.iconst (-1), 1) := dk_2 (dk_at dksX2_decryptBlock_11 0 rfl rfl)
theorem dX2_decryptBlock_263 : decode cX2_decryptBlock 263 = .ok (.ixor, 1) := dk_130 (dk_at dksX2_decryptBlock_11 1 rfl rfl)
theorem dX2_decryptBlock_264 : decode cX2_decryptBlock 264 = .ok (.ixor, 1) := dk_130 (dk_at dksX2_decryptBlock_11 2 rfl rfl)
theorem dX2_decryptBlock_265 : decode cX2_decryptBlock 265 = .ok (.iload 7, 2) := dk_21 7 (dk_at dksX2_decryptBlock_11 3 rfl rfl)
theorem dX2_decryptBlock_267 : decode cX2_decryptBlock 267 = .ok (.ixor, 1) := dk_130 (dk_at dksX2_decryptBlock_11 5 rfl rfl)
theorem dX2_decryptBlock_268 : decode cX2_decryptBlock 268 = .ok (.iload 8, 2) := dk_21 8 (dk_at dksX2_decryptBlock_11 6 rfl rfl)
theorem dX2_decryptBlock_270 : decode cX2_decryptBlock 270 = .ok (.ixor, 1) := dk_130 (dk_at dksX2_decryptBlock_11 8 rfl rfl)
theorem dX2_decryptBlock_271 : decode cX2_decryptBlock 271 = .ok (.istore 7, 2) := dk_54 7 (dk_at dksX2_decryptBlock_11 9 rfl rfl)
theorem dX2_decryptBlock_273 : decode cX2_decryptBlock 273 = .ok (.iload 6, 2) := dk_21 6 (dk_at dksX2_decryptBlock_11 11 rfl rfl)
theorem dX2_decryptBlock_275 : decode cX2_decryptBlock 275 = .ok (.iload 8, 2) := dk_21 8 (dk_at dksX2_decryptBlock_11 13 rfl rfl)
theorem dX2_decryptBlock_277 : decode cX2_decryptBlock 277 = .ok (.iload 7, 2) := dk_21 7 (dk_at dksX2_decryptBlock_11 15 rfl rfl)
theorem dX2_decryptBlock_279 : decode cX2_decryptBlock 279 = .ok (.ior, 1) := dk_128 (dk_at dksX2_decryptBlock_11 17 rfl rfl)
theorem dX2_decryptBlock_280 : decode cX2_decryptBlock 280 = .ok (.ixor, 1) := dk_130 (dk_at dksX2_decryptBlock_11 18 rfl rfl)
theorem dX2_decryptBlock_281 : decode cX2_decryptBlock 281 = .ok (.istore 6, 2) := dk_54 6 (dk_at dksX2_decryptBlock_11 19 rfl rfl)
theorem dX2_decryptBlock_283 : decode cX2_decryptBlock 283 = .ok (.iload 14, 2) := dk_21 14 (dk_at dksX2_decryptBlock_11 21 rfl rfl)
theorem dX2_decryptBlock_285 : decode cX2_decryptBlock 285 = .ok (.iload 7, 2) := dk_21 7 (dk_at dksX2_decryptBlock_12 0 rfl rfl)
theorem dX2_decryptBlock_287 : decode cX2_decryptBlock 287 = .ok (.iload 6, 2) := dk_21 6 (dk_at dksX2_decryptBlock_12 2 rfl rfl)
theorem dX2_decryptBlock_289 : decode cX2_decryptBlock 289 = .ok (.iand, 1) := dk_126 (dk_at dksX2_decryptBlock_12 4 rfl rfl)
theorem dX2_decryptBlock_290 : decode cX2_decryptBlock 290 = .ok (.ixor, 1) := dk_130 (dk_at dksX2_decryptBlock_12 5 rfl rfl)
theorem dX2_decryptBlock_291 : decode cX2_decryptBlock 291 = .ok (.istore 5, 2) := dk_54 5 (dk_at dksX2_decryptBlock_12 6 rfl rfl)
theorem dX2_decryptBlock_293 : decode cX2_decryptBlock 293 = .ok (.iload 6, 2) := dk_21 6 (dk_at dksX2_decryptBlock_12 8 rfl rfl)
theorem dX2_decryptBlock_295 : decode cX2_decryptBlock 295 = .ok (.bipush 31, 2) := dk_16 31 (dk_at dksX2_decryptBlock_12 10 rfl rfl)
theorem dX2_decryptBlock_297 : decode cX2_decryptBlock 297 = .ok (.invokestatic 38, 3) := dk_184 0 38 (dk_at dksX2_decryptBlock_12 12 rfl rfl)
theorem dX2_decryptBlock_300 : decode cX2_decryptBlock 300 = .ok (.istore 6, 2) := dk_54 6 (dk_at dksX2_decryptBlock_12 15 rfl rfl)
theorem dX2_decryptBlock_302 : decode cX2_decryptBlock 302 = .ok (.iload 7, 2) := dk_21 7 (dk_at dksX2_decryptBlock_12 17 rfl rfl)
theorem dX2_decryptBlock_304 : decode cX2_decryptBlock 304 = .ok (.bipush 27, 2) := dk_16 27 (dk_at dksX2_decryptBlock_12 19 rfl rfl)
theorem dX2_decryptBlock_306 : decode cX2_decryptBlock 306 = .ok (.invokestatic 38, 3) := dk_184 0 38 (dk_at dksX2_decryptBlock_12 21 rfl rfl)
theorem dX2_decryptBlock_309 : decode cX2_decryptBlock 309 = .ok (.istore 7, 2) := dk_54 7 (dk_at dksX2_decryptBlock_13 0 rfl rfl)
theorem dX2_decryptBlock_311 : decode cX2_decryptBlock 311 = .ok (.iload 8, 2) := dk_21 8 (dk_at dksX2_decryptBlock_13 2 rfl rfl)
theorem dX2_decryptBlock_313 : decode cX2_decryptBlock 313 = .ok (.bipush 30, 2) := dk_16 30 (dk_at dksX2_decryptBlock_13 4 rfl rfl)
theorem dX2_decryptBlock_315 : decode cX2_decryptBlock 315 = .ok (.invokestatic 38, 3) := dk_184 0 38 (dk_at dksX2_decryptBlock_13 6 rfl rfl)
theorem dX2_decryptBlock_318 : decode cX2_decryptBlock 318 = .ok (.istore 8, 2) := dk_54 8 (dk_at dksX2_decryptBlock_13 9 rfl rfl)
theorem dX2_decryptBlock_320 : decode cX2_decryptBlock 320 = .ok (.goto (-248), 3) := dk_167 255 8 (dk_at dksX2_decryptBlock_13 11 rfl rfl)
theorem dX2_decryptBlock_323 : decode cX2_decryptBlock 323 = .ok (.iload 5, 2) := dk_21 5 (dk_at dksX2_decryptBlock_13 14 rfl rfl)
theorem dX2_decryptBlock_325 : decode cX2_decryptBlock 325 = .ok (.aload_n 3, 1) := dk_45 (dk_at dksX2_decryptBlock_13 16 rfl rfl)
theorem dX2_decryptBlock_326 : decode cX2_decryptBlock 326 = .ok (.iload 4, 2) := dk_21 4 (dk_at dksX2_decryptBlock_13 17 rfl rfl)
theorem dX2_decryptBlock_328 : decode cX2_decryptBlock 328 = .ok (.invokestatic 74, 3) := dk_184 0 74 (dk_at dksX2_decryptBlock_13 19 rfl rfl)
theorem dX2_decryptBlock_331 : decode cX2_decryptBlock 331 = .ok (.iload 6, 2) := dk_21 6 (dk_at dksX2_decryptBlock_13 22 rfl rfl)
theorem dX2_decryptBlock_333 : decode cX2_decryptBlock 333 = .ok (.aload_n 3, 1) := dk_45 (dk_at dksX2_decryptBlock_14 0 rfl rfl)
theorem dX2_decryptBlock_334 : decode cX2_decryptBlock 334 = .ok (.iload 4, 2) := dk_21 4 (dk_at dksX2_decryptBlock_14 1 rfl rfl)
theorem dX2_decryptBlock_336 : decode cX2_decryptBlock 336 = .ok (.iconst 4, 1) := dk_7 (dk_at dksX2_decryptBlock_14 3 rfl rfl)
theorem dX2_decryptBlock_337 : decode cX2_decryptBlock 337 = .ok (.iadd, 1) := dk_96 (dk_at dksX2_decryptBlock_14 4 rfl rfl)
theorem dX2_decryptBlock_338 : decode cX2_decryptBlock 338 = .ok (.invokestatic 74, 3) := dk_184 0 74 (dk_at dksX2_decryptBlock_14 5 rfl rfl)
theorem dX2_decryptBlock_341 : decode cX2_decryptBlock 341 = .ok (.iload 7, 2) := dk_21 7 (dk_at dksX2_decryptBlock_14 8 rfl rfl)
theorem dX2_decryptBlock_343 : decode cX2_decryptBlock 343 = .ok (.aload_n 3, 1) := dk_45 (dk_at dksX2_decryptBlock_14 10 rfl rfl)
theorem dX2_decryptBlock_344 : decode cX2_decryptBlock 344 = .ok (.iload 4, 2) := dk_21 4 (dk_at dksX2_decryptBlock_14 11 rfl rfl)
theorem dX2_decryptBlock_346 : decode cX2_decryptBlock 346 = .ok (.bipush 8, 2) := dk_16 8 (dk_at dksX2_decryptBlock_14 13 rfl rfl)
theorem dX2_decryptBlock_348 : decode cX2_decryptBlock 348 = .ok (.iadd, 1) := dk_96 (dk_at dksX2_decryptBlock_14 15 rfl rfl)
theorem dX2_decryptBlock_349 : decode cX2_decryptBlock 349 = .ok (.invokestatic 74, 3) := dk_184 0 74 (dk_at dksX2_decryptBlock_14 16 rfl rfl)
theorem dX2_decryptBlock_352 : decode cX2_decryptBlock 352 = .ok (.iload 8, 2) := dk_21 8 (dk_at dksX2_decryptBlock_14 19 rfl rfl)
theorem dX2_decryptBlock_354 : decode cX2_decryptBlock 354 = .ok (.aload_n 3, 1) := dk_45 (dk_at dksX2_decryptBlock_14 21 rfl rfl)
theorem dX2_decryptBlock_355 : decode cX2_decryptBlock 355 = .ok (.iload 4, 2) := dk_21 4 (dk_at dksX2_decryptBlock_14 22 rfl rfl)
theorem dX2_decryptBlock_357 : decode cX2_decryptBlock 357 = .ok (.bipush 12, 2) := dk_16 12 (dk_at dksX2_decryptBlock_15 0 rfl rfl)
theorem dX2_decryptBlock_359 : decode cX2_decryptBlock 359 = .ok (.iadd, 1) := dk_96 (dk_at dksX2_decryptBlock_15 2 rfl rfl)
theorem dX2_decryptBlock_360 : decode cX2_decryptBlock 360 = .ok (.invokestatic 74, 3) := dk_184 0 74 (dk_at dksX2_decryptBlock_15 3 rfl rfl)
theorem dX2_decryptBlock_363 : decode cX2_decryptBlock 363 = .ok (.bipush 16, 2) := dk_16 16 (dk_at dksX2_decryptBlock_15 6 rfl rfl)
theorem dX2_decryptBlock_365 : decode cX2_decryptBlock 365 = .ok (.ireturn, 1) := dk_172 (dk_at dksX2_decryptBlock_15 8 rfl rfl)
theorem q9 : (Jvm.Cond.initialized "NoekeonEngine") ∈ lw_all := lw_g (lw_at lw_m1 3 rfl) rfl
theorem q65 : (Jvm.Cond.instantiable "NoekeonEngine" (3 : Nat)) ∈ lw_all := lw_g (lw_at lw_m1 59 rfl) rfl
theorem q67 : (Jvm.Cond.instanceMethod ({ cls := "NoekeonEngine", name := "<init>", desc := "()V" } : Jvm.MethodName)) ∈ lw_all := lw_g (lw_at lw_m1 61 rfl) rfl
theorem q68 : (Jvm.Cond.code ({ cls := "NoekeonEngine", name := "<init>", desc := "()V" } : Jvm.MethodName) prog_9_method_1_code (1 : Nat) (Option.none : Option Jvm.ClassFile.FieldType)) ∈ lw_all := lw_g (lw_at lw_m1 62 rfl) rfl
theorem q69 : (Jvm.Cond.methodLink "NoekeonEngine" (1 : Nat) ({ cls := "java/lang/Object", name := "<init>", desc := "()V" } : Jvm.MethodName)) ∈ lw_all := lw_g (lw_at lw_m1 63 rfl) rfl
theorem q70 : (Jvm.Cond.fieldLink "NoekeonEngine" (7 : Nat) "NoekeonEngine" "k" "[I") ∈ lw_all := lw_g (lw_at lw_m1 64 rfl) rfl
theorem q71 : (Jvm.Cond.fieldLink "NoekeonEngine" (13 : Nat) "NoekeonEngine" "_initialised" "Z") ∈ lw_all := lw_g (lw_at lw_m1 65 rfl) rfl
theorem q72 : (Jvm.Cond.fieldLink "NoekeonEngine" (44 : Nat) "NoekeonEngine" "_forEncryption" "Z") ∈ lw_all := lw_g (lw_at lw_m1 66 rfl) rfl
theorem q73 : (Jvm.Cond.laysFinal "NoekeonEngine" "NoekeonEngine" "k" "[I") ∈ lw_all := lw_g (lw_at lw_m1 67 rfl) rfl
theorem q74 : (Jvm.Cond.soleField "NoekeonEngine" "k") ∈ lw_all := lw_g (lw_at lw_m1 68 rfl) rfl
theorem q75 : (Jvm.Cond.lays "NoekeonEngine" "NoekeonEngine" "_initialised" "Z") ∈ lw_all := lw_g (lw_at lw_m1 69 rfl) rfl
theorem q76 : (Jvm.Cond.soleField "NoekeonEngine" "_initialised") ∈ lw_all := lw_g (lw_at lw_m1 70 rfl) rfl
theorem q77 : (Jvm.Cond.lays "NoekeonEngine" "NoekeonEngine" "_forEncryption" "Z") ∈ lw_all := lw_g (lw_at lw_m1 71 rfl) rfl
theorem q78 : (Jvm.Cond.soleField "NoekeonEngine" "_forEncryption") ∈ lw_all := lw_g (lw_at lw_m1 72 rfl) rfl
theorem q79 : (Jvm.Cond.superclass "NoekeonEngine" "java/lang/Object") ∈ lw_all := lw_g (lw_at lw_m1 73 rfl) rfl
theorem q104 : (Jvm.Cond.castable "NoekeonEngine" "BlockCipher") ∈ lw_tbl := lw_at lw_m1 98 rfl
theorem q105 : (Jvm.Cond.selects "NoekeonEngine" ({ cls := "BlockCipher", name := "init", desc := "(ZLCipherParameters;)V" } : Jvm.MethodName) ({ cls := "NoekeonEngine", name := "init", desc := "(ZLCipherParameters;)V" } : Jvm.MethodName)) ∈ lw_all := lw_g (lw_at lw_m1 99 rfl) rfl
theorem q106 : (Jvm.Cond.unhidden "NoekeonEngine" "init" "(ZLCipherParameters;)V") ∈ lw_tbl := lw_at lw_m1 100 rfl
theorem q107 : (Jvm.Cond.instanceMethod ({ cls := "NoekeonEngine", name := "init", desc := "(ZLCipherParameters;)V" } : Jvm.MethodName)) ∈ lw_all := lw_g (lw_at lw_m1 101 rfl) rfl
theorem q108 : (Jvm.Cond.publicMethod ({ cls := "NoekeonEngine", name := "init", desc := "(ZLCipherParameters;)V" } : Jvm.MethodName)) ∈ lw_tbl := lw_at lw_m1 102 rfl
theorem q109 : (Jvm.Cond.code ({ cls := "NoekeonEngine", name := "init", desc := "(ZLCipherParameters;)V" } : Jvm.MethodName) prog_9_method_2_code (11 : Nat) (Option.none : Option Jvm.ClassFile.FieldType)) ∈ lw_all := lw_g (lw_at lw_m1 103 rfl) rfl
theorem q110 : (Jvm.Cond.classLink "NoekeonEngine" (17 : Nat) "KeyParameter") ∈ lw_all := lw_g (lw_at lw_m1 104 rfl) rfl
theorem q111 : (Jvm.Cond.classLink "NoekeonEngine" (19 : Nat) "java/lang/IllegalArgumentException") ∈ lw_all := lw_g (lw_at lw_m1 105 rfl) rfl
theorem q153 : (Jvm.Cond.stringRef "NoekeonEngine" (21 : Nat) "left out") ∈ lw_tbl := lw_at lw_m1 147 rfl
theorem q154 : (Jvm.Cond.methodLink "NoekeonEngine" (23 : Nat) ({ cls := "java/lang/IllegalArgumentException", name := "<init>", desc := "(Ljava/lang/String;)V" } : Jvm.MethodName)) ∈ lw_all := lw_g (lw_at lw_m1 148 rfl) rfl
theorem q179 : (Jvm.Cond.methodLink "NoekeonEngine" (26 : Nat) ({ cls := "KeyParameter", name := "getKey", desc := "()[B" } : Jvm.MethodName)) ∈ lw_all := lw_g (lw_at lw_m1 173 rfl) rfl
theorem q183 : (Jvm.Cond.stringRef "NoekeonEngine" (30 : Nat) "Key length not 128 bits.") ∈ lw_tbl := lw_at lw_m1 177 rfl
theorem q184 : (Jvm.Cond.methodLink "NoekeonEngine" (32 : Nat) ({ cls := "Pack", name := "bigEndianToInt", desc := "([BI[III)V" } : Jvm.MethodName)) ∈ lw_all := lw_g (lw_at lw_m1 178 rfl) rfl
theorem q190 : (Jvm.Cond.methodLink "NoekeonEngine" (38 : Nat) ({ cls := "Integers", name := "rotateLeft", desc := "(II)I" } : Jvm.MethodName)) ∈ lw_all := lw_g (lw_at lw_m1 184 rfl) rfl
theorem q200 : (Jvm.Cond.selects "NoekeonEngine" ({ cls := "BlockCipher", name := "processBlock", desc := "([BI[BI)I" } : Jvm.MethodName) ({ cls := "NoekeonEngine", name := "processBlock", desc := "([BI[BI)I" } : Jvm.MethodName)) ∈ lw_all := lw_g (lw_at lw_m1 194 rfl) rfl
theorem q201 : (Jvm.Cond.unhidden "NoekeonEngine" "processBlock" "([BI[BI)I") ∈ lw_tbl := lw_at lw_m1 195 rfl
theorem q202 : (Jvm.Cond.instanceMethod ({ cls := "NoekeonEngine", name := "processBlock", desc := "([BI[BI)I" } : Jvm.MethodName)) ∈ lw_all := lw_g (lw_at lw_m1 196 rfl) rfl
theorem q203 : (Jvm.Cond.publicMethod ({ cls := "NoekeonEngine", name := "processBlock", desc := "([BI[BI)I" } : Jvm.MethodName)) ∈ lw_tbl := lw_at lw_m1 197 rfl
theorem q204 : (Jvm.Cond.code ({ cls := "NoekeonEngine", name := "processBlock", desc := "([BI[BI)I" } : Jvm.MethodName) prog_9_method_3_code (5 : Nat) (Option.some Jvm.ClassFile.FieldType.int)) ∈ lw_all := lw_g (lw_at lw_m1 198 rfl) rfl
theorem q205 : (Jvm.Cond.classLink "NoekeonEngine" (47 : Nat) "java/lang/IllegalStateException") ∈ lw_all := lw_g (lw_at lw_m1 199 rfl) rfl
theorem q214 : (Jvm.Cond.methodLink "NoekeonEngine" (49 : Nat) ({ cls := "java/lang/IllegalStateException", name := "<init>", desc := "(Ljava/lang/String;)V" } : Jvm.MethodName)) ∈ lw_all := lw_g (lw_at lw_m1 208 rfl) rfl
theorem q220 : (Jvm.Cond.classLink "NoekeonEngine" (50 : Nat) "DataLengthException") ∈ lw_all := lw_g (lw_at lw_m1 214 rfl) rfl
theorem q230 : (Jvm.Cond.stringRef "NoekeonEngine" (52 : Nat) "input buffer too short") ∈ lw_tbl := lw_at lw_m1 224 rfl
theorem q231 : (Jvm.Cond.methodLink "NoekeonEngine" (54 : Nat) ({ cls := "DataLengthException", name := "<init>", desc := "(Ljava/lang/String;)V" } : Jvm.MethodName)) ∈ lw_all := lw_g (lw_at lw_m1 225 rfl) rfl
theorem q240 : (Jvm.Cond.classLink "NoekeonEngine" (55 : Nat) "OutputLengthException") ∈ lw_all := lw_g (lw_at lw_m1 234 rfl) rfl
theorem q250 : (Jvm.Cond.stringRef "NoekeonEngine" (57 : Nat) "output buffer too short") ∈ lw_tbl := lw_at lw_m2 4 rfl
theorem q251 : (Jvm.Cond.methodLink "NoekeonEngine" (59 : Nat) ({ cls := "OutputLengthException", name := "<init>", desc := "(Ljava/lang/String;)V" } : Jvm.MethodName)) ∈ lw_all := lw_g (lw_at lw_m2 5 rfl) rfl
theorem q257 : (Jvm.Cond.methodLink "NoekeonEngine" (60 : Nat) ({ cls := "NoekeonEngine", name := "encryptBlock", desc := "([BI[BI)I" } : Jvm.MethodName)) ∈ lw_all := lw_g (lw_at lw_m2 11 rfl) rfl
theorem q258 : (Jvm.Cond.privateMethod ({ cls := "NoekeonEngine", name := "encryptBlock", desc := "([BI[BI)I" } : Jvm.MethodName)) ∈ lw_tbl := lw_at lw_m2 12 rfl
theorem q259 : (Jvm.Cond.instanceMethod ({ cls := "NoekeonEngine", name := "encryptBlock", desc := "([BI[BI)I" } : Jvm.MethodName)) ∈ lw_all := lw_g (lw_at lw_m2 13 rfl) rfl
theorem q260 : (Jvm.Cond.code ({ cls := "NoekeonEngine", name := "encryptBlock", desc := "([BI[BI)I" } : Jvm.MethodName) prog_9_method_4_code (16 : Nat) (Option.some Jvm.ClassFile.FieldType.int)) ∈ lw_all := lw_g (lw_at lw_m2 14 rfl) rfl
theorem q261 : (Jvm.Cond.methodLink "NoekeonEngine" (67 : Nat) ({ cls := "Pack", name := "bigEndianToInt", desc := "([BI)I" } : Jvm.MethodName)) ∈ lw_all := lw_g (lw_at lw_m2 15 rfl) rfl
theorem q262 : (Jvm.Cond.fieldLink "NoekeonEngine" (70 : Nat) "NoekeonEngine" "roundConstants" "[B") ∈ lw_all := lw_g (lw_at lw_m2 16 rfl) rfl
theorem q263 : (Jvm.Cond.laysStatic "NoekeonEngine" "roundConstants" "[B") ∈ lw_tbl := lw_at lw_m2 17 rfl
theorem q264 : (Jvm.Cond.methodLink "NoekeonEngine" (74 : Nat) ({ cls := "Pack", name := "intToBigEndian", desc := "(I[BI)V" } : Jvm.MethodName)) ∈ lw_all := lw_g (lw_at lw_m2 18 rfl) rfl
theorem q267 : (Jvm.Cond.methodLink "NoekeonEngine" (64 : Nat) ({ cls := "NoekeonEngine", name := "decryptBlock", desc := "([BI[BI)I" } : Jvm.MethodName)) ∈ lw_all := lw_g (lw_at lw_m2 21 rfl) rfl
theorem q268 : (Jvm.Cond.privateMethod ({ cls := "NoekeonEngine", name := "decryptBlock", desc := "([BI[BI)I" } : Jvm.MethodName)) ∈ lw_tbl := lw_at lw_m2 22 rfl
theorem q269 : (Jvm.Cond.instanceMethod ({ cls := "NoekeonEngine", name := "decryptBlock", desc := "([BI[BI)I" } : Jvm.MethodName)) ∈ lw_all := lw_g (lw_at lw_m2 23 rfl) rfl
theorem q270 : (Jvm.Cond.code ({ cls := "NoekeonEngine", name := "decryptBlock", desc := "([BI[BI)I" } : Jvm.MethodName) prog_9_method_5_code (16 : Nat) (Option.some Jvm.ClassFile.FieldType.int)) ∈ lw_all := lw_g (lw_at lw_m2 24 rfl) rfl
theorem in_X2 : ∀ w ∈ wsX20, w ∈ lw_all := lw_in wsX20 [73, 75, 77] (by decide +kernel) (by decide +kernel)

/-! the law's own entry -/
set_option maxRecDepth 100000
abbrev cL_law : ByteArray := code
def dkwL_law_11 : List UInt8 := [132, 3, 6, 167, 255, 11, 4, 172]
abbrev dktL_law_11 : List UInt8 := dkwL_law_11 ++ []
def dkwL_law_10 : List UInt8 := [42, 29, 4, 96, 46, 182, 0, 36, 44, 42, 29, 4, 96, 46, 182, 0, 40, 159, 0, 5, 3, 172]
abbrev dktL_law_10 : List UInt8 := dkwL_law_10 ++ dktL_law_11
def dkwL_law_9 : List UInt8 := [44, 42, 29, 4, 96, 46, 182, 0, 31, 167, 0, 37, 43, 182, 0, 32, 44, 182, 0, 35, 167, 0, 26, 43]
abbrev dktL_law_9 : List UInt8 := dkwL_law_9 ++ dktL_law_10
def dkwL_law_8 : List UInt8 := [182, 0, 23, 44, 42, 29, 4, 96, 46, 182, 0, 27, 167, 0, 58, 43, 42, 29, 4, 96, 46, 182, 0, 28]
abbrev dktL_law_8 : List UInt8 := dkwL_law_8 ++ dktL_law_9
def dkwL_law_7 : List UInt8 := [42, 29, 6, 96, 46, 42, 29, 7, 96, 46, 182, 0, 22, 167, 0, 79, 43, 42, 29, 4, 96, 46]
abbrev dktL_law_7 : List UInt8 := dkwL_law_7 ++ dktL_law_8
def dkwL_law_6 : List UInt8 := [42, 29, 6, 96, 46, 42, 29, 7, 96, 46, 182, 0, 18, 44, 42, 29, 4, 96, 46, 42, 29, 5, 96, 46]
abbrev dktL_law_6 : List UInt8 := dkwL_law_6 ++ dktL_law_7
def dkwL_law_5 : List UInt8 := [96, 46, 42, 29, 8, 96, 46, 182, 0, 17, 167, 0, 130, 43, 42, 29, 4, 96, 46, 42, 29, 5, 96, 46]
abbrev dktL_law_5 : List UInt8 := dkwL_law_5 ++ dktL_law_6
def dkwL_law_4 : List UInt8 := [96, 46, 182, 0, 13, 44, 42, 29, 4, 96, 46, 42, 29, 5, 96, 46, 42, 29, 6, 96, 46, 42, 29, 7]
abbrev dktL_law_4 : List UInt8 := dkwL_law_4 ++ dktL_law_5
def dkwL_law_3 : List UInt8 := [43, 42, 29, 4, 96, 46, 42, 29, 5, 96, 46, 42, 29, 6, 96, 46, 42, 29, 7, 96, 46, 42, 29, 8]
abbrev dktL_law_3 : List UInt8 := dkwL_law_3 ++ dktL_law_4
def dkwL_law_2 : List UInt8 := [170, 0, 0, 0, 0, 0, 227, 0, 0, 0, 0, 0, 0, 0, 5, 0, 0, 0, 39, 0, 0, 0, 100, 0, 0, 0, 151, 0, 0, 0, 172, 0, 0, 0, 193, 0, 0, 0, 204]
abbrev dktL_law_2 : List UInt8 := dkwL_law_2 ++ dktL_law_3
def dkwL_law_1 : List UInt8 := [163, 0, 242, 42, 29, 46, 16, 7, 126]
abbrev dktL_law_1 : List UInt8 := dkwL_law_1 ++ dktL_law_2
def dkwL_law_0 : List UInt8 := [187, 0, 7, 89, 183, 0, 9, 76, 187, 0, 10, 89, 183, 0, 12, 77, 3, 62, 29, 42, 190, 16, 6, 100]
abbrev dktL_law_0 : List UInt8 := dkwL_law_0 ++ dktL_law_1
theorem dksL_law_0 : cL_law.data.toList.drop 0 = dktL_law_0 := by decide +kernel
theorem dksL_law_1 : cL_law.data.toList.drop 24 = dktL_law_1 := dk_seg dksL_law_0 24 rfl rfl
theorem dksL_law_2 : cL_law.data.toList.drop 33 = dktL_law_2 := dk_seg dksL_law_1 9 rfl rfl
theorem dksL_law_3 : cL_law.data.toList.drop 72 = dktL_law_3 := dk_seg dksL_law_2 39 rfl rfl
theorem dksL_law_4 : cL_law.data.toList.drop 96 = dktL_law_4 := dk_seg dksL_law_3 24 rfl rfl
theorem dksL_law_5 : cL_law.data.toList.drop 120 = dktL_law_5 := dk_seg dksL_law_4 24 rfl rfl
theorem dksL_law_6 : cL_law.data.toList.drop 144 = dktL_law_6 := dk_seg dksL_law_5 24 rfl rfl
theorem dksL_law_7 : cL_law.data.toList.drop 168 = dktL_law_7 := dk_seg dksL_law_6 24 rfl rfl
theorem dksL_law_8 : cL_law.data.toList.drop 190 = dktL_law_8 := dk_seg dksL_law_7 22 rfl rfl
theorem dksL_law_9 : cL_law.data.toList.drop 214 = dktL_law_9 := dk_seg dksL_law_8 24 rfl rfl
theorem dksL_law_10 : cL_law.data.toList.drop 238 = dktL_law_10 := dk_seg dksL_law_9 24 rfl rfl
theorem dksL_law_11 : cL_law.data.toList.drop 260 = dktL_law_11 := dk_seg dksL_law_10 22 rfl rfl
theorem dL_law_0 : decode cL_law 0 = .ok (.new 7, 3) := dk_187 0 7 (dk_at dksL_law_0 0 rfl rfl)
theorem dL_law_3 : decode cL_law 3 = .ok (.dup, 1) := dk_89 (dk_at dksL_law_0 3 rfl rfl)
theorem dL_law_4 : decode cL_law 4 = .ok (.invokespecial 9, 3) := dk_183 0 9 (dk_at dksL_law_0 4 rfl rfl)
theorem dL_law_7 : decode cL_law 7 = .ok (.astore_n 1, 1) := dk_76 (dk_at dksL_law_0 7 rfl rfl)
theorem dL_law_8 : decode cL_law 8 = .ok (.new 10, 3) := dk_187 0 10 (dk_at dksL_law_0 8 rfl rfl)
theorem dL_law_11 : decode cL_law 11 = .ok (.dup, 1) := dk_89 (dk_at dksL_law_0 11 rfl rfl)
theorem dL_law_12 : decode cL_law 12 = .ok (.invokespecial 12, 3) := dk_183 0 12 (dk_at dksL_law_0 12 rfl rfl)
theorem dL_law_15 : decode cL_law 15 = .ok (.astore_n 2, 1) := dk_77 (dk_at dksL_law_0 15 rfl rfl)
theorem dL_law_16 : decode cL_law 16 = .ok (.iconst 0, 1) := dk_3 (dk_at dksL_law_0 16 rfl rfl)
theorem dL_law_17 : decode cL_law 17 = .ok (.istore_n 3, 1) := dk_62 (dk_at dksL_law_0 17 rfl rfl)
theorem dL_law_18 : decode cL_law 18 = .ok (.iload_n 3, 1) := dk_29 (dk_at dksL_law_0 18 rfl rfl)
theorem dL_law_19 : decode cL_law 19 = .ok (.aload_n 0, 1) := dk_42 (dk_at dksL_law_0 19 rfl rfl)
theorem dL_law_20 : decode cL_law 20 = .ok (.arraylength, 1) := dk_190 (dk_at dksL_law_0 20 rfl rfl)
theorem dL_law_21 : decode cL_law 21 = .ok (.bipush 6, 2) := dk_16 6 (dk_at dksL_law_0 21 rfl rfl)
theorem dL_law_23 : decode cL_law 23 = .ok (.isub, 1) := dk_100 (dk_at dksL_law_0 23 rfl rfl)
theorem dL_law_24 : decode cL_law 24 = .ok (.if_icmp .gt 242, 3) := dk_163 0 242 (dk_at dksL_law_1 0 rfl rfl)
theorem dL_law_27 : decode cL_law 27 = .ok (.aload_n 0, 1) := dk_42 (dk_at dksL_law_1 3 rfl rfl)
theorem dL_law_28 : decode cL_law 28 = .ok (.iload_n 3, 1) := dk_29 (dk_at dksL_law_1 4 rfl rfl)
theorem dL_law_29 : decode cL_law 29 = .ok (.iaload, 1) := dk_46 (dk_at dksL_law_1 5 rfl rfl)
theorem dL_law_30 : decode cL_law 30 = .ok (.bipush 7, 2) := dk_16 7 (dk_at dksL_law_1 6 rfl rfl)
theorem dL_law_32 : decode cL_law 32 = .ok (.iand, 1) := dk_126 (dk_at dksL_law_1 8 rfl rfl)
theorem dL_law_33 : decode cL_law 33 = .ok (.tableswitch 227 0 5 #[39, 100, 151, 172, 193, 204], 39) := by decide +kernel
theorem dL_law_72 : decode cL_law 72 = .ok (.aload_n 1, 1) := dk_43 (dk_at dksL_law_3 0 rfl rfl)
theorem dL_law_73 : decode cL_law 73 = .ok (.aload_n 0, 1) := dk_42 (dk_at dksL_law_3 1 rfl rfl)
theorem dL_law_74 : decode cL_law 74 = .ok (.iload_n 3, 1) := dk_29 (dk_at dksL_law_3 2 rfl rfl)
theorem dL_law_75 : decode cL_law 75 = .ok (.iconst 1, 1) := dk_4 (dk_at dksL_law_3 3 rfl rfl)
theorem dL_law_76 : decode cL_law 76 = .ok (.iadd, 1) := dk_96 (dk_at dksL_law_3 4 rfl rfl)
theorem dL_law_77 : decode cL_law 77 = .ok (.iaload, 1) := dk_46 (dk_at dksL_law_3 5 rfl rfl)
theorem dL_law_78 : decode cL_law 78 = .ok (.aload_n 0, 1) := dk_42 (dk_at dksL_law_3 6 rfl rfl)
theorem dL_law_79 : decode cL_law 79 = .ok (.iload_n 3, 1) := dk_29 (dk_at dksL_law_3 7 rfl rfl)
theorem dL_law_80 : decode cL_law 80 = .ok (.iconst 2, 1) := dk_5 (dk_at dksL_law_3 8 rfl rfl)
theorem dL_law_81 : decode cL_law 81 = .ok (.iadd, 1) := dk_96 (dk_at dksL_law_3 9 rfl rfl)
theorem dL_law_82 : decode cL_law 82 = .ok (.iaload, 1) := dk_46 (dk_at dksL_law_3 10 rfl rfl)
theorem dL_law_83 : decode cL_law 83 = .ok (.aload_n 0, 1) := dk_42 (dk_at dksL_law_3 11 rfl rfl)
theorem dL_law_84 : decode cL_law 84 = .ok (.iload_n 3, 1) := dk_29 (dk_at dksL_law_3 12 rfl rfl)
theorem dL_law_85 : decode cL_law 85 = .ok (.iconst 3, 1) := dk_6 (dk_at dksL_law_3 13 rfl rfl)
theorem dL_law_86 : decode cL_law 86 = .ok (.iadd, 1) := dk_96 (dk_at dksL_law_3 14 rfl rfl)
theorem dL_law_87 : decode cL_law 87 = .ok (.iaload, 1) := dk_46 (dk_at dksL_law_3 15 rfl rfl)
theorem dL_law_88 : decode cL_law 88 = .ok (.aload_n 0, 1) := dk_42 (dk_at dksL_law_3 16 rfl rfl)
theorem dL_law_89 : decode cL_law 89 = .ok (.iload_n 3, 1) := dk_29 (dk_at dksL_law_3 17 rfl rfl)
theorem dL_law_90 : decode cL_law 90 = .ok (.iconst 4, 1) := dk_7 (dk_at dksL_law_3 18 rfl rfl)
theorem dL_law_91 : decode cL_law 91 = .ok (.iadd, 1) := dk_96 (dk_at dksL_law_3 19 rfl rfl)
theorem dL_law_92 : decode cL_law 92 = .ok (.iaload, 1) := dk_46 (dk_at dksL_law_3 20 rfl rfl)
theorem dL_law_93 : decode cL_law 93 = .ok (.aload_n 0, 1) := dk_42 (dk_at dksL_law_3 21 rfl rfl)
theorem dL_law_94 : decode cL_law 94 = .ok (.iload_n 3, 1) := dk_29 (dk_at dksL_law_3 22 rfl rfl)
theorem dL_law_95 : decode cL_law 95 = .ok (.iconst 5, 1) := dk_8 (dk_at dksL_law_3 23 rfl rfl)
theorem dL_law_96 : decode cL_law 96 = .ok (.iadd, 1) := dk_96 (dk_at dksL_law_4 0 rfl rfl)
theorem dL_law_97 : decode cL_law 97 = .ok (.iaload, 1) := dk_46 (dk_at dksL_law_4 1 rfl rfl)
theorem dL_law_98 : decode cL_law 98 = .ok (.invokevirtual 13, 3) := dk_182 0 13 (dk_at dksL_law_4 2 rfl rfl)
theorem dL_law_101 : decode cL_law 101 = .ok (.aload_n 2, 1) := dk_44 (dk_at dksL_law_4 5 rfl rfl)
theorem dL_law_102 : decode cL_law 102 = .ok (.aload_n 0, 1) := dk_42 (dk_at dksL_law_4 6 rfl rfl)
theorem dL_law_103 : decode cL_law 103 = .ok (.iload_n 3, 1) := dk_29 (dk_at dksL_law_4 7 rfl rfl)
theorem dL_law_104 : decode cL_law 104 = .ok (.iconst 1, 1) := dk_4 (dk_at dksL_law_4 8 rfl rfl)
theorem dL_law_105 : decode cL_law 105 = .ok (.iadd, 1) := dk_96 (dk_at dksL_law_4 9 rfl rfl)
theorem dL_law_106 : decode cL_law 106 = .ok (.iaload, 1) := dk_46 (dk_at dksL_law_4 10 rfl rfl)
theorem dL_law_107 : decode cL_law 107 = .ok (.aload_n 0, 1) := dk_42 (dk_at dksL_law_4 11 rfl rfl)
theorem dL_law_108 : decode cL_law 108 = .ok (.iload_n 3, 1) := dk_29 (dk_at dksL_law_4 12 rfl rfl)
theorem dL_law_109 : decode cL_law 109 = .ok (.iconst 2, 1) := dk_5 (dk_at dksL_law_4 13 rfl rfl)
theorem dL_law_110 : decode cL_law 110 = .ok (.iadd, 1) := dk_96 (dk_at dksL_law_4 14 rfl rfl)
theorem dL_law_111 : decode cL_law 111 = .ok (.iaload, 1) := dk_46 (dk_at dksL_law_4 15 rfl rfl)
theorem dL_law_112 : decode cL_law 112 = .ok (.aload_n 0, 1) := dk_42 (dk_at dksL_law_4 16 rfl rfl)
theorem dL_law_113 : decode cL_law 113 = .ok (.iload_n 3, 1) := dk_29 (dk_at dksL_law_4 17 rfl rfl)
theorem dL_law_114 : decode cL_law 114 = .ok (.iconst 3, 1) := dk_6 (dk_at dksL_law_4 18 rfl rfl)
theorem dL_law_115 : decode cL_law 115 = .ok (.iadd, 1) := dk_96 (dk_at dksL_law_4 19 rfl rfl)
theorem dL_law_116 : decode cL_law 116 = .ok (.iaload, 1) := dk_46 (dk_at dksL_law_4 20 rfl rfl)
theorem dL_law_117 : decode cL_law 117 = .ok (.aload_n 0, 1) := dk_42 (dk_at dksL_law_4 21 rfl rfl)
theorem dL_law_118 : decode cL_law 118 = .ok (.iload_n 3, 1) := dk_29 (dk_at dksL_law_4 22 rfl rfl)
theorem dL_law_119 : decode cL_law 119 = .ok (.iconst 4, 1) := dk_7 (dk_at dksL_law_4 23 rfl rfl)
theorem dL_law_120 : decode cL_law 120 = .ok (.iadd, 1) := dk_96 (dk_at dksL_law_5 0 rfl rfl)
theorem dL_law_121 : decode cL_law 121 = .ok (.iaload, 1) := dk_46 (dk_at dksL_law_5 1 rfl rfl)
theorem dL_law_122 : decode cL_law 122 = .ok (.aload_n 0, 1) := dk_42 (dk_at dksL_law_5 2 rfl rfl)
theorem dL_law_123 : decode cL_law 123 = .ok (.iload_n 3, 1) := dk_29 (dk_at dksL_law_5 3 rfl rfl)
theorem dL_law_124 : decode cL_law 124 = .ok (.iconst 5, 1) := dk_8 (dk_at dksL_law_5 4 rfl rfl)
theorem dL_law_125 : decode cL_law 125 = .ok (.iadd, 1) := dk_96 (dk_at dksL_law_5 5 rfl rfl)
theorem dL_law_126 : decode cL_law 126 = .ok (.iaload, 1) := dk_46 (dk_at dksL_law_5 6 rfl rfl)
theorem dL_law_127 : decode cL_law 127 = .ok (.invokevirtual 17, 3) := dk_182 0 17 (dk_at dksL_law_5 7 rfl rfl)
theorem dL_law_130 : decode cL_law 130 = .ok (.goto 130, 3) := dk_167 0 130 (dk_at dksL_law_5 10 rfl rfl)
theorem dL_law_133 : decode cL_law 133 = .ok (.aload_n 1, 1) := dk_43 (dk_at dksL_law_5 13 rfl rfl)
theorem dL_law_134 : decode cL_law 134 = .ok (.aload_n 0, 1) := dk_42 (dk_at dksL_law_5 14 rfl rfl)
theorem dL_law_135 : decode cL_law 135 = .ok (.iload_n 3, 1) := dk_29 (dk_at dksL_law_5 15 rfl rfl)
theorem dL_law_136 : decode cL_law 136 = .ok (.iconst 1, 1) := dk_4 (dk_at dksL_law_5 16 rfl rfl)
theorem dL_law_137 : decode cL_law 137 = .ok (.iadd, 1) := dk_96 (dk_at dksL_law_5 17 rfl rfl)
theorem dL_law_138 : decode cL_law 138 = .ok (.iaload, 1) := dk_46 (dk_at dksL_law_5 18 rfl rfl)
theorem dL_law_139 : decode cL_law 139 = .ok (.aload_n 0, 1) := dk_42 (dk_at dksL_law_5 19 rfl rfl)
theorem dL_law_140 : decode cL_law 140 = .ok (.iload_n 3, 1) := dk_29 (dk_at dksL_law_5 20 rfl rfl)
theorem dL_law_141 : decode cL_law 141 = .ok (.iconst 2, 1) := dk_5 (dk_at dksL_law_5 21 rfl rfl)
theorem dL_law_142 : decode cL_law 142 = .ok (.iadd, 1) := dk_96 (dk_at dksL_law_5 22 rfl rfl)
theorem dL_law_143 : decode cL_law 143 = .ok (.iaload, 1) := dk_46 (dk_at dksL_law_5 23 rfl rfl)
theorem dL_law_144 : decode cL_law 144 = .ok (.aload_n 0, 1) := dk_42 (dk_at dksL_law_6 0 rfl rfl)
theorem dL_law_145 : decode cL_law 145 = .ok (.iload_n 3, 1) := dk_29 (dk_at dksL_law_6 1 rfl rfl)
theorem dL_law_146 : decode cL_law 146 = .ok (.iconst 3, 1) := dk_6 (dk_at dksL_law_6 2 rfl rfl)
theorem dL_law_147 : decode cL_law 147 = .ok (.iadd, 1) := dk_96 (dk_at dksL_law_6 3 rfl rfl)
theorem dL_law_148 : decode cL_law 148 = .ok (.iaload, 1) := dk_46 (dk_at dksL_law_6 4 rfl rfl)
theorem dL_law_149 : decode cL_law 149 = .ok (.aload_n 0, 1) := dk_42 (dk_at dksL_law_6 5 rfl rfl)
theorem dL_law_150 : decode cL_law 150 = .ok (.iload_n 3, 1) := dk_29 (dk_at dksL_law_6 6 rfl rfl)
theorem dL_law_151 : decode cL_law 151 = .ok (.iconst 4, 1) := dk_7 (dk_at dksL_law_6 7 rfl rfl)
theorem dL_law_152 : decode cL_law 152 = .ok (.iadd, 1) := dk_96 (dk_at dksL_law_6 8 rfl rfl)
theorem dL_law_153 : decode cL_law 153 = .ok (.iaload, 1) := dk_46 (dk_at dksL_law_6 9 rfl rfl)
theorem dL_law_154 : decode cL_law 154 = .ok (.invokevirtual 18, 3) := dk_182 0 18 (dk_at dksL_law_6 10 rfl rfl)
theorem dL_law_157 : decode cL_law 157 = .ok (.aload_n 2, 1) := dk_44 (dk_at dksL_law_6 13 rfl rfl)
theorem dL_law_158 : decode cL_law 158 = .ok (.aload_n 0, 1) := dk_42 (dk_at dksL_law_6 14 rfl rfl)
theorem dL_law_159 : decode cL_law 159 = .ok (.iload_n 3, 1) := dk_29 (dk_at dksL_law_6 15 rfl rfl)
theorem dL_law_160 : decode cL_law 160 = .ok (.iconst 1, 1) := dk_4 (dk_at dksL_law_6 16 rfl rfl)
theorem dL_law_161 : decode cL_law 161 = .ok (.iadd, 1) := dk_96 (dk_at dksL_law_6 17 rfl rfl)
theorem dL_law_162 : decode cL_law 162 = .ok (.iaload, 1) := dk_46 (dk_at dksL_law_6 18 rfl rfl)
theorem dL_law_163 : decode cL_law 163 = .ok (.aload_n 0, 1) := dk_42 (dk_at dksL_law_6 19 rfl rfl)
theorem dL_law_164 : decode cL_law 164 = .ok (.iload_n 3, 1) := dk_29 (dk_at dksL_law_6 20 rfl rfl)
theorem dL_law_165 : decode cL_law 165 = .ok (.iconst 2, 1) := dk_5 (dk_at dksL_law_6 21 rfl rfl)
theorem dL_law_166 : decode cL_law 166 = .ok (.iadd, 1) := dk_96 (dk_at dksL_law_6 22 rfl rfl)
theorem dL_law_167 : decode cL_law 167 = .ok (.iaload, 1) := dk_46 (dk_at dksL_law_6 23 rfl rfl)
theorem dL_law_168 : decode cL_law 168 = .ok (.aload_n 0, 1) := dk_42 (dk_at dksL_law_7 0 rfl rfl)
theorem dL_law_169 : decode cL_law 169 = .ok (.iload_n 3, 1) := dk_29 (dk_at dksL_law_7 1 rfl rfl)
theorem dL_law_170 : decode cL_law 170 = .ok (.iconst 3, 1) := dk_6 (dk_at dksL_law_7 2 rfl rfl)
theorem dL_law_171 : decode cL_law 171 = .ok (.iadd, 1) := dk_96 (dk_at dksL_law_7 3 rfl rfl)
theorem dL_law_172 : decode cL_law 172 = .ok (.iaload, 1) := dk_46 (dk_at dksL_law_7 4 rfl rfl)
theorem dL_law_173 : decode cL_law 173 = .ok (.aload_n 0, 1) := dk_42 (dk_at dksL_law_7 5 rfl rfl)
theorem dL_law_174 : decode cL_law 174 = .ok (.iload_n 3, 1) := dk_29 (dk_at dksL_law_7 6 rfl rfl)
theorem dL_law_175 : decode cL_law 175 = .ok (.iconst 4, 1) := dk_7 (dk_at dksL_law_7 7 rfl rfl)
theorem dL_law_176 : decode cL_law 176 = .ok (.iadd, 1) := dk_96 (dk_at dksL_law_7 8 rfl rfl)
theorem dL_law_177 : decode cL_law 177 = .ok (.iaload, 1) := dk_46 (dk_at dksL_law_7 9 rfl rfl)
theorem dL_law_178 : decode cL_law 178 = .ok (.invokevirtual 22, 3) := dk_182 0 22 (dk_at dksL_law_7 10 rfl rfl)
theorem dL_law_181 : decode cL_law 181 = .ok (.goto 79, 3) := dk_167 0 79 (dk_at dksL_law_7 13 rfl rfl)
theorem dL_law_184 : decode cL_law 184 = .ok (.aload_n 1, 1) := dk_43 (dk_at dksL_law_7 16 rfl rfl)
theorem dL_law_185 : decode cL_law 185 = .ok (.aload_n 0, 1) := dk_42 (dk_at dksL_law_7 17 rfl rfl)
theorem dL_law_186 : decode cL_law 186 = .ok (.iload_n 3, 1) := dk_29 (dk_at dksL_law_7 18 rfl rfl)
theorem dL_law_187 : decode cL_law 187 = .ok (.iconst 1, 1) := dk_4 (dk_at dksL_law_7 19 rfl rfl)
theorem dL_law_188 : decode cL_law 188 = .ok (.iadd, 1) := dk_96 (dk_at dksL_law_7 20 rfl rfl)
theorem dL_law_189 : decode cL_law 189 = .ok (.iaload, 1) := dk_46 (dk_at dksL_law_7 21 rfl rfl)
theorem dL_law_190 : decode cL_law 190 = .ok (.invokevirtual 23, 3) := dk_182 0 23 (dk_at dksL_law_8 0 rfl rfl)
theorem dL_law_193 : decode cL_law 193 = .ok (.aload_n 2, 1) := dk_44 (dk_at dksL_law_8 3 rfl rfl)
theorem dL_law_194 : decode cL_law 194 = .ok (.aload_n 0, 1) := dk_42 (dk_at dksL_law_8 4 rfl rfl)
theorem dL_law_195 : decode cL_law 195 = .ok (.iload_n 3, 1) := dk_29 (dk_at dksL_law_8 5 rfl rfl)
theorem dL_law_196 : decode cL_law 196 = .ok (.iconst 1, 1) := dk_4 (dk_at dksL_law_8 6 rfl rfl)
theorem dL_law_197 : decode cL_law 197 = .ok (.iadd, 1) := dk_96 (dk_at dksL_law_8 7 rfl rfl)
theorem dL_law_198 : decode cL_law 198 = .ok (.iaload, 1) := dk_46 (dk_at dksL_law_8 8 rfl rfl)
theorem dL_law_199 : decode cL_law 199 = .ok (.invokevirtual 27, 3) := dk_182 0 27 (dk_at dksL_law_8 9 rfl rfl)
theorem dL_law_202 : decode cL_law 202 = .ok (.goto 58, 3) := dk_167 0 58 (dk_at dksL_law_8 12 rfl rfl)
theorem dL_law_205 : decode cL_law 205 = .ok (.aload_n 1, 1) := dk_43 (dk_at dksL_law_8 15 rfl rfl)
theorem dL_law_206 : decode cL_law 206 = .ok (.aload_n 0, 1) := dk_42 (dk_at dksL_law_8 16 rfl rfl)
theorem dL_law_207 : decode cL_law 207 = .ok (.iload_n 3, 1) := dk_29 (dk_at dksL_law_8 17 rfl rfl)
theorem dL_law_208 : decode cL_law 208 = .ok (.iconst 1, 1) := dk_4 (dk_at dksL_law_8 18 rfl rfl)
theorem dL_law_209 : decode cL_law 209 = .ok (.iadd, 1) := dk_96 (dk_at dksL_law_8 19 rfl rfl)
theorem dL_law_210 : decode cL_law 210 = .ok (.iaload, 1) := dk_46 (dk_at dksL_law_8 20 rfl rfl)
theorem dL_law_211 : decode cL_law 211 = .ok (.invokevirtual 28, 3) := dk_182 0 28 (dk_at dksL_law_8 21 rfl rfl)
theorem dL_law_214 : decode cL_law 214 = .ok (.aload_n 2, 1) := dk_44 (dk_at dksL_law_9 0 rfl rfl)
theorem dL_law_215 : decode cL_law 215 = .ok (.aload_n 0, 1) := dk_42 (dk_at dksL_law_9 1 rfl rfl)
theorem dL_law_216 : decode cL_law 216 = .ok (.iload_n 3, 1) := dk_29 (dk_at dksL_law_9 2 rfl rfl)
theorem dL_law_217 : decode cL_law 217 = .ok (.iconst 1, 1) := dk_4 (dk_at dksL_law_9 3 rfl rfl)
theorem dL_law_218 : decode cL_law 218 = .ok (.iadd, 1) := dk_96 (dk_at dksL_law_9 4 rfl rfl)
theorem dL_law_219 : decode cL_law 219 = .ok (.iaload, 1) := dk_46 (dk_at dksL_law_9 5 rfl rfl)
theorem dL_law_220 : decode cL_law 220 = .ok (.invokevirtual 31, 3) := dk_182 0 31 (dk_at dksL_law_9 6 rfl rfl)
theorem dL_law_223 : decode cL_law 223 = .ok (.goto 37, 3) := dk_167 0 37 (dk_at dksL_law_9 9 rfl rfl)
theorem dL_law_226 : decode cL_law 226 = .ok (.aload_n 1, 1) := dk_43 (dk_at dksL_law_9 12 rfl rfl)
theorem dL_law_227 : decode cL_law 227 = .ok (.invokevirtual 32, 3) := dk_182 0 32 (dk_at dksL_law_9 13 rfl rfl)
theorem dL_law_230 : decode cL_law 230 = .ok (.aload_n 2, 1) := dk_44 (dk_at dksL_law_9 16 rfl rfl)
theorem dL_law_231 : decode cL_law 231 = .ok (.invokevirtual 35, 3) := dk_182 0 35 (dk_at dksL_law_9 17 rfl rfl)
theorem dL_law_234 : decode cL_law 234 = .ok (.goto 26, 3) := dk_167 0 26 (dk_at dksL_law_9 20 rfl rfl)
theorem dL_law_237 : decode cL_law 237 = .ok (.aload_n 1, 1) := dk_43 (dk_at dksL_law_9 23 rfl rfl)
theorem dL_law_238 : decode cL_law 238 = .ok (.aload_n 0, 1) := dk_42 (dk_at dksL_law_10 0 rfl rfl)
theorem dL_law_239 : decode cL_law 239 = .ok (.iload_n 3, 1) := dk_29 (dk_at dksL_law_10 1 rfl rfl)
theorem dL_law_240 : decode cL_law 240 = .ok (.iconst 1, 1) := dk_4 (dk_at dksL_law_10 2 rfl rfl)
theorem dL_law_241 : decode cL_law 241 = .ok (.iadd, 1) := dk_96 (dk_at dksL_law_10 3 rfl rfl)
theorem dL_law_242 : decode cL_law 242 = .ok (.iaload, 1) := dk_46 (dk_at dksL_law_10 4 rfl rfl)
theorem dL_law_243 : decode cL_law 243 = .ok (.invokevirtual 36, 3) := dk_182 0 36 (dk_at dksL_law_10 5 rfl rfl)
theorem dL_law_246 : decode cL_law 246 = .ok (.aload_n 2, 1) := dk_44 (dk_at dksL_law_10 8 rfl rfl)
theorem dL_law_247 : decode cL_law 247 = .ok (.aload_n 0, 1) := dk_42 (dk_at dksL_law_10 9 rfl rfl)
theorem dL_law_248 : decode cL_law 248 = .ok (.iload_n 3, 1) := dk_29 (dk_at dksL_law_10 10 rfl rfl)
theorem dL_law_249 : decode cL_law 249 = .ok (.iconst 1, 1) := dk_4 (dk_at dksL_law_10 11 rfl rfl)
theorem dL_law_250 : decode cL_law 250 = .ok (.iadd, 1) := dk_96 (dk_at dksL_law_10 12 rfl rfl)
theorem dL_law_251 : decode cL_law 251 = .ok (.iaload, 1) := dk_46 (dk_at dksL_law_10 13 rfl rfl)
theorem dL_law_252 : decode cL_law 252 = .ok (.invokevirtual 40, 3) := dk_182 0 40 (dk_at dksL_law_10 14 rfl rfl)
theorem dL_law_255 : decode cL_law 255 = .ok (.if_icmp .eq 5, 3) := dk_159 0 5 (dk_at dksL_law_10 17 rfl rfl)
theorem dL_law_258 : decode cL_law 258 = .ok (.iconst 0, 1) := dk_3 (dk_at dksL_law_10 20 rfl rfl)
theorem dL_law_259 : decode cL_law 259 = .ok (.ireturn, 1) := dk_172 (dk_at dksL_law_10 21 rfl rfl)
theorem dL_law_260 : decode cL_law 260 = .ok (.iinc 3 6, 3) := dk_132 3 6 (dk_at dksL_law_11 0 rfl rfl)
theorem dL_law_263 : decode cL_law 263 = .ok (.goto (-245), 3) := dk_167 255 11 (dk_at dksL_law_11 3 rfl rfl)
theorem dL_law_266 : decode cL_law 266 = .ok (.iconst 1, 1) := dk_4 (dk_at dksL_law_11 6 rfl rfl)
theorem dL_law_267 : decode cL_law 267 = .ok (.ireturn, 1) := dk_172 (dk_at dksL_law_11 7 rfl rfl)
end
section
/-! ===== Int32 by its bits: bt x i ===== -/
def bt (x : Int32) (i : Nat) : Bool := x.toBitVec.getLsbD i
theorem b_ext {x y : Int32} (h : ∀ i, i < 32 → bt x i = bt y i) : x = y := Int32.toBitVec_inj.mp (BitVec.eq_of_getLsbD_eq (fun i hi => h i hi))
theorem b_or (x y : Int32) (i : Nat) : bt (x ||| y) i = (bt x i || bt y i) := by unfold bt; rw [Int32.toBitVec_or, BitVec.getLsbD_or]
theorem b_and (x y : Int32) (i : Nat) : bt (x &&& y) i = (bt x i && bt y i) := by unfold bt; rw [Int32.toBitVec_and, BitVec.getLsbD_and]
theorem b_xor (x y : Int32) (i : Nat) : bt (x ^^^ y) i = (bt x i ^^ bt y i) := by unfold bt; rw [Int32.toBitVec_xor, BitVec.getLsbD_xor]
theorem b_big {x : Int32} {i : Nat} (h : 32 ≤ i) : bt x i = false := BitVec.getLsbD_of_ge _ _ h
theorem b_255 (i : Nat) : bt 255 i = decide (i < 8) := by
  rcases Nat.lt_or_ge i 32 with h | h
  · exact (by decide +kernel : ∀ i, i < 32 → bt 255 i = decide (i < 8)) i h
  · rw [b_big h, decide_eq_false (by omega)]
theorem b_65535 (i : Nat) : bt 65535 i = decide (i < 16) := by
  rcases Nat.lt_or_ge i 32 with h | h
  · exact (by decide +kernel : ∀ i, i < 32 → bt 65535 i = decide (i < 16)) i h
  · rw [b_big h, decide_eq_false (by omega)]
theorem b_m1 : ∀ i, i < 32 → bt (-1) i = true := by decide +kernel
theorem b_0 (i : Nat) : bt 0 i = false := BitVec.getLsbD_zero
theorem s_l : ∀ n, n < 32 → ((nI n &&& 31).toBitVec.smod 32).toNat = n := by decide +kernel
theorem s_u : ∀ n, n < 32 → (((nI n).toUInt32 &&& Int32.toUInt32 31).toBitVec % 32).toNat = n := by decide +kernel
theorem b_shl (n : Nat) (hn : n < 32) (x : Int32) {i : Nat} (hi : i < 32) : bt (x <<< (nI n &&& 31)) i = (decide (n ≤ i) && bt x (i - n)) := by
  unfold bt
  rw [Int32.toBitVec_shiftLeft]
  show (x.toBitVec <<< ((nI n &&& 31).toBitVec.smod 32).toNat).getLsbD i = _
  rw [s_l n hn, BitVec.getLsbD_shiftLeft]
  rcases Nat.lt_or_ge i n with h | h
  · simp [h, Nat.not_le.mpr h]
  · simp [hi, h, Nat.not_lt.mpr h]
theorem b_ushr (n : Nat) (hn : n < 32) (x : Int32) (i : Nat) : bt ((x.toUInt32 >>> ((nI n).toUInt32 &&& Int32.toUInt32 31)).toInt32) i = bt x (n + i) := by
  show (x.toUInt32 >>> ((nI n).toUInt32 &&& Int32.toUInt32 31)).toBitVec.getLsbD i = x.toUInt32.toBitVec.getLsbD (n + i)
  rw [UInt32.toBitVec_shiftRight]
  show (x.toUInt32.toBitVec >>> (((nI n).toUInt32 &&& Int32.toUInt32 31).toBitVec % 32).toNat).getLsbD i = _
  rw [s_u n hn, BitVec.getLsbD_ushiftRight]
theorem b_sshr (n : Nat) (hn : n < 32) (x : Int32) {i : Nat} (hi : i < 32) : bt (x >>> (nI n &&& 31)) i = if n + i < 32 then bt x (n + i) else bt x 31 := by
  unfold bt
  rw [Int32.toBitVec_shiftRight]
  show (x.toBitVec.sshiftRight ((nI n &&& 31).toBitVec.smod 32).toNat).getLsbD i = _
  rw [s_l n hn, BitVec.getLsbD_sshiftRight, BitVec.msb_eq_getLsbD_last]
  simp [hi]
theorem b_shl8 (x : Int32) {i : Nat} (hi : i < 32) : bt (x <<< ((8 : Int32) &&& 31)) i = (decide (8 ≤ i) && bt x (i - 8)) := b_shl 8 (by omega) x hi
theorem b_shl16 (x : Int32) {i : Nat} (hi : i < 32) : bt (x <<< ((16 : Int32) &&& 31)) i = (decide (16 ≤ i) && bt x (i - 16)) := b_shl 16 (by omega) x hi
theorem b_shl24 (x : Int32) {i : Nat} (hi : i < 32) : bt (x <<< ((24 : Int32) &&& 31)) i = (decide (24 ≤ i) && bt x (i - 24)) := b_shl 24 (by omega) x hi
theorem b_sshr8 (x : Int32) {i : Nat} (hi : i < 32) : bt (x >>> ((8 : Int32) &&& 31)) i = if 8 + i < 32 then bt x (8 + i) else bt x 31 := b_sshr 8 (by omega) x hi
/-! ===== a byte read unsigned ===== -/
theorem bp_b (x : Int32) : x.toInt8.toInt32 &&& 255 = x &&& 255 := by
  apply Int32.toBitVec_inj.mp
  rw [Int32.toBitVec_and, Int32.toBitVec_and, Int8.toBitVec_toInt32, Int32.toBitVec_toInt8]
  apply BitVec.eq_of_getLsbD_eq
  intro i hi
  rw [BitVec.getLsbD_and, BitVec.getLsbD_and]
  have hm : ∀ i < 32, 8 ≤ i → (255 : Int32).toBitVec.getLsbD i = false := by decide
  rcases Nat.lt_or_ge i 8 with z | z
  · rw [BitVec.getLsbD_signExtend, BitVec.getLsbD_signExtend, if_pos z, if_pos hi]
    simp only [z, hi, decide_true, Bool.true_and]
  · rw [hm i hi z]; simp
end
section
/-! PURE: what the engine and the model compute, in plain Lean -/
def ush (x y : Int32) : Int32 := (x.toUInt32 >>> (y.toUInt32 &&& Int32.toUInt32 31)).toInt32
def rol (x d : Int32) : Int32 := (x <<< (d &&& 31)) ||| ush x (-d)
def trn (x d : Int32) : Int32 := (x <<< (d &&& 31)) ||| ush x (32 - d)
def spr (x : Int32) : Int32 := x ^^^ (rol x 8 ^^^ rol x 24)
def spm (x : Int32) : Int32 := (x ^^^ trn x 8) ^^^ trn x 24
abbrev Q4 : Type := Int32 × Int32 × Int32 × Int32
/-- four ints as the contents of an array of four -/
def qf (a : Q4) : Nat → Int32 := fun j => match j with
  | 0 => a.1
  | 1 => a.2.1
  | 2 => a.2.2.1
  | 3 => a.2.2.2
  | _ => 0
theorem qf_u0 (a b c d x : Int32) : upd (qf (a, b, c, d)) 0 x = qf (x, b, c, d) := by
  funext j
  match j with
  | 0 => rfl
  | 1 => rfl
  | 2 => rfl
  | 3 => rfl
  | n + 4 => simp [upd, qf]
theorem qf_u1 (a b c d x : Int32) : upd (qf (a, b, c, d)) 1 x = qf (a, x, c, d) := by
  funext j
  match j with
  | 0 => rfl
  | 1 => rfl
  | 2 => rfl
  | 3 => rfl
  | n + 4 => simp [upd, qf]
theorem qf_u2 (a b c d x : Int32) : upd (qf (a, b, c, d)) 2 x = qf (a, b, x, d) := by
  funext j
  match j with
  | 0 => rfl
  | 1 => rfl
  | 2 => rfl
  | 3 => rfl
  | n + 4 => simp [upd, qf]
theorem qf_u3 (a b c d x : Int32) : upd (qf (a, b, c, d)) 3 x = qf (a, b, c, x) := by
  funext j
  match j with
  | 0 => rfl
  | 1 => rfl
  | 2 => rfl
  | 3 => rfl
  | n + 4 => simp [upd, qf]
theorem qf_0 : (fun _ : Nat => (0 : Int32)) = qf (0, 0, 0, 0) := by
  funext j
  match j with
  | 0 => rfl
  | 1 => rfl
  | 2 => rfl
  | 3 => rfl
  | n + 4 => rfl
-- ===== the engine =====
def adc (a : Q4) (c : Int32) : Q4 := (a.1 ^^^ c, a.2.1, a.2.2.1, a.2.2.2)
def thE (k a : Q4) : Q4 :=
  ((a.1 ^^^ k.1) ^^^ spr ((a.2.1 ^^^ k.2.1) ^^^ (a.2.2.2 ^^^ k.2.2.2)),
   (a.2.1 ^^^ k.2.1) ^^^ spr (a.1 ^^^ a.2.2.1),
   (a.2.2.1 ^^^ k.2.2.1) ^^^ spr ((a.2.1 ^^^ k.2.1) ^^^ (a.2.2.2 ^^^ k.2.2.2)),
   (a.2.2.2 ^^^ k.2.2.2) ^^^ spr (a.1 ^^^ a.2.2.1))
def thK (a : Q4) : Q4 :=
  (a.1 ^^^ spr (a.2.1 ^^^ a.2.2.2), a.2.1 ^^^ spr (a.1 ^^^ a.2.2.1), a.2.2.1 ^^^ spr (a.2.1 ^^^ a.2.2.2), a.2.2.2 ^^^ spr (a.1 ^^^ a.2.2.1))
def piE (a : Q4) : Q4 := (a.1, rol a.2.1 1, rol a.2.2.1 5, rol a.2.2.2 2)
def piF (a : Q4) : Q4 := (a.1, rol a.2.1 31, rol a.2.2.1 27, rol a.2.2.2 30)
def ga1 (a : Q4) : Int32 := a.2.1 ^^^ (a.2.2.2 ||| a.2.2.1)
def ga3 (a : Q4) : Int32 := a.1 ^^^ (a.2.2.1 &&& (ga1 a ^^^ (-1)))
def ga2 (a : Q4) : Int32 := ((a.2.2.2 ^^^ (ga1 a ^^^ (-1))) ^^^ a.2.2.1) ^^^ ga3 a
def gb1 (a : Q4) : Int32 := ga1 a ^^^ (ga3 a ||| ga2 a)
def gaE (a : Q4) : Q4 := (a.2.2.2 ^^^ (ga2 a &&& gb1 a), gb1 a, ga2 a, ga3 a)
/-- the round constants, as the bytes of the table -/
def rcB (i : Nat) : Int32 := ([-128, 27, 54, 108, -40, -85, 77, -102, 47, 94, -68, 99, -58, -105, 53, 106, -44] : List Int32).getD i 0
def rcE (i : Nat) : Int32 := rcB i &&& 255
def miE (a : Q4) : Q4 := piF (gaE (piE a))
def enI (k a : Q4) : Nat → Q4
  | 0 => a
  | i + 1 => miE (thE k (adc (enI k a i) (rcE i)))
def enF (k a : Q4) : Q4 := thE k (adc (enI k a 16) (rcE 16))
def deI (k a : Q4) : Nat → Q4
  | 0 => a
  | i + 1 => miE (adc (thE k (deI k a i)) (rcE (16 - i)))
def deF (k a : Q4) : Q4 := adc (thE k (deI k a 16)) (rcE 0)
-- ===== bytes =====
def beI (f : Nat → Int32) (o : Nat) : Int32 := (((f o <<< ((24 : Int32) &&& 31)) ||| ((f (o + 1) &&& 255) <<< ((16 : Int32) &&& 31))) ||| ((f (o + 2) &&& 255) <<< ((8 : Int32) &&& 31))) ||| (f (o + 3) &&& 255)
def beQ (f : Nat → Int32) : Q4 := (beI f 0, beI f 4, beI f 8, beI f 12)
def itb (f : Nat → Int32) (o : Nat) (w : Int32) : Nat → Int32 := upd (upd (upd (upd f o (vp_nar .byte (ush w 24).toInt8.toInt32)) (o + 1) (vp_nar .byte (ush w 16).toInt8.toInt32)) (o + 2) (vp_nar .byte (ush w 8).toInt8.toInt32)) (o + 3) (vp_nar .byte w.toInt8.toInt32)
def itQ (f : Nat → Int32) (a : Q4) : Nat → Int32 := itb (itb (itb (itb f 0 a.1) 4 a.2.1) 8 a.2.2.1) 12 a.2.2.2
def wrB (f : Nat → Int32) (o : Nat) (w : Int32) : Nat → Int32 := upd (upd (upd (upd f o (vp_nar .byte (w >>> ((24 : Int32) &&& 31)).toInt8.toInt32)) (o + 1) (vp_nar .byte (w >>> ((16 : Int32) &&& 31)).toInt8.toInt32)) (o + 2) (vp_nar .byte (w >>> ((8 : Int32) &&& 31)).toInt8.toInt32)) (o + 3) (vp_nar .byte w.toInt8.toInt32)
def wB4 (f : Nat → Int32) (o : Nat) (a b c d : Int32) : Nat → Int32 := wrB (wrB (wrB (wrB f o a) (o + 4) b) (o + 8) c) (o + 12) d
/-- the first i places of f, narrowed, over g -/
def cpB (f g : Nat → Int32) (i : Nat) : Nat → Int32 := fun j => if j < i then vp_nar .byte (f j) else g j
-- ===== the model =====
def wrI (f : Nat → Int32) (o : Nat) (w : Int32) : Nat → Int32 := upd (upd (upd (upd f o ((w >>> ((24 : Int32) &&& 31)) &&& 255)) (o + 1) ((w >>> ((16 : Int32) &&& 31)) &&& 255)) (o + 2) ((w >>> ((8 : Int32) &&& 31)) &&& 255)) (o + 3) ((w >>> ((0 : Int32) &&& 31)) &&& 255)
def wI4 (f : Nat → Int32) (o : Nat) (a b c d : Int32) : Nat → Int32 := wrI (wrI (wrI (wrI f o a) (o + 4) b) (o + 8) c) (o + 12) d
def cpI (f g : Nat → Int32) (i : Nat) : Nat → Int32 := fun j => if j < i then f j else g j
def w4I (g : Nat → Int32) (o : Nat) : Int32 := (((g o <<< ((24 : Int32) &&& 31)) ||| (g (o + 1) <<< ((16 : Int32) &&& 31))) ||| (g (o + 2) <<< ((8 : Int32) &&& 31))) ||| g (o + 3)
def woQ (g : Nat → Int32) : Q4 := (w4I g 0, w4I g 4, w4I g 8, w4I g 12)
def laQ (f : Nat → Int32) (a : Q4) : Nat → Int32 := wI4 f 0 a.1 a.2.1 a.2.2.1 a.2.2.2
def coM : Nat → Int32
  | 0 => 128
  | n + 1 => if 128 ≤ coM n then (2 * coM n) ^^^ 283 else 2 * coM n
def thM (k a : Q4) : Q4 :=
  ((a.1 ^^^ k.1) ^^^ spm (((a.2.1 ^^^ spm (a.1 ^^^ a.2.2.1)) ^^^ k.2.1) ^^^ ((a.2.2.2 ^^^ spm (a.1 ^^^ a.2.2.1)) ^^^ k.2.2.2)),
   (a.2.1 ^^^ spm (a.1 ^^^ a.2.2.1)) ^^^ k.2.1,
   (a.2.2.1 ^^^ k.2.2.1) ^^^ spm (((a.2.1 ^^^ spm (a.1 ^^^ a.2.2.1)) ^^^ k.2.1) ^^^ ((a.2.2.2 ^^^ spm (a.1 ^^^ a.2.2.1)) ^^^ k.2.2.2)),
   (a.2.2.2 ^^^ spm (a.1 ^^^ a.2.2.1)) ^^^ k.2.2.2)
def tuA (a : Q4) : Q4 := (a.1, trn a.2.1 1, trn a.2.2.1 5, trn a.2.2.2 2)
def tuB (a : Q4) : Q4 := (a.1, trn a.2.1 31, trn a.2.2.1 27, trn a.2.2.2 30)
def gm1 (a : Q4) : Int32 := a.2.1 ^^^ ((a.2.2.2 ^^^ (-1)) &&& (a.2.2.1 ^^^ (-1)))
def gm0 (a : Q4) : Int32 := a.1 ^^^ (a.2.2.1 &&& gm1 a)
def gm2 (a : Q4) : Int32 := a.2.2.1 ^^^ ((a.2.2.2 ^^^ gm1 a) ^^^ gm0 a)
def gn1 (a : Q4) : Int32 := gm1 a ^^^ ((gm0 a ^^^ (-1)) &&& (gm2 a ^^^ (-1)))
def gaM (a : Q4) : Q4 := (a.2.2.2 ^^^ (gm2 a &&& gn1 a), gn1 a, gm2 a, gm0 a)
def roM (k a : Q4) (x y : Int32) : Q4 := tuB (gaM (tuA (adc (thM k (adc a x)) y)))
def lkI (k a : Q4) : Nat → Q4
  | 0 => a
  | i + 1 => roM k (lkI k a i) (coM i) 0
def lkF (k a : Q4) : Q4 := thM k (adc (lkI k a 16) (coM 16))
def opI (k a : Q4) : Nat → Q4
  | 0 => a
  | i + 1 => roM k (opI k a i) 0 (coM (16 - i))
def opF (k a : Q4) : Q4 := adc (thM k (opI k a 16)) (coM 0)
-- ===== they are the same =====
theorem trn_8 (x : Int32) : trn x 8 = rol x 8 := rfl
theorem trn_24 (x : Int32) : trn x 24 = rol x 24 := rfl
theorem trn_1 (x : Int32) : trn x 1 = rol x 1 := rfl
theorem trn_5 (x : Int32) : trn x 5 = rol x 5 := rfl
theorem trn_2 (x : Int32) : trn x 2 = rol x 2 := rfl
theorem trn_31 (x : Int32) : trn x 31 = rol x 31 := rfl
theorem trn_27 (x : Int32) : trn x 27 = rol x 27 := rfl
theorem trn_30 (x : Int32) : trn x 30 = rol x 30 := rfl
theorem spm_eq (x : Int32) : spm x = spr x := by
  unfold spm spr
  rw [trn_8, trn_24, Int32.xor_assoc]
theorem xo_c (a e k b m : Int32) : ((a ^^^ e) ^^^ k) ^^^ ((b ^^^ e) ^^^ m) = (a ^^^ k) ^^^ (b ^^^ m) := by
  have h : ((a ^^^ e) ^^^ k) ^^^ ((b ^^^ e) ^^^ m) = ((a ^^^ k) ^^^ (b ^^^ m)) ^^^ (e ^^^ e) := by ac_rfl
  rw [h, Int32.xor_self, Int32.xor_zero]
theorem xo_s (a e k : Int32) : (a ^^^ e) ^^^ k = (a ^^^ k) ^^^ e := by ac_rfl
theorem thM_eq (k a : Q4) : thM k a = thE k a := by
  unfold thM thE
  rw [xo_c, spm_eq, spm_eq, xo_s a.2.1 _ k.2.1, xo_s a.2.2.2 _ k.2.2.2]
theorem thM_0 (a : Q4) : thM (0, 0, 0, 0) a = thK a := by
  rw [thM_eq]
  unfold thE thK
  simp only [Int32.xor_zero]
theorem adc_0 (a : Q4) : adc a 0 = a := by
  unfold adc
  rw [Int32.xor_zero]
theorem bi_n (x y z : Int32) : x ^^^ ((y ^^^ (-1)) &&& (z ^^^ (-1))) = (x ^^^ (y ||| z)) ^^^ (-1) := by
  apply b_ext
  intro i hi
  simp only [b_xor, b_and, b_or, b_m1 i hi]
  cases bt x i <;> cases bt y i <;> cases bt z i <;> rfl
theorem gm1_eq (a : Q4) : gm1 a = ga1 a ^^^ (-1) := by
  unfold gm1 ga1
  rw [bi_n]
theorem gm0_eq (a : Q4) : gm0 a = ga3 a := by
  unfold gm0 ga3
  rw [gm1_eq]
theorem gm2_eq (a : Q4) : gm2 a = ga2 a := by
  unfold gm2 ga2
  rw [gm1_eq, gm0_eq]
  ac_rfl
theorem gn1_eq (a : Q4) : gn1 a = gb1 a := by
  unfold gn1 gb1
  rw [bi_n, gm1_eq, gm0_eq, gm2_eq]
  have h : ((ga1 a ^^^ (-1)) ^^^ (ga3 a ||| ga2 a)) ^^^ (-1) = (ga1 a ^^^ (ga3 a ||| ga2 a)) ^^^ ((-1 : Int32) ^^^ (-1)) := by ac_rfl
  rw [h, Int32.xor_self, Int32.xor_zero]
theorem gaM_eq (a : Q4) : gaM a = gaE a := by
  unfold gaM gaE
  rw [gm2_eq, gn1_eq, gm0_eq]
theorem tuA_eq (a : Q4) : tuA a = piE a := rfl
theorem tuB_eq (a : Q4) : tuB a = piF a := rfl
theorem roM_eq (k a : Q4) (x y : Int32) : roM k a x y = miE (adc (thE k (adc a x)) y) := by
  unfold roM miE
  rw [tuA_eq, gaM_eq, tuB_eq, thM_eq]
theorem coM_eq : ∀ i, i < 17 → coM i = rcE i := by decide +kernel
theorem lkI_eq (k a : Q4) : ∀ i, i ≤ 17 → lkI k a i = enI k a i := by
  intro i
  induction i with
  | zero => intro _; rfl
  | succ n ih =>
    intro h
    show roM k (lkI k a n) (coM n) 0 = miE (thE k (adc (enI k a n) (rcE n)))
    rw [roM_eq, adc_0, ih (by omega), coM_eq n (by omega)]
theorem lkF_eq (k a : Q4) : lkF k a = enF k a := by
  unfold lkF enF
  rw [thM_eq, lkI_eq k a 16 (by omega), coM_eq 16 (by omega)]
theorem opI_eq (k a : Q4) : ∀ i, opI k a i = deI k a i := by
  intro i
  induction i with
  | zero => rfl
  | succ n ih =>
    show roM k (opI k a n) 0 (coM (16 - n)) = miE (adc (thE k (deI k a n)) (rcE (16 - n)))
    rw [roM_eq, adc_0, ih, coM_eq (16 - n) (by omega)]
theorem opF_eq (k a : Q4) : opF k a = deF k a := by
  unfold opF deF
  rw [thM_eq, opI_eq, coM_eq 0 (by omega)]
-- ===== the bytes of the one are the ints of the other =====
def Rel (n : Nat) (f g : Nat → Int32) : Prop := ∀ j, j < n → f j &&& 255 = g j
theorem na_b (x : Int32) : vp_nar .byte x &&& 255 = x &&& 255 := by
  rw [vp_nar_byte, bp_b]
theorem na_bb (x : Int32) : vp_nar .byte x.toInt8.toInt32 &&& 255 = x &&& 255 := by
  rw [na_b, bp_b]
theorem Rel.up {n : Nat} {f g : Nat → Int32} (h : Rel n f g) (k : Nat) {x y : Int32} (e : x &&& 255 = y) : Rel n (upd f k x) (upd g k y) := by
  intro j hj
  unfold upd
  by_cases hk : j = k
  · rw [if_pos hk, if_pos hk]; exact e
  · rw [if_neg hk, if_neg hk]; exact h j hj
theorem sh_0 (w : Int32) : w >>> ((0 : Int32) &&& 31) = w := sb_shr0 w
theorem Rel.wr {n : Nat} {f g : Nat → Int32} (h : Rel n f g) (o : Nat) (w : Int32) : Rel n (wrB f o w) (wrI g o w) :=
  (((h.up o (na_bb _)).up (o + 1) (na_bb _)).up (o + 2) (na_bb _)).up (o + 3) (by rw [na_bb, sh_0])
theorem Rel.w4 {n : Nat} {f g : Nat → Int32} (h : Rel n f g) (o : Nat) (a b c d : Int32) : Rel n (wB4 f o a b c d) (wI4 g o a b c d) :=
  (((h.wr o a).wr (o + 4) b).wr (o + 8) c).wr (o + 12) d
theorem us_24 (w : Int32) : ush w 24 &&& 255 = (w >>> ((24 : Int32) &&& 31)) &&& 255 := by
  apply b_ext
  intro i hi
  rw [b_and, b_and, show bt (ush w 24) i = bt w (24 + i) from b_ushr 24 (by omega) w i, show bt (w >>> ((24 : Int32) &&& 31)) i = _ from b_sshr 24 (by omega) w hi, b_255]
  by_cases h : i < 8
  · rw [if_pos (by omega)]
  · rw [decide_eq_false h, Bool.and_false, Bool.and_false]
theorem us_16 (w : Int32) : ush w 16 &&& 255 = (w >>> ((16 : Int32) &&& 31)) &&& 255 := by
  apply b_ext
  intro i hi
  rw [b_and, b_and, show bt (ush w 16) i = bt w (16 + i) from b_ushr 16 (by omega) w i, show bt (w >>> ((16 : Int32) &&& 31)) i = _ from b_sshr 16 (by omega) w hi, b_255]
  by_cases h : i < 8
  · rw [if_pos (by omega)]
  · rw [decide_eq_false h, Bool.and_false, Bool.and_false]
theorem us_8 (w : Int32) : ush w 8 &&& 255 = (w >>> ((8 : Int32) &&& 31)) &&& 255 := by
  apply b_ext
  intro i hi
  rw [b_and, b_and, show bt (ush w 8) i = bt w (8 + i) from b_ushr 8 (by omega) w i, show bt (w >>> ((8 : Int32) &&& 31)) i = _ from b_sshr 8 (by omega) w hi, b_255]
  by_cases h : i < 8
  · rw [if_pos (by omega)]
  · rw [decide_eq_false h, Bool.and_false, Bool.and_false]
theorem Rel.it {n : Nat} {f g : Nat → Int32} (h : Rel n f g) (o : Nat) (w : Int32) : Rel n (itb f o w) (wrI g o w) :=
  (((h.up o (by rw [na_bb, us_24])).up (o + 1) (by rw [na_bb, us_16])).up (o + 2) (by rw [na_bb, us_8])).up (o + 3) (by rw [na_bb, sh_0])
theorem Rel.itQ_ {n : Nat} {f g : Nat → Int32} (h : Rel n f g) (a : Q4) : Rel n (itQ f a) (laQ g a) :=
  (((h.it 0 a.1).it 4 a.2.1).it 8 a.2.2.1).it 12 a.2.2.2
theorem Rel.cp {n i : Nat} {f g f' g' : Nat → Int32} (h : Rel n f g) (h' : Rel n f' g') : Rel n (cpB f f' i) (cpI g g' i) := by
  intro j hj
  unfold cpB cpI
  by_cases hk : j < i
  · rw [if_pos hk, if_pos hk, na_b]; exact h j hj
  · rw [if_neg hk, if_neg hk]; exact h' j hj
theorem sl_24 (x : Int32) : (x &&& 255) <<< ((24 : Int32) &&& 31) = x <<< ((24 : Int32) &&& 31) := by
  apply b_ext
  intro i hi
  rw [b_shl24 _ hi, b_shl24 _ hi, b_and, b_255]
  by_cases h : 24 ≤ i
  · rw [decide_eq_true h, decide_eq_true (show i - 24 < 8 by omega), Bool.and_true]
  · rw [decide_eq_false h, Bool.false_and, Bool.false_and]
theorem Rel.be {n : Nat} {f g : Nat → Int32} (h : Rel n f g) (o : Nat) (ho : o + 3 < n) : beI f o = w4I g o := by
  unfold beI w4I
  rw [← h o (by omega), ← h (o + 1) (by omega), ← h (o + 2) (by omega), ← h (o + 3) (by omega), sl_24]
theorem Rel.beQ_ {n : Nat} {f g : Nat → Int32} (h : Rel n f g) (hn : 16 ≤ n) : beQ f = woQ g := by
  unfold beQ woQ
  rw [h.be 0 (by omega), h.be 4 (by omega), h.be 8 (by omega), h.be 12 (by omega)]
theorem Rel.mono {n m : Nat} {f g : Nat → Int32} (h : Rel n f g) (hm : m ≤ n) : Rel m f g := fun j hj => h j (by omega)
theorem cpB_0 (f g : Nat → Int32) : cpB f g 0 = g := by
  funext j
  unfold cpB
  rw [if_neg (by omega)]
theorem cpB_s (f g : Nat → Int32) (i : Nat) : upd (cpB f g i) i (vp_nar .byte (f i)) = cpB f g (i + 1) := by
  funext j
  show (if j = i then vp_nar .byte (f i) else (if j < i then vp_nar .byte (f j) else g j)) = if j < i + 1 then vp_nar .byte (f j) else g j
  by_cases h : j = i
  · rw [if_pos h, if_pos (by omega), h]
  · rw [if_neg h]
    by_cases h2 : j < i
    · rw [if_pos h2, if_pos (by omega)]
    · rw [if_neg h2, if_neg (by omega)]
theorem cpI_0 (f g : Nat → Int32) : cpI f g 0 = g := by
  funext j
  unfold cpI
  rw [if_neg (by omega)]
theorem cpI_s (f g : Nat → Int32) (i : Nat) : upd (cpI f g i) i (f i) = cpI f g (i + 1) := by
  funext j
  show (if j = i then f i else (if j < i then f j else g j)) = if j < i + 1 then f j else g j
  by_cases h : j = i
  · rw [if_pos h, if_pos (by omega), h]
  · rw [if_neg h]
    by_cases h2 : j < i
    · rw [if_pos h2, if_pos (by omega)]
    · rw [if_neg h2, if_neg (by omega)]
theorem cpB_fit (f g : Nat → Int32) (i : Nat) (j : Nat) (h : j < i) : fits .byte (.int (cpB f g i j)) = true := by
  unfold cpB
  rw [if_pos h, vp_nar_byte]
  exact pk_fb _
/-- the half of the key that a call of key writes -/
theorem ha_o (h : Int32) : ∃ o : Nat, o ≤ 16 ∧ (h &&& 1) <<< ((4 : Int32) &&& 31) = nI o := by
  obtain ⟨j, hj, e⟩ := pk_andE h (m := 1) 1 (by decide)
  rw [e]
  match j, hj with
  | 0, _ => exact ⟨0, by omega, by decide⟩
  | 1, _ => exact ⟨16, by omega, by decide⟩
/-- the key's first 16 bytes as they come to the engine -/
def kcB (f : Nat → Int32) : Nat → Int32 := va_cpy (cpB f (fun _ => 0) 16) (fun _ => 0) 0 0 16
def kcI (g : Nat → Int32) : Nat → Int32 := cpI g (fun _ => 0) 16
theorem Rel.kc {f g : Nat → Int32} (h : Rel 32 f g) : Rel 16 (kcB f) (kcI g) := by
  intro j hj
  unfold kcB kcI
  rw [sb_cpy0 hj]
  unfold cpB cpI
  rw [if_pos hj, if_pos hj, na_b]
  exact h j (by omega)
theorem Rel.lock {fk gk fb gb fo go : Nat → Int32} (h1 : Rel 32 fk gk) (h2 : Rel 16 fb gb) (h3 : Rel 16 fo go) : Rel 16 (itQ fo (enF (beQ (kcB fk)) (beQ fb))) (laQ go (lkF (woQ (kcI gk)) (woQ gb))) := by
  rw [h1.kc.beQ_ (Nat.le_refl _), h2.beQ_ (Nat.le_refl _), lkF_eq]
  exact h3.itQ_ _
theorem Rel.open_ {fk gk fb gb fo go : Nat → Int32} (h1 : Rel 32 fk gk) (h2 : Rel 16 fb gb) (h3 : Rel 16 fo go) : Rel 16 (itQ fo (deF (thK (beQ (kcB fk))) (beQ fb))) (laQ go (opF (thM (0, 0, 0, 0) (woQ (kcI gk))) (woQ gb))) := by
  rw [h1.kc.beQ_ (Nat.le_refl _), h2.beQ_ (Nat.le_refl _), opF_eq, thM_0]
  exact h3.itQ_ _
theorem Rel.zero (n : Nat) : Rel n (fun _ => 0) (fun _ => 0) := fun _ _ => by show (0 : Int32) &&& 255 = 0; decide
end
section
/-! BASE: what every contract carries, and the kit's rows in the forms used here -/
abbrev vwCl : List vw_C := [(RX0, TX0, 3), (RX1, TX1, 3), (RX2, TX2, 3), (RX3, TX3, 1)]
abbrev tyBI (cB cI : ClassId) : List (ClassId × FieldType) := [(cB, .byte), (cI, .int)]
def yF_init : MethodName := ⟨"BlockCipher", "init", "(ZLCipherParameters;)V"⟩
def yF_proc : MethodName := ⟨"BlockCipher", "processBlock", "([BI[BI)I"⟩
/-- the table of round constants, in a cell that nobody of A writes -/
def RC (A : Nat → Prop) (U : State) (H : Heap) : Prop := ∃ t : Nat, va_Z "NoekeonEngine" "roundConstants" "[B" (.ref t) A U H ∧ va_T .byte t 17 (fun j => .int (rcB j)) A U H
/-- what holds all through: the classes, the constants, the words of the interface -/
def EV (D : va_G) (cB cI : ClassId) (A : Nat → Prop) (U : State) : Prop := va_K D vwCl (tyBI cB cI) U ∧ RC A U U.heap ∧ va_Fw "NoekeonEngine" yF_init yX2_init_2 U ∧ va_Fw "NoekeonEngine" yF_proc yX2_processBlock U
theorem EV.to {D : va_G} {cB cI : ClassId} {A A1 : Nat → Prop} {s U : State} {H : Heap} {locs : List Loc} (h : EV D cB cI A s) (hS : va_S A s.heap H locs) (hAA : ∀ q, A1 q → A q) (hU : U.heap = H) (hvm : s.vm.Alike U.vm) : EV D cB cI A1 U := by
  obtain ⟨h1, ⟨t, h2, h3⟩, h4, h5⟩ := h
  refine ⟨va_K.moved hvm h1, ⟨t, ?_, ?_⟩, va_Fw.moved (by decide +kernel) hvm h4, va_Fw.moved (by decide +kernel) hvm h5⟩
  · rw [hU]
    exact (va_Z.moved hvm (h2.kept (H1 := H) (fun a ha hn => hS.2.1 a ha hn))).narrow hAA
  · rw [hU]
    exact (va_T.moved hvm (h3.kept (H1 := H) (fun a ha hn => hS.2.1 a ha hn))).narrow hAA
/-- a contract's start: arguments, cells, what holds all through -/
def PreE (D : va_G) (cB cI : ClassId) (av : List Value) (sz : Nat) (ws : va_W) : Array Value → State → Prop := va_Pc av (fun U => U.heap.size = sz ∧ va_P D vwCl ws U.heap ∧ va_D (fun _ => True) ws ∧ EV D cB cI (va_A ws sz) U)
theorem PreE.blind {D : va_G} {cB cI : ClassId} {av : List Value} {sz : Nat} {ws : va_W} : FrameBlind (PreE D cB cI av sz ws) := by
  intro a U g mk h
  obtain ⟨h0, h1, h2, h3, h4⟩ := h
  exact ⟨h0, h1, h2, h3, h4.to (U := U.calling g mk a) (H := U.heap) va_S.rf (fun _ h => h) rfl (Vm.Alike.refl U.vm)⟩
theorem fm_map {α β : Type} (g : α → Option β) : ∀ (l : List α) (w : List β), l.map g = w.map some → l.filterMap g = w
  | [], [], _ => rfl
  | [], _ :: _, h => by cases h
  | _ :: _, [], h => by cases h
  | a :: l, b :: w, h => by
    rw [List.map_cons, List.map_cons] at h
    injection h with h1 h2
    rw [List.filterMap_cons, h1, fm_map g l w h2]
theorem preE {D : va_G} {cB cI : ClassId} {A : Nat → Prop} {s : State} {H : Heap} {locs : List Loc} {ws wc : va_W} {av : List Value} (hE : EV D cB cI A s) (hP : va_P D vwCl ws H) (hD : va_D A ws) (hS : va_S A s.heap H locs) (hA : ∀ q, s.heap.size ≤ q → A q) (isC : List Nat) (hn : va_nd isC = true) (hC : isC.map (fun i => ws[i]?) = wc.map some) : ∀ U : State, U.heap = H → s.WarmedH U.vm → PreE D cB cI av H.size wc av.toArray U := by
  intro U hU hW
  refine ⟨rfl, by rw [hU], by rw [hU]; exact hP.sub isC (fm_map _ _ _ hC), (hD.sub isC hn hC).weaken (fun _ _ _ _ => trivial), hE.to hS (va_free hD hS hA isC hC) hU hW.alike⟩
/-- a contract's ends: nothing, an int, a cell; the cells behind it are w1, at new addresses u -/
abbrev PostV {S : Type} (D : va_G) (A : Nat → Prop) (w1 : S → va_W) : Array Value → State → Outcome → State → Prop := va_Qv (fun _ : S => True) (fun u t => va_P D vwCl (w1 u) t.heap ∧ va_D A (w1 u)) A
abbrev PostI {S : Type} (D : va_G) (A : Nat → Prop) (r0 : Int32) (w1 : S → va_W) : Array Value → State → Outcome → State → Prop := va_Qi (fun (r : Int32) (_ : S) => r = r0) (fun u t => va_P D vwCl (w1 u) t.heap ∧ va_D A (w1 u)) A
abbrev PostR (D : va_G) (A : Nat → Prop) (w1 : Nat → va_W) : Array Value → State → Outcome → State → Prop := va_Qr (fun _ : Unit => True) (fun _ a t => va_P D vwCl (w1 a) t.heap ∧ va_D A (w1 a)) A
section KB
variable {p : Program} {l : Launch} {e : Env} {R : Room} {s : State} {m : MethodId} {args : Array Value} {below : List Frame} {meth : Method} {c : Code} {H : Heap} {locs : List Loc} {cells slots : Nat} {Q : State → Prop}
variable {cc : ByteArray} {pc : Nat} {ls : Array Slot} {rest st0 : List Value} {D : va_G} {A : Nat → Prop} {ws : va_W} {cB cI : ClassId} {a : Array Value} {mc ms : Nat}
theorem lv_asi {x y : Int32} (h : x = y) (k : W p l e R s m args below meth c H locs cells slots Q (F0 m pc ls (.int y :: rest))) : W p l e R s m args below meth c H locs cells slots Q (F0 m pc ls (.int x :: rest)) := by
  subst h
  exact k
theorem k_iald (hexec : p.tables.exec = Jvm.exec) (hb : c.code = cc) (hK : va_K D vwCl (tyBI cB cI) s) (hP : va_P D vwCl ws H) (q0 : Nat) {a n : Nat} {f : Nat → Int32} (ha : ws[q0]? = some (a, .inl (cI, n, .inl f))) {i v : Int32} (k : Nat) (hi : i = nI k) (hk : k < n) (hn : n ≤ 1000) (hv : f k = v) (hdg : decode cc pc = .ok (.iaload, 1))
    (kk : W p l e R s m args below meth c H locs cells slots Q (F0 m (pc + 1) ls (.int v :: rest))) : W p l e R s m args below meth c H locs cells slots Q (F0 m pc ls (.int i :: .ref a :: rest)) := by
  subst hi
  subst hv
  refine va_iald hexec hb hK hP q0 1 ha rfl (vp_in_nI hk (by omega)) hdg ?_
  rw [nI_clamp (show k < 2 ^ 31 by omega)]
  exact kk
theorem k_bald (hexec : p.tables.exec = Jvm.exec) (hb : c.code = cc) (hK : va_K D vwCl (tyBI cB cI) s) (hP : va_P D vwCl ws H) (q0 : Nat) {a n : Nat} {f : Nat → Int32} (ha : ws[q0]? = some (a, .inl (cB, n, .inl f))) {i v : Int32} (k : Nat) (hi : i = nI k) (hk : k < n) (hn : n ≤ 1000) (hv : f k = v) (hdg : decode cc pc = .ok (.baload, 1))
    (kk : W p l e R s m args below meth c H locs cells slots Q (F0 m (pc + 1) ls (.int v :: rest))) : W p l e R s m args below meth c H locs cells slots Q (F0 m pc ls (.int i :: .ref a :: rest)) := by
  subst hi
  subst hv
  refine va_bald hexec hb hK hP q0 0 ha rfl (vp_in_nI hk (by omega)) hdg ?_
  rw [nI_clamp (show k < 2 ^ 31 by omega)]
  exact kk
theorem k_iast (hexec : p.tables.exec = Jvm.exec) (hb : c.code = cc) (hK : va_K D vwCl (tyBI cB cI) s) (hP : va_P D vwCl ws H) (hD : va_D A ws) (hS : va_S A s.heap H locs) (q0 : Nat) {a n : Nat} {f : Nat → Int32} (ha : ws[q0]? = some (a, .inl (cI, n, .inl f))) {i x : Int32} (k : Nat) (hi : i = nI k) (hk : k < n) (hn : n ≤ 1000) {f' : Nat → Int32} (hf : upd f k x = f') (hdg : decode cc pc = .ok (.iastore, 1)) {w2 : va_W} (h2 : ws.set q0 (a, .inl (cI, n, .inl f')) = w2)
    (kk : ∀ (H1 : Heap) (locs1 : List Loc), va_P D vwCl w2 H1 → va_D A w2 → va_S A s.heap H1 locs1 → W p l e R s m args below meth c H1 locs1 cells slots Q (F0 m (pc + 1) ls rest)) : W p l e R s m args below meth c H locs cells slots Q (F0 m pc ls (.int x :: .int i :: .ref a :: rest)) := by
  subst hi
  subst hf
  subst h2
  refine va_iast hexec hb hK hP hD hS q0 1 ha rfl (vp_in_nI hk (by omega)) hdg ?_
  rw [nI_clamp (show k < 2 ^ 31 by omega)]
  exact kk
theorem k_bast (hexec : p.tables.exec = Jvm.exec) (hb : c.code = cc) (hK : va_K D vwCl (tyBI cB cI) s) (hP : va_P D vwCl ws H) (hD : va_D A ws) (hS : va_S A s.heap H locs) (q0 : Nat) {a n : Nat} {f : Nat → Int32} (ha : ws[q0]? = some (a, .inl (cB, n, .inl f))) {i x : Int32} (k : Nat) (hi : i = nI k) (hk : k < n) (hn : n ≤ 1000) {f' : Nat → Int32} (hf : upd f k (vp_nar .byte x) = f') (hdg : decode cc pc = .ok (.bastore, 1)) {w2 : va_W} (h2 : ws.set q0 (a, .inl (cB, n, .inl f')) = w2)
    (kk : ∀ (H1 : Heap) (locs1 : List Loc), va_P D vwCl w2 H1 → va_D A w2 → va_S A s.heap H1 locs1 → W p l e R s m args below meth c H1 locs1 cells slots Q (F0 m (pc + 1) ls rest)) : W p l e R s m args below meth c H locs cells slots Q (F0 m pc ls (.int x :: .int i :: .ref a :: rest)) := by
  subst hi
  subst hf
  subst h2
  refine va_bast hexec hb hK hP hD hS q0 0 ha rfl (vp_in_nI hk (by omega)) hdg ?_
  rw [nI_clamp (show k < 2 ^ 31 by omega)]
  exact kk
theorem k_newb (hexec : p.tables.exec = Jvm.exec) (hb : c.code = cc) (harr : (Cond.arrayClass .byte).before args s = true) (hK : va_K D vwCl (tyBI cB cI) s) (hP : va_P D vwCl ws H) (hD : va_D A ws) (hS : va_S A s.heap H locs) (hA : ∀ q, s.heap.size ≤ q → A q) {n : Int32} (N : Nat) (hn : n = nI N) (hN : N ≤ 1000) (hcells : cells + 1 ≤ R.cells) (hslots : slots + N ≤ R.slots) (hdg : decode cc pc = .ok (.newarray .byte, 2))
    (kk : ∀ (q : Nat) (H1 : Heap), va_P D vwCl (ws ++ [(q, .inl (cB, N, .inl fun _ => 0))]) H1 → va_D A (ws ++ [(q, .inl (cB, N, .inl fun _ => 0))]) → va_S A s.heap H1 locs → W p l e R s m args below meth c H1 locs (cells + 1) (slots + N) Q (F0 m (pc + 2) ls (.ref q :: rest))) : W p l e R s m args below meth c H locs cells slots Q (F0 m pc ls (.int n :: rest)) := by
  subst hn
  refine va_newa (atype := .byte) (ty := .byte) (a0 := (N, .inl fun _ => 0)) (N' := N) hexec hb harr rfl hK hP hD hS hA (fun cA => rfl) (nI_pos (by omega)) (nI_clamp (by omega)) (by show N * 1 ≤ 536870912; omega) hcells hslots hdg (fun q cA H1 hK1 hP1 hD1 hS1 => ?_)
  have h1 : s.vm.findClass ("[" ++ FieldType.byte.toString) = some cA := (hK1.2 2 _ rfl).2
  have h2 : s.vm.findClass ("[" ++ FieldType.byte.toString) = some cB := (hK.2 0 _ rfl).2
  cases h1.symm.trans h2
  exact kk q H1 hP1 hD1 hS1
theorem k_newi (hexec : p.tables.exec = Jvm.exec) (hb : c.code = cc) (harr : (Cond.arrayClass .int).before args s = true) (hK : va_K D vwCl (tyBI cB cI) s) (hP : va_P D vwCl ws H) (hD : va_D A ws) (hS : va_S A s.heap H locs) (hA : ∀ q, s.heap.size ≤ q → A q) {n : Int32} (N : Nat) (hn : n = nI N) (hN : N ≤ 1000) (hcells : cells + 1 ≤ R.cells) (hslots : slots + N ≤ R.slots) (hdg : decode cc pc = .ok (.newarray .int, 2))
    (kk : ∀ (q : Nat) (H1 : Heap), va_P D vwCl (ws ++ [(q, .inl (cI, N, .inl fun _ => 0))]) H1 → va_D A (ws ++ [(q, .inl (cI, N, .inl fun _ => 0))]) → va_S A s.heap H1 locs → W p l e R s m args below meth c H1 locs (cells + 1) (slots + N) Q (F0 m (pc + 2) ls (.ref q :: rest))) : W p l e R s m args below meth c H locs cells slots Q (F0 m pc ls (.int n :: rest)) := by
  subst hn
  refine va_newa (atype := .int) (ty := .int) (a0 := (N, .inl fun _ => 0)) (N' := N) hexec hb harr rfl hK hP hD hS hA (fun cA => rfl) (nI_pos (by omega)) (nI_clamp (by omega)) (by show N * 4 ≤ 536870912; omega) hcells hslots hdg (fun q cA H1 hK1 hP1 hD1 hS1 => ?_)
  have h1 : s.vm.findClass ("[" ++ FieldType.int.toString) = some cA := (hK1.2 2 _ rfl).2
  have h2 : s.vm.findClass ("[" ++ FieldType.int.toString) = some cI := (hK.2 1 _ rfl).2
  cases h1.symm.trans h2
  exact kk q H1 hP1 hD1 hS1
theorem k_v {S : Type} {w1 : S → va_W} {wc wr : va_W} (hr : va_Run p l e R s m args below meth c H locs cells slots mc ms (F0 m pc ls st0) rest (PostV D (va_A wc H.size) w1 a) (va_A wc H.size)) (hP : va_P D vwCl ws H) (hD : va_D A ws) (hS : va_S A s.heap H locs) (hA : ∀ q, s.heap.size ≤ q → A q) (isC isR : List Nat) (hC : isC.map (fun i => ws[i]?) = wc.map some) (hR : isR.map (fun i => ws[i]?) = wr.map some) (hn : va_nd isR = true) (hdis : ∀ i ∈ isR, i ∉ isC) (is2 : List Nat) (hn2 : va_nd is2 = true) (w2 : S → va_W) (h2 : ∀ u, is2.map (fun i => (wr ++ w1 u)[i]?) = (w2 u).map some)
    (kk : ∀ (u : S) (H1 : Heap) (locs1 : List Loc), va_P D vwCl (w2 u) H1 → va_D A (w2 u) → va_S A s.heap H1 locs1 → W p l e R s m args below meth c H1 locs1 (cells + mc) (slots + ms) Q (F0 m (pc + 3) ls rest)) : W p l e R s m args below meth c H locs cells slots Q (F0 m pc ls st0) := by
  have hFc := va_free hD hS hA isC hC
  refine va_callv hr hS (fun q _ h => hFc q h) hFc (fun u t H1 locs1 ht hvm _ hB hz1 hk1 hS1 => ?_)
  obtain ⟨hP1, hD1⟩ := hB
  rw [ht] at hP1
  obtain ⟨hP2, hD2⟩ := va_join hP hD isC isR hC hR hn hdis hk1 hFc hP1 hD1
  exact kk u H1 locs1 (hP2.sub is2 (fm_map _ _ _ (h2 u))) (hD2.sub is2 hn2 (h2 u)) hS1
theorem k_i {S : Type} {r0 : Int32} {w1 : S → va_W} {wc wr : va_W} (hr : va_Run p l e R s m args below meth c H locs cells slots mc ms (F0 m pc ls st0) rest (PostI D (va_A wc H.size) r0 w1 a) (va_A wc H.size)) (hP : va_P D vwCl ws H) (hD : va_D A ws) (hS : va_S A s.heap H locs) (hA : ∀ q, s.heap.size ≤ q → A q) (isC isR : List Nat) (hC : isC.map (fun i => ws[i]?) = wc.map some) (hR : isR.map (fun i => ws[i]?) = wr.map some) (hn : va_nd isR = true) (hdis : ∀ i ∈ isR, i ∉ isC) (is2 : List Nat) (hn2 : va_nd is2 = true) (w2 : S → va_W) (h2 : ∀ u, is2.map (fun i => (wr ++ w1 u)[i]?) = (w2 u).map some)
    (kk : ∀ (u : S) (H1 : Heap) (locs1 : List Loc), va_P D vwCl (w2 u) H1 → va_D A (w2 u) → va_S A s.heap H1 locs1 → W p l e R s m args below meth c H1 locs1 (cells + mc) (slots + ms) Q (F0 m (pc + 3) ls (.int r0 :: rest))) : W p l e R s m args below meth c H locs cells slots Q (F0 m pc ls st0) := by
  have hFc := va_free hD hS hA isC hC
  refine va_calli hr hS (fun q _ h => hFc q h) hFc (fun r u t H1 locs1 ht hvm er hB hz1 hk1 hS1 => ?_)
  have er : r = r0 := er
  subst er
  obtain ⟨hP1, hD1⟩ := hB
  rw [ht] at hP1
  obtain ⟨hP2, hD2⟩ := va_join hP hD isC isR hC hR hn hdis hk1 hFc hP1 hD1
  exact kk u H1 locs1 (hP2.sub is2 (fm_map _ _ _ (h2 u))) (hD2.sub is2 hn2 (h2 u)) hS1
theorem k_r {w1 : Nat → va_W} {wc wr : va_W} (hr : va_Run p l e R s m args below meth c H locs cells slots mc ms (F0 m pc ls st0) rest (PostR D (va_A wc H.size) w1 a) (va_A wc H.size)) (hP : va_P D vwCl ws H) (hD : va_D A ws) (hS : va_S A s.heap H locs) (hA : ∀ q, s.heap.size ≤ q → A q) (isC isR : List Nat) (hC : isC.map (fun i => ws[i]?) = wc.map some) (hR : isR.map (fun i => ws[i]?) = wr.map some) (hn : va_nd isR = true) (hdis : ∀ i ∈ isR, i ∉ isC) (is2 : List Nat) (hn2 : va_nd is2 = true) (w2 : Nat → va_W) (h2 : ∀ u, is2.map (fun i => (wr ++ w1 u)[i]?) = (w2 u).map some)
    (kk : ∀ (u : Nat) (H1 : Heap) (locs1 : List Loc), va_P D vwCl (w2 u) H1 → va_D A (w2 u) → va_S A s.heap H1 locs1 → W p l e R s m args below meth c H1 locs1 (cells + mc) (slots + ms) Q (F0 m (pc + 3) ls (.ref u :: rest))) : W p l e R s m args below meth c H locs cells slots Q (F0 m pc ls st0) := by
  have hFc := va_free hD hS hA isC hC
  refine va_callr hr hS (fun q _ h => hFc q h) hFc (fun _ ra t H1 locs1 ht hvm _ hB hz1 hk1 hS1 => ?_)
  obtain ⟨hP1, hD1⟩ := hB
  rw [ht] at hP1
  obtain ⟨hP2, hD2⟩ := va_join hP hD isC isR hC hR hn hdis hk1 hFc hP1 hD1
  exact kk ra H1 locs1 (hP2.sub is2 (fm_map _ _ _ (h2 ra))) (hD2.sub is2 hn2 (h2 ra)) hS1
theorem k_vF {S : Type} {w1 : S → va_W} {wc wr : va_W} (hr : va_Run5 p l e R s m args below meth c H locs cells slots mc ms (F0 m pc ls st0) rest (PostV D (va_A wc H.size) w1 a) (va_A wc H.size)) (hP : va_P D vwCl ws H) (hD : va_D A ws) (hS : va_S A s.heap H locs) (hA : ∀ q, s.heap.size ≤ q → A q) (isC isR : List Nat) (hC : isC.map (fun i => ws[i]?) = wc.map some) (hR : isR.map (fun i => ws[i]?) = wr.map some) (hn : va_nd isR = true) (hdis : ∀ i ∈ isR, i ∉ isC) (is2 : List Nat) (hn2 : va_nd is2 = true) (w2 : S → va_W) (h2 : ∀ u, is2.map (fun i => (wr ++ w1 u)[i]?) = (w2 u).map some)
    (kk : ∀ (u : S) (H1 : Heap) (locs1 : List Loc), va_P D vwCl (w2 u) H1 → va_D A (w2 u) → va_S A s.heap H1 locs1 → W p l e R s m args below meth c H1 locs1 (cells + mc) (slots + ms) Q (F0 m (pc + 5) ls rest)) : W p l e R s m args below meth c H locs cells slots Q (F0 m pc ls st0) := by
  have hFc := va_free hD hS hA isC hC
  refine va_callFv hr hS (fun q _ h => hFc q h) hFc (fun u t H1 locs1 ht hvm _ hB hz1 hk1 hS1 => ?_)
  obtain ⟨hP1, hD1⟩ := hB
  rw [ht] at hP1
  obtain ⟨hP2, hD2⟩ := va_join hP hD isC isR hC hR hn hdis hk1 hFc hP1 hD1
  exact kk u H1 locs1 (hP2.sub is2 (fm_map _ _ _ (h2 u))) (hD2.sub is2 hn2 (h2 u)) hS1
theorem k_iF {S : Type} {r0 : Int32} {w1 : S → va_W} {wc wr : va_W} (hr : va_Run5 p l e R s m args below meth c H locs cells slots mc ms (F0 m pc ls st0) rest (PostI D (va_A wc H.size) r0 w1 a) (va_A wc H.size)) (hP : va_P D vwCl ws H) (hD : va_D A ws) (hS : va_S A s.heap H locs) (hA : ∀ q, s.heap.size ≤ q → A q) (isC isR : List Nat) (hC : isC.map (fun i => ws[i]?) = wc.map some) (hR : isR.map (fun i => ws[i]?) = wr.map some) (hn : va_nd isR = true) (hdis : ∀ i ∈ isR, i ∉ isC) (is2 : List Nat) (hn2 : va_nd is2 = true) (w2 : S → va_W) (h2 : ∀ u, is2.map (fun i => (wr ++ w1 u)[i]?) = (w2 u).map some)
    (kk : ∀ (u : S) (H1 : Heap) (locs1 : List Loc), va_P D vwCl (w2 u) H1 → va_D A (w2 u) → va_S A s.heap H1 locs1 → W p l e R s m args below meth c H1 locs1 (cells + mc) (slots + ms) Q (F0 m (pc + 5) ls (.int r0 :: rest))) : W p l e R s m args below meth c H locs cells slots Q (F0 m pc ls st0) := by
  have hFc := va_free hD hS hA isC hC
  refine va_callFi hr hS (fun q _ h => hFc q h) hFc (fun r u t H1 locs1 ht hvm er hB hz1 hk1 hS1 => ?_)
  have er : r = r0 := er
  subst er
  obtain ⟨hP1, hD1⟩ := hB
  rw [ht] at hP1
  obtain ⟨hP2, hD2⟩ := va_join hP hD isC isR hC hR hn hdis hk1 hFc hP1 hD1
  exact kk u H1 locs1 (hP2.sub is2 (fm_map _ _ _ (h2 u))) (hD2.sub is2 hn2 (h2 u)) hS1
end KB
/-- what a call through the interface asks: va_cwF n hts (lw_F ..) -/
theorem lw_F {own : String} {idx : Nat} {C : String} {x y : MethodName} {b : ByteArray} {L : Nat} {r : Option FieldType} (h1 : Cond.methodLink own idx x ∈ lw_all) (h2 : Cond.selects C x y ∈ lw_all) (h3 : Cond.instanceMethod y ∈ lw_all) (h4 : Cond.initialized y.cls ∈ lw_all) (h5 : Cond.code y b L r ∈ lw_all) : GoodIn lw_all (va_wsF own idx C x y (ws_ y b L r)) := by
  refine lw_app ?_ (lw_meth h5)
  intro w hw
  simp only [List.mem_cons, List.not_mem_nil, or_false] at hw
  rcases hw with e | e | e | e
  · rw [e]; exact h1
  · rw [e]; exact h2
  · rw [e]; exact h3
  · rw [e]; exact h4
end
section
set_option maxHeartbeats 4000000 in
set_option maxRecDepth 100000 in
theorem metJ4_rotateLeft (l : Launch) (x d : Int32) : Met l yJ4_rotateLeft (ws_ yJ4_rotateLeft cJ4_rotateLeft 2 (some .int)) ({ frames := 0, cells := 0, slots := 0, locals := 0 } : Room) (va_Pc [.int x, .int d] (fun _ => True)) (vp_Si (fun r : Int32 => r = rol x d)) 0 0 (fun _ => False) := by
  refine Met.ofW (cc := cJ4_rotateLeft) (maxL := 2) (ret := (some .int)) (by decide) rfl ?_
  intro p e s m args below meth c s₁ B hml hv
  obtain ⟨rfl, -⟩ := hv
  have hx := B.exec
  have hb := B.bytes
  have hr := B.returns
  have hts := atoms_spec (ws := ws_ yJ4_rotateLeft cJ4_rotateLeft 2 (some .int)) B.pre
  have hts : ∀ w ∈ lw_all, w.before _ s = true := fun w h => hts w (List.mem_cons_of_mem _ h)
  have hown : s.vm.findClass RJ4 = some m.cls := findClass_of_methodNamed B.named
  have hlocks := B.notSynchronized
  have hl := lv_entry ([.int x, .int d]) (n := 2) (Nat.le_of_ble_eq_true rfl)
  rw [lg_entry_eq]
  generalize (lg_sl ([.int x, .int d]) ++ List.replicate (2 - (lg_sl ([.int x, .int d])).length) Slot.unset).toArray = ls at hl ⊢
  have hl : lv_has ls 2 [(0, .int x), (1, .int d)] := hl
  refine lv_iload_n hx hb dJ4_rotateLeft_0 rfl (lv_at hl 0 rfl) ?_
  refine lv_iload_n hx hb dJ4_rotateLeft_1 rfl (lv_at hl 1 rfl) ?_
  refine lv_ishl hx hb dJ4_rotateLeft_2 ?_
  refine lv_iload_n hx hb dJ4_rotateLeft_3 rfl (lv_at hl 0 rfl) ?_
  refine lv_iload_n hx hb dJ4_rotateLeft_4 rfl (lv_at hl 1 rfl) ?_
  refine lv_ineg hx hb dJ4_rotateLeft_5 ?_
  refine lv_iushr (v := ush x (-d)) hx hb dJ4_rotateLeft_6 rfl ?_
  refine lv_ior hx hb dJ4_rotateLeft_7 ?_
  refine lv_asi (y := rol x d) rfl ?_
  exact W.iret (v := rol x d) hx hb hr (fun t ht hW => ⟨_, rfl, rfl, ht⟩) (fun q hq => by cases hq) dJ4_rotateLeft_8
set_option maxHeartbeats 4000000 in
set_option maxRecDepth 100000 in
theorem metX1_turned (l : Launch) (x d : Int32) : Met l yX1_turned (ws_ yX1_turned cX1_turned 2 (some .int)) ({ frames := 0, cells := 0, slots := 0, locals := 0 } : Room) (va_Pc [.int x, .int d] (fun _ => True)) (vp_Si (fun r : Int32 => r = trn x d)) 0 0 (fun _ => False) := by
  refine Met.ofW (cc := cX1_turned) (maxL := 2) (ret := (some .int)) (by decide) rfl ?_
  intro p e s m args below meth c s₁ B hml hv
  obtain ⟨rfl, -⟩ := hv
  have hx := B.exec
  have hb := B.bytes
  have hr := B.returns
  have hts := atoms_spec (ws := ws_ yX1_turned cX1_turned 2 (some .int)) B.pre
  have hts : ∀ w ∈ lw_all, w.before _ s = true := fun w h => hts w (List.mem_cons_of_mem _ h)
  have hown : s.vm.findClass RX1 = some m.cls := findClass_of_methodNamed B.named
  have hlocks := B.notSynchronized
  have hl := lv_entry ([.int x, .int d]) (n := 2) (Nat.le_of_ble_eq_true rfl)
  rw [lg_entry_eq]
  generalize (lg_sl ([.int x, .int d]) ++ List.replicate (2 - (lg_sl ([.int x, .int d])).length) Slot.unset).toArray = ls at hl ⊢
  have hl : lv_has ls 2 [(0, .int x), (1, .int d)] := hl
  refine lv_iload_n hx hb dX1_turned_0 rfl (lv_at hl 0 rfl) ?_
  refine lv_iload_n hx hb dX1_turned_1 rfl (lv_at hl 1 rfl) ?_
  refine lv_ishl hx hb dX1_turned_2 ?_
  refine lv_iload_n hx hb dX1_turned_3 rfl (lv_at hl 0 rfl) ?_
  refine lv_bipush (v := 32) hx hb dX1_turned_4 (by decide) ?_
  refine lv_iload_n hx hb dX1_turned_6 rfl (lv_at hl 1 rfl) ?_
  refine lv_isub hx hb dX1_turned_7 ?_
  refine lv_iushr (v := ush x (32 - d)) hx hb dX1_turned_8 rfl ?_
  refine lv_ior hx hb dX1_turned_9 ?_
  refine lv_asi (y := trn x d) rfl ?_
  exact W.iret (v := trn x d) hx hb hr (fun t ht hW => ⟨_, rfl, rfl, ht⟩) (fun q hq => by cases hq) dX1_turned_10
set_option maxHeartbeats 4000000 in
set_option maxRecDepth 100000 in
theorem metX5_rotateLeft (l : Launch) (x d : Int32) : Met l yX5_rotateLeft (ws_ yX5_rotateLeft cX5_rotateLeft 2 (some .int)) ({ frames := 1, cells := 0, slots := 0, locals := 60 } : Room) (va_Pc [.int x, .int d] (fun _ => True)) (vp_Si (fun r : Int32 => r = rol x d)) 0 0 (fun _ => False) := by
  refine Met.ofW (cc := cX5_rotateLeft) (maxL := 2) (ret := (some .int)) (by decide) rfl ?_
  intro p e s m args below meth c s₁ B hml hv
  obtain ⟨rfl, -⟩ := hv
  have hx := B.exec
  have hb := B.bytes
  have hr := B.returns
  have hts := atoms_spec (ws := ws_ yX5_rotateLeft cX5_rotateLeft 2 (some .int)) B.pre
  have hts : ∀ w ∈ lw_all, w.before _ s = true := fun w h => hts w (List.mem_cons_of_mem _ h)
  have hown : s.vm.findClass RX5 = some m.cls := findClass_of_methodNamed B.named
  have hlocks := B.notSynchronized
  have hl := lv_entry ([.int x, .int d]) (n := 2) (Nat.le_of_ble_eq_true rfl)
  rw [lg_entry_eq]
  generalize (lg_sl ([.int x, .int d]) ++ List.replicate (2 - (lg_sl ([.int x, .int d])).length) Slot.unset).toArray = ls at hl ⊢
  have hl : lv_has ls 2 [(0, .int x), (1, .int d)] := hl
  refine lv_iload_n hx hb dX5_rotateLeft_0 rfl (lv_at hl 0 rfl) ?_
  refine lv_iload_n hx hb dX5_rotateLeft_1 rfl (lv_at hl 1 rfl) ?_
  refine vp_callSi (va_Run.run (va_runS (As := [.int x, .int d]) (rest := []) ⟨hx, hb, hml, hown, hts⟩ (metJ4_rotateLeft l x d) (va_cwS 2 hts (lw_S q193 q194 q18 q195) rfl rfl rfl (by decide +kernel) ⟨Nat.le_of_ble_eq_true rfl, Nat.le_of_ble_eq_true rfl⟩) ⟨fun _ _ _ _ h => h, fun _ _ _ => ⟨rfl, trivial⟩⟩ rfl rfl hl.1 rfl (lv_room (Nat.le_of_ble_eq_true rfl)) dX5_rotateLeft_2 ⟨Nat.le_of_ble_eq_true rfl, Nat.le_of_ble_eq_true rfl⟩)) (fun r9 (e9 : r9 = rol x d) => ?_)
  subst e9
  exact W.iret (v := rol x d) hx hb hr (fun t ht hW => ⟨_, rfl, rfl, ht⟩) (fun q hq => by cases hq) dX5_rotateLeft_5
set_option maxHeartbeats 4000000 in
set_option maxRecDepth 100000 in
theorem metX1_spread (l : Launch) (x : Int32) : Met l yX1_spread (ws_ yX1_spread cX1_spread 1 (some .int)) ({ frames := 1, cells := 0, slots := 0, locals := 60 } : Room) (va_Pc [.int x] (fun _ => True)) (vp_Si (fun r : Int32 => r = spm x)) 0 0 (fun _ => False) := by
  refine Met.ofW (cc := cX1_spread) (maxL := 1) (ret := (some .int)) (by decide) rfl ?_
  intro p e s m args below meth c s₁ B hml hv
  obtain ⟨rfl, -⟩ := hv
  have hx := B.exec
  have hb := B.bytes
  have hr := B.returns
  have hts := atoms_spec (ws := ws_ yX1_spread cX1_spread 1 (some .int)) B.pre
  have hts : ∀ w ∈ lw_all, w.before _ s = true := fun w h => hts w (List.mem_cons_of_mem _ h)
  have hown : s.vm.findClass RX1 = some m.cls := findClass_of_methodNamed B.named
  have hlocks := B.notSynchronized
  have hl := lv_entry ([.int x]) (n := 1) (Nat.le_of_ble_eq_true rfl)
  rw [lg_entry_eq]
  generalize (lg_sl ([.int x]) ++ List.replicate (1 - (lg_sl ([.int x])).length) Slot.unset).toArray = ls at hl ⊢
  have hl : lv_has ls 1 [(0, .int x)] := hl
  refine lv_iload_n hx hb dX1_spread_0 rfl (lv_at hl 0 rfl) ?_
  refine lv_iload_n hx hb dX1_spread_1 rfl (lv_at hl 0 rfl) ?_
  refine lv_bipush (v := 8) hx hb dX1_spread_2 (by decide) ?_
  refine vp_callSi (va_Run.run (va_runS (As := [.int x, .int 8]) (rest := [.int x]) ⟨hx, hb, hml, hown, hts⟩ (metX1_turned l x 8) (va_cwS 2 hts (lw_S q333 q334 q8 q335) rfl rfl rfl (by decide +kernel) ⟨Nat.le_of_ble_eq_true rfl, Nat.le_of_ble_eq_true rfl⟩) ⟨fun _ _ _ _ h => h, fun _ _ _ => ⟨rfl, trivial⟩⟩ rfl rfl hl.1 rfl (lv_room (Nat.le_of_ble_eq_true rfl)) dX1_spread_4 ⟨Nat.le_of_ble_eq_true rfl, Nat.le_of_ble_eq_true rfl⟩)) (fun r9 (e9 : r9 = trn x 8) => ?_)
  subst e9
  refine lv_ixor hx hb dX1_spread_7 ?_
  refine lv_iload_n hx hb dX1_spread_8 rfl (lv_at hl 0 rfl) ?_
  refine lv_bipush (v := 24) hx hb dX1_spread_9 (by decide) ?_
  refine vp_callSi (va_Run.run (va_runS (As := [.int x, .int 24]) (rest := [.int (x ^^^ (trn x 8))]) ⟨hx, hb, hml, hown, hts⟩ (metX1_turned l x 24) (va_cwS 2 hts (lw_S q333 q334 q8 q335) rfl rfl rfl (by decide +kernel) ⟨Nat.le_of_ble_eq_true rfl, Nat.le_of_ble_eq_true rfl⟩) ⟨fun _ _ _ _ h => h, fun _ _ _ => ⟨rfl, trivial⟩⟩ rfl rfl hl.1 rfl (lv_room (Nat.le_of_ble_eq_true rfl)) dX1_spread_11 ⟨Nat.le_of_ble_eq_true rfl, Nat.le_of_ble_eq_true rfl⟩)) (fun r9 (e9 : r9 = trn x 24) => ?_)
  subst e9
  refine lv_ixor hx hb dX1_spread_14 ?_
  refine lv_asi (y := spm x) rfl ?_
  exact W.iret (v := spm x) hx hb hr (fun t ht hW => ⟨_, rfl, rfl, ht⟩) (fun q hq => by cases hq) dX1_spread_15
set_option maxHeartbeats 4000000 in
set_option maxRecDepth 100000 in
theorem metX0_size (l : Launch) (x : Int32) : Met l yX0_size (ws_ yX0_size cX0_size 1 (some .int)) ({ frames := 0, cells := 0, slots := 0, locals := 0 } : Room) (va_Pc [.int x] (fun _ => True)) (vp_Si (fun r : Int32 => r = 16)) 0 0 (fun _ => False) := by
  refine Met.ofW (cc := cX0_size) (maxL := 1) (ret := (some .int)) (by decide) rfl ?_
  intro p e s m args below meth c s₁ B hml hv
  obtain ⟨rfl, -⟩ := hv
  have hx := B.exec
  have hb := B.bytes
  have hr := B.returns
  have hts := atoms_spec (ws := ws_ yX0_size cX0_size 1 (some .int)) B.pre
  have hts : ∀ w ∈ lw_all, w.before _ s = true := fun w h => hts w (List.mem_cons_of_mem _ h)
  have hown : s.vm.findClass RX0 = some m.cls := findClass_of_methodNamed B.named
  have hlocks := B.notSynchronized
  have hl := lv_entry ([.int x]) (n := 1) (Nat.le_of_ble_eq_true rfl)
  rw [lg_entry_eq]
  generalize (lg_sl ([.int x]) ++ List.replicate (1 - (lg_sl ([.int x])).length) Slot.unset).toArray = ls at hl ⊢
  have hl : lv_has ls 1 [(0, .int x)] := hl
  refine lv_bipush (v := 16) hx hb dX0_size_0 (by decide) ?_
  exact W.iret (v := 16) hx hb hr (fun t ht hW => ⟨_, rfl, rfl, ht⟩) (fun q hq => by cases hq) dX0_size_2
theorem coM_lt {i : Nat} (h : coM i < 128) : 2 * coM i = coM (i + 1) := by
  show _ = if 128 ≤ coM i then (2 * coM i) ^^^ 283 else 2 * coM i
  rw [if_neg (Int32.not_le.mpr h)]
theorem coM_ge {i : Nat} (h : ¬ coM i < 128) : (2 * coM i) ^^^ 283 = coM (i + 1) := by
  show _ = if 128 ≤ coM i then (2 * coM i) ^^^ 283 else 2 * coM i
  rw [if_pos (Int32.not_lt.mp h)]
set_option maxHeartbeats 4000000 in
set_option maxRecDepth 100000 in
theorem metX1_constant (l : Launch) (n : Nat) (hn : n ≤ 16) : Met l yX1_constant (ws_ yX1_constant cX1_constant 3 (some .int)) ({ frames := 0, cells := 0, slots := 0, locals := 0 } : Room) (va_Pc [.int (nI n)] (fun _ => True)) (vp_Si (fun r : Int32 => r = coM n)) 0 0 (fun _ => False) := by
  refine Met.ofW (cc := cX1_constant) (maxL := 3) (ret := (some .int)) (by decide) rfl ?_
  intro p e s m args below meth c s₁ B hml hv
  obtain ⟨rfl, -⟩ := hv
  have hx := B.exec
  have hb := B.bytes
  have hr := B.returns
  have hts := atoms_spec (ws := ws_ yX1_constant cX1_constant 3 (some .int)) B.pre
  have hts : ∀ w ∈ lw_all, w.before _ s = true := fun w h => hts w (List.mem_cons_of_mem _ h)
  have hown : s.vm.findClass RX1 = some m.cls := findClass_of_methodNamed B.named
  have hlocks := B.notSynchronized
  have hl := lv_entry ([.int (nI n)]) (n := 3) (Nat.le_of_ble_eq_true rfl)
  rw [lg_entry_eq]
  generalize (lg_sl ([.int (nI n)]) ++ List.replicate (3 - (lg_sl ([.int (nI n)])).length) Slot.unset).toArray = ls at hl ⊢
  have hl : lv_has ls 3 [(0, .int (nI n))] := hl
  refine lv_sipush (v := 128) hx hb dX1_constant_0 (by decide) ?_
  refine lv_istore_n (lv' := [(1, .int 128), (0, .int (nI n))]) hx hb dX1_constant_3 rfl hl (by decide) rfl (fun ls hl => ?_)
  refine lv_iconst (v := 0) hx hb dX1_constant_4 (by decide) ?_
  refine lv_istore_n (lv' := [(2, .int 0), (1, .int 128), (0, .int (nI n))]) hx hb dX1_constant_5 rfl hl (by decide) rfl (fun ls hl => ?_)
  have loop : ∀ (d i : Nat), i + d = n → ∀ (ls : Array Slot), lv_has ls 3 [(2, .int (nI i)), (1, .int (coM i)), (0, .int (nI n))] → W p l e (headSpec (ws_ yX1_constant cX1_constant 3 (some .int)) ({ frames := 0, cells := 0, slots := 0, locals := 0 } : Room)).room s m ([.int (nI n)] : List Value).toArray below meth c s.heap [] 0 0 (MQ below (vp_Si (fun r : Int32 => r = coM n)) ([.int (nI n)] : List Value).toArray s 0 0 (fun _ => False)) (F0 m 6 ls []) := by
    intro d
    induction d with
    | zero =>
      intro i hi ls hl
      have hin : i = n := by omega
      subst hin
      refine lv_iload_n hx hb dX1_constant_6 rfl (lv_at hl 0 rfl) ?_
      refine lv_iload_n hx hb dX1_constant_7 rfl (lv_at hl 2 rfl) ?_
      refine lv_icmp_ge (tgt := 38) hx hb dX1_constant_8 (by decide) (fun _ => ?_) (fun c9 => absurd (nI_le (Nat.le_refl i) (by omega)) c9)
      refine lv_iload_n hx hb dX1_constant_38 rfl (lv_at hl 1 rfl) ?_
      exact W.iret (v := coM i) hx hb hr (fun t ht hW => ⟨_, rfl, rfl, ht⟩) (fun q hq => by cases hq) dX1_constant_39
    | succ d ih =>
      intro i hi ls hl
      refine lv_iload_n hx hb dX1_constant_6 rfl (lv_at hl 0 rfl) ?_
      refine lv_iload_n hx hb dX1_constant_7 rfl (lv_at hl 2 rfl) ?_
      refine lv_icmp_ge (tgt := 38) hx hb dX1_constant_8 (by decide) (fun c9 => absurd c9 (nI_ge (show i < n by omega) (by omega))) (fun _ => ?_)
      refine lv_iload_n hx hb dX1_constant_11 rfl (lv_at hl 1 rfl) ?_
      refine lv_sipush (v := 128) hx hb dX1_constant_12 (by decide) ?_
      refine lv_icmp_lt (tgt := 28) hx hb dX1_constant_15 (by decide) (fun c1 => ?_) (fun c1 => ?_)
      · refine lv_iconst (v := 2) hx hb dX1_constant_28 (by decide) ?_
        refine lv_iload_n hx hb dX1_constant_29 rfl (lv_at hl 1 rfl) ?_
        refine lv_imul hx hb dX1_constant_30 ?_
        refine lv_asi (y := coM (i + 1)) (coM_lt c1) ?_
        refine lv_istore_n (lv' := [(1, .int (coM (i + 1))), (2, .int (nI i)), (0, .int (nI n))]) hx hb dX1_constant_31 rfl hl (by decide) rfl (fun ls hl => ?_)
        refine lv_iinc (v := nI (i + 1)) (lv' := [(2, .int (nI (i + 1))), (1, .int (coM (i + 1))), (0, .int (nI n))]) hx hb dX1_constant_32 hl (k := 1) rfl (nI_add _ 1) (by decide) rfl (fun ls hl => ?_)
        refine lv_goto (tgt := 6) hx hb dX1_constant_35 (by decide) ?_
        exact ih (i + 1) (by omega) ls (lv_sub hl [0, 1, 2] rfl)
      · refine lv_iconst (v := 2) hx hb dX1_constant_18 (by decide) ?_
        refine lv_iload_n hx hb dX1_constant_19 rfl (lv_at hl 1 rfl) ?_
        refine lv_imul hx hb dX1_constant_20 ?_
        refine lv_sipush (v := 283) hx hb dX1_constant_21 (by decide) ?_
        refine lv_ixor hx hb dX1_constant_24 ?_
        refine lv_goto (tgt := 31) hx hb dX1_constant_25 (by decide) ?_
        refine lv_asi (y := coM (i + 1)) (coM_ge c1) ?_
        refine lv_istore_n (lv' := [(1, .int (coM (i + 1))), (2, .int (nI i)), (0, .int (nI n))]) hx hb dX1_constant_31 rfl hl (by decide) rfl (fun ls hl => ?_)
        refine lv_iinc (v := nI (i + 1)) (lv' := [(2, .int (nI (i + 1))), (1, .int (coM (i + 1))), (0, .int (nI n))]) hx hb dX1_constant_32 hl (k := 1) rfl (nI_add _ 1) (by decide) rfl (fun ls hl => ?_)
        refine lv_goto (tgt := 6) hx hb dX1_constant_35 (by decide) ?_
        exact ih (i + 1) (by omega) ls (lv_sub hl [0, 1, 2] rfl)
  exact loop n 0 (by omega) ls (lv_sub hl [0, 1, 2] rfl)
end
section
set_option maxHeartbeats 4000000 in
set_option maxRecDepth 100000 in
theorem metX4_bigEndianToInt_2 (l : Launch) (D : va_G) (cB cI : ClassId) (sz : Nat) (h0 : Nat) (f : Nat → Int32) (o : Nat) (ho : o + 3 < 16) : Met l yX4_bigEndianToInt_2 (ws_ yX4_bigEndianToInt_2 cX4_bigEndianToInt_2 3 (some .int)) ({ frames := 0, cells := 0, slots := 0, locals := 0 } : Room) (PreE D cB cI [.ref h0, .int (nI o)] sz [(h0, .inl (cB, 16, .inl f))]) (vp_Si (fun r : Int32 => r = beI f o)) 0 0 (fun _ => False) := by
  refine Met.ofW (cc := cX4_bigEndianToInt_2) (maxL := 3) (ret := (some .int)) (by decide) rfl ?_
  intro p e s m args below meth c s₁ B hml hv
  obtain ⟨rfl, hsz, hP, hD0, hE⟩ := hv
  have hx := B.exec
  have hb := B.bytes
  have hr := B.returns
  have hts := atoms_spec (ws := ws_ yX4_bigEndianToInt_2 cX4_bigEndianToInt_2 3 (some .int)) B.pre
  have hts : ∀ w ∈ lw_all, w.before _ s = true := fun w h => hts w (List.mem_cons_of_mem _ h)
  have hown : s.vm.findClass RX4 = some m.cls := findClass_of_methodNamed B.named
  have hlocks := B.notSynchronized
  subst hsz
  have hD := hD0.self (sz := s.heap.size)
  generalize hAe : va_A [(h0, .inl (cB, 16, .inl f))] s.heap.size = A at hD hE ⊢
  have hA : ∀ q : Nat, s.heap.size ≤ q → A q := fun q h => by rw [← hAe]; exact Or.inr h
  have hS : va_S A s.heap s.heap [] := va_S.rf
  have hK := hE.1
  have hP : va_P D vwCl [(h0, .inl (cB, 16, .inl f))] s.heap := hP
  have hl := lv_entry ([.ref h0, .int (nI o)]) (n := 3) (Nat.le_of_ble_eq_true rfl)
  rw [lg_entry_eq]
  generalize (lg_sl ([.ref h0, .int (nI o)]) ++ List.replicate (3 - (lg_sl ([.ref h0, .int (nI o)])).length) Slot.unset).toArray = ls at hl ⊢
  have hl : lv_has ls 3 [(0, .ref h0), (1, .int (nI o))] := hl
  refine lv_aload_n hx hb dX4_bigEndianToInt_2_0 rfl (lv_at hl 0 rfl) ?_
  refine lv_iload_n hx hb dX4_bigEndianToInt_2_1 rfl (lv_at hl 1 rfl) ?_
  refine k_bald (v := f o) hx hb hK hP 0 rfl o rfl (by omega) (Nat.le_of_ble_eq_true rfl) rfl dX4_bigEndianToInt_2_2 ?_
  refine lv_bipush (v := 24) hx hb dX4_bigEndianToInt_2_3 (by decide) ?_
  refine lv_ishl hx hb dX4_bigEndianToInt_2_5 ?_
  refine lv_istore_n (lv' := [(2, .int ((f o) <<< ((24 : Int32) &&& 31))), (0, .ref h0), (1, .int (nI o))]) hx hb dX4_bigEndianToInt_2_6 rfl hl (by decide) rfl (fun ls hl => ?_)
  refine lv_iload_n hx hb dX4_bigEndianToInt_2_7 rfl (lv_at hl 0 rfl) ?_
  refine lv_aload_n hx hb dX4_bigEndianToInt_2_8 rfl (lv_at hl 1 rfl) ?_
  refine lv_iinc (v := nI (o + 1)) (lv' := [(1, .int (nI (o + 1))), (2, .int ((f o) <<< ((24 : Int32) &&& 31))), (0, .ref h0)]) hx hb dX4_bigEndianToInt_2_9 hl (k := 2) rfl (nI_add _ 1) (by decide) rfl (fun ls hl => ?_)
  refine lv_iload_n hx hb dX4_bigEndianToInt_2_12 rfl (lv_at hl 0 rfl) ?_
  refine k_bald (v := f (o + 1)) hx hb hK hP 0 rfl (o + 1) rfl (by omega) (Nat.le_of_ble_eq_true rfl) rfl dX4_bigEndianToInt_2_13 ?_
  refine lv_sipush (v := 255) hx hb dX4_bigEndianToInt_2_14 (by decide) ?_
  refine lv_iand hx hb dX4_bigEndianToInt_2_17 ?_
  refine lv_bipush (v := 16) hx hb dX4_bigEndianToInt_2_18 (by decide) ?_
  refine lv_ishl hx hb dX4_bigEndianToInt_2_20 ?_
  refine lv_ior hx hb dX4_bigEndianToInt_2_21 ?_
  refine lv_istore_n (lv' := [(2, .int (((f o) <<< ((24 : Int32) &&& 31)) ||| (((f (o + 1)) &&& 255) <<< ((16 : Int32) &&& 31)))), (1, .int (nI (o + 1))), (0, .ref h0)]) hx hb dX4_bigEndianToInt_2_22 rfl hl (by decide) rfl (fun ls hl => ?_)
  refine lv_iload_n hx hb dX4_bigEndianToInt_2_23 rfl (lv_at hl 0 rfl) ?_
  refine lv_aload_n hx hb dX4_bigEndianToInt_2_24 rfl (lv_at hl 2 rfl) ?_
  refine lv_iinc (v := nI (o + 2)) (lv' := [(1, .int (nI (o + 2))), (2, .int (((f o) <<< ((24 : Int32) &&& 31)) ||| (((f (o + 1)) &&& 255) <<< ((16 : Int32) &&& 31)))), (0, .ref h0)]) hx hb dX4_bigEndianToInt_2_25 hl (k := 1) rfl (nI_add _ 1) (by decide) rfl (fun ls hl => ?_)
  refine lv_iload_n hx hb dX4_bigEndianToInt_2_28 rfl (lv_at hl 0 rfl) ?_
  refine k_bald (v := f (o + 2)) hx hb hK hP 0 rfl (o + 2) rfl (by omega) (Nat.le_of_ble_eq_true rfl) rfl dX4_bigEndianToInt_2_29 ?_
  refine lv_sipush (v := 255) hx hb dX4_bigEndianToInt_2_30 (by decide) ?_
  refine lv_iand hx hb dX4_bigEndianToInt_2_33 ?_
  refine lv_bipush (v := 8) hx hb dX4_bigEndianToInt_2_34 (by decide) ?_
  refine lv_ishl hx hb dX4_bigEndianToInt_2_36 ?_
  refine lv_ior hx hb dX4_bigEndianToInt_2_37 ?_
  refine lv_istore_n (lv' := [(2, .int ((((f o) <<< ((24 : Int32) &&& 31)) ||| (((f (o + 1)) &&& 255) <<< ((16 : Int32) &&& 31))) ||| (((f (o + 2)) &&& 255) <<< ((8 : Int32) &&& 31)))), (1, .int (nI (o + 2))), (0, .ref h0)]) hx hb dX4_bigEndianToInt_2_38 rfl hl (by decide) rfl (fun ls hl => ?_)
  refine lv_iload_n hx hb dX4_bigEndianToInt_2_39 rfl (lv_at hl 0 rfl) ?_
  refine lv_aload_n hx hb dX4_bigEndianToInt_2_40 rfl (lv_at hl 2 rfl) ?_
  refine lv_iinc (v := nI (o + 3)) (lv' := [(1, .int (nI (o + 3))), (2, .int ((((f o) <<< ((24 : Int32) &&& 31)) ||| (((f (o + 1)) &&& 255) <<< ((16 : Int32) &&& 31))) ||| (((f (o + 2)) &&& 255) <<< ((8 : Int32) &&& 31)))), (0, .ref h0)]) hx hb dX4_bigEndianToInt_2_41 hl (k := 1) rfl (nI_add _ 1) (by decide) rfl (fun ls hl => ?_)
  refine lv_iload_n hx hb dX4_bigEndianToInt_2_44 rfl (lv_at hl 0 rfl) ?_
  refine k_bald (v := f (o + 3)) hx hb hK hP 0 rfl (o + 3) rfl (by omega) (Nat.le_of_ble_eq_true rfl) rfl dX4_bigEndianToInt_2_45 ?_
  refine lv_sipush (v := 255) hx hb dX4_bigEndianToInt_2_46 (by decide) ?_
  refine lv_iand hx hb dX4_bigEndianToInt_2_49 ?_
  refine lv_ior hx hb dX4_bigEndianToInt_2_50 ?_
  refine lv_istore_n (lv' := [(2, .int (((((f o) <<< ((24 : Int32) &&& 31)) ||| (((f (o + 1)) &&& 255) <<< ((16 : Int32) &&& 31))) ||| (((f (o + 2)) &&& 255) <<< ((8 : Int32) &&& 31))) ||| ((f (o + 3)) &&& 255))), (1, .int (nI (o + 3))), (0, .ref h0)]) hx hb dX4_bigEndianToInt_2_51 rfl hl (by decide) rfl (fun ls hl => ?_)
  refine lv_iload_n hx hb dX4_bigEndianToInt_2_52 rfl (lv_at hl 0 rfl) ?_
  refine lv_asi (y := beI f o) rfl ?_
  exact W.iret (v := beI f o) hx hb hr (fun t ht hW => ⟨_, rfl, rfl, ht⟩) (fun q hq => by cases hq) dX4_bigEndianToInt_2_53
set_option maxHeartbeats 4000000 in
set_option maxRecDepth 100000 in
theorem metX4_intToBigEndian (l : Launch) (D : va_G) (cB cI : ClassId) (sz : Nat) (h0 : Nat) (f : Nat → Int32) (o : Nat) (w : Int32) (ho : o + 3 < 16) : Met l yX4_intToBigEndian (ws_ yX4_intToBigEndian cX4_intToBigEndian 3 none) ({ frames := 0, cells := 0, slots := 0, locals := 0 } : Room) (PreE D cB cI [.int w, .ref h0, .int (nI o)] sz [(h0, .inl (cB, 16, .inl f))]) (PostV D (va_A [(h0, .inl (cB, 16, .inl f))] sz) (fun _ : Unit => [(h0, .inl (cB, 16, .inl (itb f o w)))])) 0 0 (va_A [(h0, .inl (cB, 16, .inl f))] sz) := by
  refine Met.ofW (cc := cX4_intToBigEndian) (maxL := 3) (ret := none) (by decide) rfl ?_
  intro p e s m args below meth c s₁ B hml hv
  obtain ⟨rfl, hsz, hP, hD0, hE⟩ := hv
  have hx := B.exec
  have hb := B.bytes
  have hr := B.returns
  have hts := atoms_spec (ws := ws_ yX4_intToBigEndian cX4_intToBigEndian 3 none) B.pre
  have hts : ∀ w ∈ lw_all, w.before _ s = true := fun w h => hts w (List.mem_cons_of_mem _ h)
  have hown : s.vm.findClass RX4 = some m.cls := findClass_of_methodNamed B.named
  have hlocks := B.notSynchronized
  subst hsz
  have hD := hD0.self (sz := s.heap.size)
  generalize hAe : va_A [(h0, .inl (cB, 16, .inl f))] s.heap.size = A at hD hE ⊢
  have hA : ∀ q : Nat, s.heap.size ≤ q → A q := fun q h => by rw [← hAe]; exact Or.inr h
  have hS : va_S A s.heap s.heap [] := va_S.rf
  have hK := hE.1
  have hP : va_P D vwCl [(h0, .inl (cB, 16, .inl f))] s.heap := hP
  have hl := lv_entry ([.int w, .ref h0, .int (nI o)]) (n := 3) (Nat.le_of_ble_eq_true rfl)
  rw [lg_entry_eq]
  generalize (lg_sl ([.int w, .ref h0, .int (nI o)]) ++ List.replicate (3 - (lg_sl ([.int w, .ref h0, .int (nI o)])).length) Slot.unset).toArray = ls at hl ⊢
  have hl : lv_has ls 3 [(0, .int w), (1, .ref h0), (2, .int (nI o))] := hl
  refine lv_aload_n hx hb dX4_intToBigEndian_0 rfl (lv_at hl 1 rfl) ?_
  refine lv_iload_n hx hb dX4_intToBigEndian_1 rfl (lv_at hl 2 rfl) ?_
  refine lv_iload_n hx hb dX4_intToBigEndian_2 rfl (lv_at hl 0 rfl) ?_
  refine lv_bipush (v := 24) hx hb dX4_intToBigEndian_3 (by decide) ?_
  refine lv_iushr (v := ush w 24) hx hb dX4_intToBigEndian_5 rfl ?_
  refine lv_i2b (v := (ush w 24).toInt8.toInt32) hx hb dX4_intToBigEndian_6 rfl ?_
  refine k_bast (f' := upd f o (vp_nar .byte ((ush w 24).toInt8.toInt32))) (w2 := [(h0, .inl (cB, 16, .inl (upd f o (vp_nar .byte ((ush w 24).toInt8.toInt32)))))]) hx hb hK hP hD hS 0 rfl o rfl (by omega) (Nat.le_of_ble_eq_true rfl) rfl dX4_intToBigEndian_7 rfl (fun H locs hP hD hS => ?_)
  refine lv_aload_n hx hb dX4_intToBigEndian_8 rfl (lv_at hl 1 rfl) ?_
  refine lv_iinc (v := nI (o + 1)) (lv' := [(2, .int (nI (o + 1))), (0, .int w), (1, .ref h0)]) hx hb dX4_intToBigEndian_9 hl (k := 2) rfl (nI_add _ 1) (by decide) rfl (fun ls hl => ?_)
  refine lv_iload_n hx hb dX4_intToBigEndian_12 rfl (lv_at hl 0 rfl) ?_
  refine lv_iload_n hx hb dX4_intToBigEndian_13 rfl (lv_at hl 1 rfl) ?_
  refine lv_bipush (v := 16) hx hb dX4_intToBigEndian_14 (by decide) ?_
  refine lv_iushr (v := ush w 16) hx hb dX4_intToBigEndian_16 rfl ?_
  refine lv_i2b (v := (ush w 16).toInt8.toInt32) hx hb dX4_intToBigEndian_17 rfl ?_
  refine k_bast (f' := upd (upd f o (vp_nar .byte ((ush w 24).toInt8.toInt32))) (o + 1) (vp_nar .byte ((ush w 16).toInt8.toInt32))) (w2 := [(h0, .inl (cB, 16, .inl (upd (upd f o (vp_nar .byte ((ush w 24).toInt8.toInt32))) (o + 1) (vp_nar .byte ((ush w 16).toInt8.toInt32)))))]) hx hb hK hP hD hS 0 rfl (o + 1) rfl (by omega) (Nat.le_of_ble_eq_true rfl) rfl dX4_intToBigEndian_18 rfl (fun H locs hP hD hS => ?_)
  refine lv_aload_n hx hb dX4_intToBigEndian_19 rfl (lv_at hl 2 rfl) ?_
  refine lv_iinc (v := nI (o + 2)) (lv' := [(2, .int (nI (o + 2))), (0, .int w), (1, .ref h0)]) hx hb dX4_intToBigEndian_20 hl (k := 0) rfl (nI_add _ 1) (by decide) rfl (fun ls hl => ?_)
  refine lv_iload_n hx hb dX4_intToBigEndian_23 rfl (lv_at hl 0 rfl) ?_
  refine lv_iload_n hx hb dX4_intToBigEndian_24 rfl (lv_at hl 1 rfl) ?_
  refine lv_bipush (v := 8) hx hb dX4_intToBigEndian_25 (by decide) ?_
  refine lv_iushr (v := ush w 8) hx hb dX4_intToBigEndian_27 rfl ?_
  refine lv_i2b (v := (ush w 8).toInt8.toInt32) hx hb dX4_intToBigEndian_28 rfl ?_
  refine k_bast (f' := upd (upd (upd f o (vp_nar .byte ((ush w 24).toInt8.toInt32))) (o + 1) (vp_nar .byte ((ush w 16).toInt8.toInt32))) (o + 2) (vp_nar .byte ((ush w 8).toInt8.toInt32))) (w2 := [(h0, .inl (cB, 16, .inl (upd (upd (upd f o (vp_nar .byte ((ush w 24).toInt8.toInt32))) (o + 1) (vp_nar .byte ((ush w 16).toInt8.toInt32))) (o + 2) (vp_nar .byte ((ush w 8).toInt8.toInt32)))))]) hx hb hK hP hD hS 0 rfl (o + 2) rfl (by omega) (Nat.le_of_ble_eq_true rfl) rfl dX4_intToBigEndian_29 rfl (fun H locs hP hD hS => ?_)
  refine lv_aload_n hx hb dX4_intToBigEndian_30 rfl (lv_at hl 2 rfl) ?_
  refine lv_iinc (v := nI (o + 3)) (lv' := [(2, .int (nI (o + 3))), (0, .int w), (1, .ref h0)]) hx hb dX4_intToBigEndian_31 hl (k := 0) rfl (nI_add _ 1) (by decide) rfl (fun ls hl => ?_)
  refine lv_iload_n hx hb dX4_intToBigEndian_34 rfl (lv_at hl 0 rfl) ?_
  refine lv_iload_n hx hb dX4_intToBigEndian_35 rfl (lv_at hl 1 rfl) ?_
  refine lv_i2b (v := w.toInt8.toInt32) hx hb dX4_intToBigEndian_36 rfl ?_
  refine k_bast (f' := itb f o w) (w2 := [(h0, .inl (cB, 16, .inl (itb f o w)))]) hx hb hK hP hD hS 0 rfl (o + 3) rfl (by omega) (Nat.le_of_ble_eq_true rfl) rfl dX4_intToBigEndian_37 rfl (fun H locs hP hD hS => ?_)
  exact W.vret hx hb hr (fun t ht hW => ⟨⟨(), rfl, trivial, by rw [ht]; exact hP, hD⟩, hS.F ht⟩) hS.2.2 dX4_intToBigEndian_38
set_option maxHeartbeats 4000000 in
set_option maxRecDepth 100000 in
theorem metX4_bigEndianToInt (l : Launch) (D : va_G) (cB cI : ClassId) (sz : Nat) (h0 h1 : Nat) (f : Nat → Int32) : Met l yX4_bigEndianToInt (ws_ yX4_bigEndianToInt cX4_bigEndianToInt 6 none) ({ frames := 1, cells := 0, slots := 0, locals := 60 } : Room) (PreE D cB cI [.ref h0, .int 0, .ref h1, .int 0, .int 4] sz [(h0, .inl (cB, 16, .inl f)), (h1, .inl (cI, 4, .inl (qf (0, 0, 0, 0))))]) (PostV D (va_A [(h0, .inl (cB, 16, .inl f)), (h1, .inl (cI, 4, .inl (qf (0, 0, 0, 0))))] sz) (fun _ : Unit => [(h0, .inl (cB, 16, .inl f)), (h1, .inl (cI, 4, .inl (qf (beQ f))))])) 0 0 (va_A [(h0, .inl (cB, 16, .inl f)), (h1, .inl (cI, 4, .inl (qf (0, 0, 0, 0))))] sz) := by
  refine Met.ofW (cc := cX4_bigEndianToInt) (maxL := 6) (ret := none) (by decide) rfl ?_
  intro p e s m args below meth c s₁ B hml hv
  obtain ⟨rfl, hsz, hP, hD0, hE⟩ := hv
  have hx := B.exec
  have hb := B.bytes
  have hr := B.returns
  have hts := atoms_spec (ws := ws_ yX4_bigEndianToInt cX4_bigEndianToInt 6 none) B.pre
  have hts : ∀ w ∈ lw_all, w.before _ s = true := fun w h => hts w (List.mem_cons_of_mem _ h)
  have hown : s.vm.findClass RX4 = some m.cls := findClass_of_methodNamed B.named
  have hlocks := B.notSynchronized
  subst hsz
  have hD := hD0.self (sz := s.heap.size)
  generalize hAe : va_A [(h0, .inl (cB, 16, .inl f)), (h1, .inl (cI, 4, .inl (qf (0, 0, 0, 0))))] s.heap.size = A at hD hE ⊢
  have hA : ∀ q : Nat, s.heap.size ≤ q → A q := fun q h => by rw [← hAe]; exact Or.inr h
  have hS : va_S A s.heap s.heap [] := va_S.rf
  have hK := hE.1
  have hP : va_P D vwCl [(h0, .inl (cB, 16, .inl f)), (h1, .inl (cI, 4, .inl (qf (0, 0, 0, 0))))] s.heap := hP
  have hl := lv_entry ([.ref h0, .int 0, .ref h1, .int 0, .int 4]) (n := 6) (Nat.le_of_ble_eq_true rfl)
  rw [lg_entry_eq]
  generalize (lg_sl ([.ref h0, .int 0, .ref h1, .int 0, .int 4]) ++ List.replicate (6 - (lg_sl ([.ref h0, .int 0, .ref h1, .int 0, .int 4])).length) Slot.unset).toArray = ls at hl ⊢
  have hl : lv_has ls 6 [(0, .ref h0), (1, .int 0), (2, .ref h1), (3, .int 0), (4, .int 4)] := hl
  refine lv_iconst (v := 0) hx hb dX4_bigEndianToInt_0 (by decide) ?_
  refine lv_istore (lv' := [(5, .int 0), (0, .ref h0), (1, .int 0), (2, .ref h1), (3, .int 0), (4, .int 4)]) hx hb dX4_bigEndianToInt_1 hl (by decide) rfl (fun ls hl => ?_)
  refine lv_iload hx hb dX4_bigEndianToInt_3 (lv_at hl 0 rfl) ?_
  refine lv_iload hx hb dX4_bigEndianToInt_5 (lv_at hl 5 rfl) ?_
  refine lv_icmp_ge (tgt := 30) hx hb dX4_bigEndianToInt_7 (by decide) (fun c9 => False.elim (by revert c9; decide)) (fun _ => ?_)
  refine lv_aload_n hx hb dX4_bigEndianToInt_10 rfl (lv_at hl 3 rfl) ?_
  refine lv_iload_n hx hb dX4_bigEndianToInt_11 rfl (lv_at hl 4 rfl) ?_
  refine lv_iload hx hb dX4_bigEndianToInt_12 (lv_at hl 0 rfl) ?_
  refine lv_iadd hx hb dX4_bigEndianToInt_14 ?_
  refine lv_asi (y := 0) (by decide) ?_
  refine lv_aload_n hx hb dX4_bigEndianToInt_15 rfl (lv_at hl 1 rfl) ?_
  refine lv_iload_n hx hb dX4_bigEndianToInt_16 rfl (lv_at hl 2 rfl) ?_
  refine lv_asi (y := nI 0) rfl ?_
  refine vp_callSi (va_Run.run (va_runS (As := [.ref h0, .int (nI 0)]) (rest := [.int 0, .ref h1]) ⟨hx, hb, hml, hown, hts⟩ (metX4_bigEndianToInt_2 l D cB cI s.heap.size h0 f 0 (Nat.le_of_ble_eq_true rfl)) (va_cwS 2 hts (lw_S q187 q188 q16 q189) rfl rfl rfl (by decide +kernel) ⟨Nat.le_of_ble_eq_true rfl, Nat.le_of_ble_eq_true rfl⟩) ⟨PreE.blind, preE hE hP hD hS hA [0] rfl rfl⟩ rfl rfl hl.1 rfl (lv_room (Nat.le_of_ble_eq_true rfl)) dX4_bigEndianToInt_17 ⟨Nat.le_of_ble_eq_true rfl, Nat.le_of_ble_eq_true rfl⟩)) (fun r9 (e9 : r9 = beI f 0) => ?_)
  subst e9
  refine k_iast (f' := qf (beI f 0, 0, 0, 0)) (w2 := [(h0, .inl (cB, 16, .inl f)), (h1, .inl (cI, 4, .inl (qf (beI f 0, 0, 0, 0))))]) hx hb hK hP hD hS 1 rfl 0 rfl (Nat.le_of_ble_eq_true rfl) (Nat.le_of_ble_eq_true rfl) (qf_u0 _ _ _ _ _) dX4_bigEndianToInt_20 rfl (fun H locs hP hD hS => ?_)
  refine lv_iinc (v := 4) (lv' := [(1, .int 4), (5, .int 0), (0, .ref h0), (2, .ref h1), (3, .int 0), (4, .int 4)]) hx hb dX4_bigEndianToInt_21 hl (k := 2) rfl (by decide) (by decide) rfl (fun ls hl => ?_)
  refine lv_iinc (v := 1) (lv' := [(5, .int 1), (1, .int 4), (0, .ref h0), (2, .ref h1), (3, .int 0), (4, .int 4)]) hx hb dX4_bigEndianToInt_24 hl (k := 1) rfl (by decide) (by decide) rfl (fun ls hl => ?_)
  refine lv_goto (tgt := 3) hx hb dX4_bigEndianToInt_27 (by decide) ?_
  refine lv_iload hx hb dX4_bigEndianToInt_3 (lv_at hl 0 rfl) ?_
  refine lv_iload hx hb dX4_bigEndianToInt_5 (lv_at hl 5 rfl) ?_
  refine lv_icmp_ge (tgt := 30) hx hb dX4_bigEndianToInt_7 (by decide) (fun c9 => False.elim (by revert c9; decide)) (fun _ => ?_)
  refine lv_aload_n hx hb dX4_bigEndianToInt_10 rfl (lv_at hl 3 rfl) ?_
  refine lv_iload_n hx hb dX4_bigEndianToInt_11 rfl (lv_at hl 4 rfl) ?_
  refine lv_iload hx hb dX4_bigEndianToInt_12 (lv_at hl 0 rfl) ?_
  refine lv_iadd hx hb dX4_bigEndianToInt_14 ?_
  refine lv_asi (y := 1) (by decide) ?_
  refine lv_aload_n hx hb dX4_bigEndianToInt_15 rfl (lv_at hl 2 rfl) ?_
  refine lv_iload_n hx hb dX4_bigEndianToInt_16 rfl (lv_at hl 1 rfl) ?_
  refine lv_asi (y := nI 4) rfl ?_
  refine vp_callSi (va_Run.run (va_runS (As := [.ref h0, .int (nI 4)]) (rest := [.int 1, .ref h1]) ⟨hx, hb, hml, hown, hts⟩ (metX4_bigEndianToInt_2 l D cB cI H.size h0 f 4 (Nat.le_of_ble_eq_true rfl)) (va_cwS 2 hts (lw_S q187 q188 q16 q189) rfl rfl rfl (by decide +kernel) ⟨Nat.le_of_ble_eq_true rfl, Nat.le_of_ble_eq_true rfl⟩) ⟨PreE.blind, preE hE hP hD hS hA [0] rfl rfl⟩ rfl rfl hl.1 rfl (lv_room (Nat.le_of_ble_eq_true rfl)) dX4_bigEndianToInt_17 ⟨Nat.le_of_ble_eq_true rfl, Nat.le_of_ble_eq_true rfl⟩)) (fun r9 (e9 : r9 = beI f 4) => ?_)
  subst e9
  refine k_iast (f' := qf (beI f 0, beI f 4, 0, 0)) (w2 := [(h0, .inl (cB, 16, .inl f)), (h1, .inl (cI, 4, .inl (qf (beI f 0, beI f 4, 0, 0))))]) hx hb hK hP hD hS 1 rfl 1 rfl (Nat.le_of_ble_eq_true rfl) (Nat.le_of_ble_eq_true rfl) (qf_u1 _ _ _ _ _) dX4_bigEndianToInt_20 rfl (fun H locs hP hD hS => ?_)
  refine lv_iinc (v := 8) (lv' := [(1, .int 8), (5, .int 1), (0, .ref h0), (2, .ref h1), (3, .int 0), (4, .int 4)]) hx hb dX4_bigEndianToInt_21 hl (k := 1) rfl (by decide) (by decide) rfl (fun ls hl => ?_)
  refine lv_iinc (v := 2) (lv' := [(5, .int 2), (1, .int 8), (0, .ref h0), (2, .ref h1), (3, .int 0), (4, .int 4)]) hx hb dX4_bigEndianToInt_24 hl (k := 1) rfl (by decide) (by decide) rfl (fun ls hl => ?_)
  refine lv_goto (tgt := 3) hx hb dX4_bigEndianToInt_27 (by decide) ?_
  refine lv_iload hx hb dX4_bigEndianToInt_3 (lv_at hl 0 rfl) ?_
  refine lv_iload hx hb dX4_bigEndianToInt_5 (lv_at hl 5 rfl) ?_
  refine lv_icmp_ge (tgt := 30) hx hb dX4_bigEndianToInt_7 (by decide) (fun c9 => False.elim (by revert c9; decide)) (fun _ => ?_)
  refine lv_aload_n hx hb dX4_bigEndianToInt_10 rfl (lv_at hl 3 rfl) ?_
  refine lv_iload_n hx hb dX4_bigEndianToInt_11 rfl (lv_at hl 4 rfl) ?_
  refine lv_iload hx hb dX4_bigEndianToInt_12 (lv_at hl 0 rfl) ?_
  refine lv_iadd hx hb dX4_bigEndianToInt_14 ?_
  refine lv_asi (y := 2) (by decide) ?_
  refine lv_aload_n hx hb dX4_bigEndianToInt_15 rfl (lv_at hl 2 rfl) ?_
  refine lv_iload_n hx hb dX4_bigEndianToInt_16 rfl (lv_at hl 1 rfl) ?_
  refine lv_asi (y := nI 8) rfl ?_
  refine vp_callSi (va_Run.run (va_runS (As := [.ref h0, .int (nI 8)]) (rest := [.int 2, .ref h1]) ⟨hx, hb, hml, hown, hts⟩ (metX4_bigEndianToInt_2 l D cB cI H.size h0 f 8 (Nat.le_of_ble_eq_true rfl)) (va_cwS 2 hts (lw_S q187 q188 q16 q189) rfl rfl rfl (by decide +kernel) ⟨Nat.le_of_ble_eq_true rfl, Nat.le_of_ble_eq_true rfl⟩) ⟨PreE.blind, preE hE hP hD hS hA [0] rfl rfl⟩ rfl rfl hl.1 rfl (lv_room (Nat.le_of_ble_eq_true rfl)) dX4_bigEndianToInt_17 ⟨Nat.le_of_ble_eq_true rfl, Nat.le_of_ble_eq_true rfl⟩)) (fun r9 (e9 : r9 = beI f 8) => ?_)
  subst e9
  refine k_iast (f' := qf (beI f 0, beI f 4, beI f 8, 0)) (w2 := [(h0, .inl (cB, 16, .inl f)), (h1, .inl (cI, 4, .inl (qf (beI f 0, beI f 4, beI f 8, 0))))]) hx hb hK hP hD hS 1 rfl 2 rfl (Nat.le_of_ble_eq_true rfl) (Nat.le_of_ble_eq_true rfl) (qf_u2 _ _ _ _ _) dX4_bigEndianToInt_20 rfl (fun H locs hP hD hS => ?_)
  refine lv_iinc (v := 12) (lv' := [(1, .int 12), (5, .int 2), (0, .ref h0), (2, .ref h1), (3, .int 0), (4, .int 4)]) hx hb dX4_bigEndianToInt_21 hl (k := 1) rfl (by decide) (by decide) rfl (fun ls hl => ?_)
  refine lv_iinc (v := 3) (lv' := [(5, .int 3), (1, .int 12), (0, .ref h0), (2, .ref h1), (3, .int 0), (4, .int 4)]) hx hb dX4_bigEndianToInt_24 hl (k := 1) rfl (by decide) (by decide) rfl (fun ls hl => ?_)
  refine lv_goto (tgt := 3) hx hb dX4_bigEndianToInt_27 (by decide) ?_
  refine lv_iload hx hb dX4_bigEndianToInt_3 (lv_at hl 0 rfl) ?_
  refine lv_iload hx hb dX4_bigEndianToInt_5 (lv_at hl 5 rfl) ?_
  refine lv_icmp_ge (tgt := 30) hx hb dX4_bigEndianToInt_7 (by decide) (fun c9 => False.elim (by revert c9; decide)) (fun _ => ?_)
  refine lv_aload_n hx hb dX4_bigEndianToInt_10 rfl (lv_at hl 3 rfl) ?_
  refine lv_iload_n hx hb dX4_bigEndianToInt_11 rfl (lv_at hl 4 rfl) ?_
  refine lv_iload hx hb dX4_bigEndianToInt_12 (lv_at hl 0 rfl) ?_
  refine lv_iadd hx hb dX4_bigEndianToInt_14 ?_
  refine lv_asi (y := 3) (by decide) ?_
  refine lv_aload_n hx hb dX4_bigEndianToInt_15 rfl (lv_at hl 2 rfl) ?_
  refine lv_iload_n hx hb dX4_bigEndianToInt_16 rfl (lv_at hl 1 rfl) ?_
  refine lv_asi (y := nI 12) rfl ?_
  refine vp_callSi (va_Run.run (va_runS (As := [.ref h0, .int (nI 12)]) (rest := [.int 3, .ref h1]) ⟨hx, hb, hml, hown, hts⟩ (metX4_bigEndianToInt_2 l D cB cI H.size h0 f 12 (Nat.le_of_ble_eq_true rfl)) (va_cwS 2 hts (lw_S q187 q188 q16 q189) rfl rfl rfl (by decide +kernel) ⟨Nat.le_of_ble_eq_true rfl, Nat.le_of_ble_eq_true rfl⟩) ⟨PreE.blind, preE hE hP hD hS hA [0] rfl rfl⟩ rfl rfl hl.1 rfl (lv_room (Nat.le_of_ble_eq_true rfl)) dX4_bigEndianToInt_17 ⟨Nat.le_of_ble_eq_true rfl, Nat.le_of_ble_eq_true rfl⟩)) (fun r9 (e9 : r9 = beI f 12) => ?_)
  subst e9
  refine k_iast (f' := qf (beI f 0, beI f 4, beI f 8, beI f 12)) (w2 := [(h0, .inl (cB, 16, .inl f)), (h1, .inl (cI, 4, .inl (qf (beI f 0, beI f 4, beI f 8, beI f 12))))]) hx hb hK hP hD hS 1 rfl 3 rfl (Nat.le_of_ble_eq_true rfl) (Nat.le_of_ble_eq_true rfl) (qf_u3 _ _ _ _ _) dX4_bigEndianToInt_20 rfl (fun H locs hP hD hS => ?_)
  refine lv_iinc (v := 16) (lv' := [(1, .int 16), (5, .int 3), (0, .ref h0), (2, .ref h1), (3, .int 0), (4, .int 4)]) hx hb dX4_bigEndianToInt_21 hl (k := 1) rfl (by decide) (by decide) rfl (fun ls hl => ?_)
  refine lv_iinc (v := 4) (lv' := [(5, .int 4), (1, .int 16), (0, .ref h0), (2, .ref h1), (3, .int 0), (4, .int 4)]) hx hb dX4_bigEndianToInt_24 hl (k := 1) rfl (by decide) (by decide) rfl (fun ls hl => ?_)
  refine lv_goto (tgt := 3) hx hb dX4_bigEndianToInt_27 (by decide) ?_
  refine lv_iload hx hb dX4_bigEndianToInt_3 (lv_at hl 0 rfl) ?_
  refine lv_iload hx hb dX4_bigEndianToInt_5 (lv_at hl 5 rfl) ?_
  refine lv_icmp_ge (tgt := 30) hx hb dX4_bigEndianToInt_7 (by decide) (fun _ => ?_) (fun c9 => False.elim (by revert c9; decide))
  exact W.vret hx hb hr (fun t ht hW => ⟨⟨(), rfl, trivial, by rw [ht]; exact hP, hD⟩, hS.F ht⟩) hS.2.2 dX4_bigEndianToInt_30
end
section
set_option maxHeartbeats 4000000 in
set_option maxRecDepth 100000 in
theorem metX3_init_3 (l : Launch) (D : va_G) (cB cI : ClassId) (sz : Nat) (h0 : Nat) : Met l yX3_init_3 (ws_ yX3_init_3 cX3_init_3 2 none) ({ frames := 1, cells := 1, slots := 16, locals := 60 } : Room) (PreE D cB cI [.ref h0, .int 16] sz [(h0, .inr (3, [.null]))]) (PostV D (va_A [(h0, .inr (3, [.null]))] sz) (fun u : Nat => [(h0, .inr (3, [.ref u])), (u, .inl (cB, 16, .inl (fun _ => 0)))])) 1 16 (va_A [(h0, .inr (3, [.null]))] sz) := by
  refine Met.ofW (cc := cX3_init_3) (maxL := 2) (ret := none) (by decide) rfl ?_
  intro p e s m args below meth c s₁ B hml hv
  obtain ⟨rfl, hsz, hP, hD0, hE⟩ := hv
  have hx := B.exec
  have hb := B.bytes
  have hr := B.returns
  have hts := atoms_spec (ws := ws_ yX3_init_3 cX3_init_3 2 none) B.pre
  have hts : ∀ w ∈ lw_all, w.before _ s = true := fun w h => hts w (List.mem_cons_of_mem _ h)
  have hown : s.vm.findClass RX3 = some m.cls := findClass_of_methodNamed B.named
  have hlocks := B.notSynchronized
  have hin : meth.name = "<init>" := (name_of_methodNamed B.named B.method).1
  subst hsz
  have hD := hD0.self (sz := s.heap.size)
  generalize hAe : va_A [(h0, .inr (3, [.null]))] s.heap.size = A at hD hE ⊢
  have hA : ∀ q : Nat, s.heap.size ≤ q → A q := fun q h => by rw [← hAe]; exact Or.inr h
  have hS : va_S A s.heap s.heap [] := va_S.rf
  have hK := hE.1
  have hP : va_P D vwCl [(h0, .inr (3, [.null]))] s.heap := hP
  have hl := lv_entry ([.ref h0, .int 16]) (n := 2) (Nat.le_of_ble_eq_true rfl)
  rw [lg_entry_eq]
  generalize (lg_sl ([.ref h0, .int 16]) ++ List.replicate (2 - (lg_sl ([.ref h0, .int 16])).length) Slot.unset).toArray = ls at hl ⊢
  have hl : lv_has ls 2 [(0, .ref h0), (1, .int 16)] := hl
  refine lv_aload_n hx hb dX3_init_3_0 rfl (lv_at hl 0 rfl) ?_
  refine W.objInit hx hb hown (hts _ q92) (hts _ q29) (hts _ q30) rfl (by rw [hml]; exact hl.1) rfl dX3_init_3_1 (Nat.le_of_ble_eq_true rfl) (Nat.le_of_ble_eq_true rfl) ?_
  refine W.eq (g2 := F0 m 4 ls []) rfl ?_
  refine lv_aload_n hx hb dX3_init_3_4 rfl (lv_at hl 0 rfl) ?_
  refine lv_iload_n hx hb dX3_init_3_5 rfl (lv_at hl 1 rfl) ?_
  refine k_newb hx hb (hts _ q41) hK hP hD hS hA 16 rfl (Nat.le_of_ble_eq_true rfl) (Nat.le_of_ble_eq_true rfl) (Nat.le_of_ble_eq_true rfl) dX3_init_3_6 (fun n1 H hP hD hS => ?_)
  have hP : va_P D vwCl [(h0, .inr (3, [.null])), (n1, .inl (cB, 16, .inl (fun _ => 0)))] H := hP
  have hD : va_D A [(h0, .inr (3, [.null])), (n1, .inl (cB, 16, .inl (fun _ => 0)))] := hD
  refine W.widen (k := 1) (n := 16) (Nat.le_refl _) (Nat.le_refl _) ?_
  refine va_put (D := D) (ci := 3) (v := .ref n1) (ty := .array .byte) (C := RX3) (T := TX3) (N := 1) hx hb hts in_X3 tyX3 tyX3_ok nmX3 hown hK hP hD hS 0 rfl rfl 0 (by decide) (hts _ q93) (fun _ h9 => h9) rfl (by decide +kernel) rfl rfl (Nat.le_of_ble_eq_true rfl) dX3_init_3_8 (fun H locs hP hD hS => ?_)
  have hP : va_P D vwCl [(h0, .inr (3, [.ref n1])), (n1, .inl (cB, 16, .inl (fun _ => 0)))] H := hP
  have hD : va_D A [(h0, .inr (3, [.ref n1])), (n1, .inl (cB, 16, .inl (fun _ => 0)))] := hD
  exact W.vret hx hb hr (fun t ht hW => ⟨⟨n1, rfl, trivial, by rw [ht]; exact hP, hD⟩, hS.F ht⟩) hS.2.2 dX3_init_3_11
set_option maxHeartbeats 4000000 in
set_option maxRecDepth 100000 in
theorem metX3_init_2 (l : Launch) (D : va_G) (cB cI : ClassId) (sz : Nat) (h0 h1 : Nat) (f : Nat → Int32) (hfit : ∀ j, j < 16 → fits .byte (.int (f j)) = true) : Met l yX3_init_2 (ws_ yX3_init_2 cX3_init_2 4 none) ({ frames := 2, cells := 1, slots := 16, locals := 120 } : Room) (PreE D cB cI [.ref h0, .ref h1, .int 0, .int 16] sz [(h0, .inr (3, [.null])), (h1, .inl (cB, 16, .inl f))]) (PostV D (va_A [(h0, .inr (3, [.null])), (h1, .inl (cB, 16, .inl f))] sz) (fun u : Nat => [(h0, .inr (3, [.ref u])), (h1, .inl (cB, 16, .inl f)), (u, .inl (cB, 16, .inl (va_cpy f (fun _ => 0) 0 0 16)))])) 1 16 (va_A [(h0, .inr (3, [.null])), (h1, .inl (cB, 16, .inl f))] sz) := by
  refine Met.ofW (cc := cX3_init_2) (maxL := 4) (ret := none) (by decide) rfl ?_
  intro p e s m args below meth c s₁ B hml hv
  obtain ⟨rfl, hsz, hP, hD0, hE⟩ := hv
  have hx := B.exec
  have hb := B.bytes
  have hr := B.returns
  have hts := atoms_spec (ws := ws_ yX3_init_2 cX3_init_2 4 none) B.pre
  have hts : ∀ w ∈ lw_all, w.before _ s = true := fun w h => hts w (List.mem_cons_of_mem _ h)
  have hown : s.vm.findClass RX3 = some m.cls := findClass_of_methodNamed B.named
  have hlocks := B.notSynchronized
  have hin : meth.name = "<init>" := (name_of_methodNamed B.named B.method).1
  subst hsz
  have hD := hD0.self (sz := s.heap.size)
  generalize hAe : va_A [(h0, .inr (3, [.null])), (h1, .inl (cB, 16, .inl f))] s.heap.size = A at hD hE ⊢
  have hA : ∀ q : Nat, s.heap.size ≤ q → A q := fun q h => by rw [← hAe]; exact Or.inr h
  have hS : va_S A s.heap s.heap [] := va_S.rf
  have hK := hE.1
  have hP : va_P D vwCl [(h0, .inr (3, [.null])), (h1, .inl (cB, 16, .inl f))] s.heap := hP
  have hl := lv_entry ([.ref h0, .ref h1, .int 0, .int 16]) (n := 4) (Nat.le_of_ble_eq_true rfl)
  rw [lg_entry_eq]
  generalize (lg_sl ([.ref h0, .ref h1, .int 0, .int 16]) ++ List.replicate (4 - (lg_sl ([.ref h0, .ref h1, .int 0, .int 16])).length) Slot.unset).toArray = ls at hl ⊢
  have hl : lv_has ls 4 [(0, .ref h0), (1, .ref h1), (2, .int 0), (3, .int 16)] := hl
  refine lv_aload_n hx hb dX3_init_2_0 rfl (lv_at hl 0 rfl) ?_
  refine lv_iload_n hx hb dX3_init_2_1 rfl (lv_at hl 3 rfl) ?_
  refine k_v (D := D) (wc := [(h0, .inr (3, [.null]))]) (wr := [(h1, .inl (cB, 16, .inl f))]) (va_runI (As := [.int 16]) (rest := []) ⟨hx, hb, hml, hown, hts⟩ (metX3_init_3 l D cB cI s.heap.size h0) (cwI 1 hts (lw_meth q91) rfl rfl rfl (hts _ q10) (hts _ q89) (hts _ q90) rfl (by decide +kernel) ⟨Nat.le_of_ble_eq_true rfl, Nat.le_of_ble_eq_true rfl⟩) ⟨PreE.blind, preE hE hP hD hS hA [0] rfl rfl⟩ rfl rfl hl.1 rfl (lv_room (Nat.le_of_ble_eq_true rfl)) dX3_init_2_2 ⟨Nat.le_of_ble_eq_true rfl, Nat.le_of_ble_eq_true rfl⟩) hP hD hS hA [0] [1] rfl rfl rfl (by decide) [1, 0, 2] rfl (fun u : Nat => [(h0, .inr (3, [.ref u])), (h1, .inl (cB, 16, .inl f)), (u, .inl (cB, 16, .inl (fun _ => 0)))]) (fun _ => rfl) (fun u H locs hP hD hS => ?_)
  refine W.widen (k := 1) (n := 16) (Nat.le_refl _) (Nat.le_refl _) ?_
  have hP : va_P D vwCl [(h0, .inr (3, [.ref u])), (h1, .inl (cB, 16, .inl f)), (u, .inl (cB, 16, .inl (fun _ => 0)))] H := hP
  have hD : va_D A [(h0, .inr (3, [.ref u])), (h1, .inl (cB, 16, .inl f)), (u, .inl (cB, 16, .inl (fun _ => 0)))] := hD
  refine lv_aload_n hx hb dX3_init_2_5 rfl (lv_at hl 1 rfl) ?_
  refine lv_iload_n hx hb dX3_init_2_6 rfl (lv_at hl 2 rfl) ?_
  refine lv_aload_n hx hb dX3_init_2_7 rfl (lv_at hl 0 rfl) ?_
  refine va_get (D := D) (ci := 3) (v := .ref u) (C := RX3) (T := TX3) (N := 1) hx hb hts in_X3 hown hK hP 0 rfl rfl 0 (by decide) (hts _ q93) (fun _ h9 => h9) rfl dX3_init_2_8 ?_
  refine lv_iconst (v := 0) hx hb dX3_init_2_11 (by decide) ?_
  refine lv_iload_n hx hb dX3_init_2_12 rfl (lv_at hl 3 rfl) ?_
  have e0 : (0 : Int32).toNatClampNeg = 0 := by decide
  have e16 : (16 : Int32).toNatClampNeg = 16 := by decide
  refine va_copyi hx hb (by rw [hml]; exact hl.1.symm) hown (hts _ q97) (hts _ q99) (hts _ q98) (hts _ q11) hK hP hD hS 1 2 0 0 (ty := .byte) rfl rfl rfl rfl rfl (by decide) (by decide) (by decide) (by rw [e0, e16]; decide) (by rw [e0, e16]; decide) (fun i hi => hfit _ (by omega)) (Nat.le_of_ble_eq_true rfl) (Nat.le_of_ble_eq_true rfl) dX3_init_2_13 (fun H locs hP hD hS => ?_)
  rw [e0, e16] at hP hD
  have hP : va_P D vwCl [(h0, .inr (3, [.ref u])), (h1, .inl (cB, 16, .inl f)), (u, .inl (cB, 16, .inl (va_cpy f (fun _ => 0) 0 0 16)))] H := hP
  have hD : va_D A [(h0, .inr (3, [.ref u])), (h1, .inl (cB, 16, .inl f)), (u, .inl (cB, 16, .inl (va_cpy f (fun _ => 0) 0 0 16)))] := hD
  exact W.vret hx hb hr (fun t ht hW => ⟨⟨u, rfl, trivial, by rw [ht]; exact hP, hD⟩, hS.F ht⟩) hS.2.2 dX3_init_2_16
set_option maxHeartbeats 4000000 in
set_option maxRecDepth 100000 in
theorem metX3_init (l : Launch) (D : va_G) (cB cI : ClassId) (sz : Nat) (h0 h1 : Nat) (f : Nat → Int32) (hfit : ∀ j, j < 16 → fits .byte (.int (f j)) = true) : Met l yX3_init (ws_ yX3_init cX3_init 2 none) ({ frames := 3, cells := 1, slots := 16, locals := 180 } : Room) (PreE D cB cI [.ref h0, .ref h1] sz [(h0, .inr (3, [.null])), (h1, .inl (cB, 16, .inl f))]) (PostV D (va_A [(h0, .inr (3, [.null])), (h1, .inl (cB, 16, .inl f))] sz) (fun u : Nat => [(h0, .inr (3, [.ref u])), (h1, .inl (cB, 16, .inl f)), (u, .inl (cB, 16, .inl (va_cpy f (fun _ => 0) 0 0 16)))])) 1 16 (va_A [(h0, .inr (3, [.null])), (h1, .inl (cB, 16, .inl f))] sz) := by
  refine Met.ofW (cc := cX3_init) (maxL := 2) (ret := none) (by decide) rfl ?_
  intro p e s m args below meth c s₁ B hml hv
  obtain ⟨rfl, hsz, hP, hD0, hE⟩ := hv
  have hx := B.exec
  have hb := B.bytes
  have hr := B.returns
  have hts := atoms_spec (ws := ws_ yX3_init cX3_init 2 none) B.pre
  have hts : ∀ w ∈ lw_all, w.before _ s = true := fun w h => hts w (List.mem_cons_of_mem _ h)
  have hown : s.vm.findClass RX3 = some m.cls := findClass_of_methodNamed B.named
  have hlocks := B.notSynchronized
  have hin : meth.name = "<init>" := (name_of_methodNamed B.named B.method).1
  subst hsz
  have hD := hD0.self (sz := s.heap.size)
  generalize hAe : va_A [(h0, .inr (3, [.null])), (h1, .inl (cB, 16, .inl f))] s.heap.size = A at hD hE ⊢
  have hA : ∀ q : Nat, s.heap.size ≤ q → A q := fun q h => by rw [← hAe]; exact Or.inr h
  have hS : va_S A s.heap s.heap [] := va_S.rf
  have hK := hE.1
  have hP : va_P D vwCl [(h0, .inr (3, [.null])), (h1, .inl (cB, 16, .inl f))] s.heap := hP
  have hl := lv_entry ([.ref h0, .ref h1]) (n := 2) (Nat.le_of_ble_eq_true rfl)
  rw [lg_entry_eq]
  generalize (lg_sl ([.ref h0, .ref h1]) ++ List.replicate (2 - (lg_sl ([.ref h0, .ref h1])).length) Slot.unset).toArray = ls at hl ⊢
  have hl : lv_has ls 2 [(0, .ref h0), (1, .ref h1)] := hl
  refine lv_aload_n hx hb dX3_init_0 rfl (lv_at hl 0 rfl) ?_
  refine lv_aload_n hx hb dX3_init_1 rfl (lv_at hl 1 rfl) ?_
  refine lv_iconst (v := 0) hx hb dX3_init_2 (by decide) ?_
  refine lv_aload_n hx hb dX3_init_3 rfl (lv_at hl 1 rfl) ?_
  refine va_alen (v := 16) hx hb hK hP 1 0 rfl rfl rfl dX3_init_4 ?_
  refine k_v (D := D) (wc := [(h0, .inr (3, [.null])), (h1, .inl (cB, 16, .inl f))]) (wr := []) (va_runI (As := [.ref h1, .int 0, .int 16]) (rest := []) ⟨hx, hb, hml, hown, hts⟩ (metX3_init_2 l D cB cI s.heap.size h0 h1 f hfit) (cwI 3 hts (lw_meth q88) rfl rfl rfl (hts _ q10) (hts _ q86) (hts _ q87) rfl (by decide +kernel) ⟨Nat.le_of_ble_eq_true rfl, Nat.le_of_ble_eq_true rfl⟩) ⟨PreE.blind, preE hE hP hD hS hA [0, 1] rfl rfl⟩ rfl rfl hl.1 rfl (lv_room (Nat.le_of_ble_eq_true rfl)) dX3_init_5 ⟨Nat.le_of_ble_eq_true rfl, Nat.le_of_ble_eq_true rfl⟩) hP hD hS hA [0, 1] [] rfl rfl rfl (by decide) [0, 1, 2] rfl (fun u : Nat => [(h0, .inr (3, [.ref u])), (h1, .inl (cB, 16, .inl f)), (u, .inl (cB, 16, .inl (va_cpy f (fun _ => 0) 0 0 16)))]) (fun _ => rfl) (fun u H locs hP hD hS => ?_)
  refine W.widen (k := 1) (n := 16) (Nat.le_refl _) (Nat.le_refl _) ?_
  have hP : va_P D vwCl [(h0, .inr (3, [.ref u])), (h1, .inl (cB, 16, .inl f)), (u, .inl (cB, 16, .inl (va_cpy f (fun _ => 0) 0 0 16)))] H := hP
  have hD : va_D A [(h0, .inr (3, [.ref u])), (h1, .inl (cB, 16, .inl f)), (u, .inl (cB, 16, .inl (va_cpy f (fun _ => 0) 0 0 16)))] := hD
  exact W.vret hx hb hr (fun t ht hW => ⟨⟨u, rfl, trivial, by rw [ht]; exact hP, hD⟩, hS.F ht⟩) hS.2.2 dX3_init_8
set_option maxHeartbeats 4000000 in
set_option maxRecDepth 100000 in
theorem metX3_getKey (l : Launch) (D : va_G) (cB cI : ClassId) (sz : Nat) (h0 h1 : Nat) : Met l yX3_getKey (ws_ yX3_getKey cX3_getKey 1 (some (.array .byte))) ({ frames := 0, cells := 0, slots := 0, locals := 0 } : Room) (PreE D cB cI [.ref h0] sz [(h0, .inr (3, [.ref h1]))]) (va_Sr (fun k : Nat => k = h1) (fun k : Nat => Value.ref k)) 0 0 (fun _ => False) := by
  refine Met.ofW (cc := cX3_getKey) (maxL := 1) (ret := (some (.array .byte))) (by decide) rfl ?_
  intro p e s m args below meth c s₁ B hml hv
  obtain ⟨rfl, hsz, hP, hD0, hE⟩ := hv
  have hx := B.exec
  have hb := B.bytes
  have hr := B.returns
  have hts := atoms_spec (ws := ws_ yX3_getKey cX3_getKey 1 (some (.array .byte))) B.pre
  have hts : ∀ w ∈ lw_all, w.before _ s = true := fun w h => hts w (List.mem_cons_of_mem _ h)
  have hown : s.vm.findClass RX3 = some m.cls := findClass_of_methodNamed B.named
  have hlocks := B.notSynchronized
  subst hsz
  have hD := hD0.self (sz := s.heap.size)
  generalize hAe : va_A [(h0, .inr (3, [.ref h1]))] s.heap.size = A at hD hE ⊢
  have hA : ∀ q : Nat, s.heap.size ≤ q → A q := fun q h => by rw [← hAe]; exact Or.inr h
  have hS : va_S A s.heap s.heap [] := va_S.rf
  have hK := hE.1
  have hP : va_P D vwCl [(h0, .inr (3, [.ref h1]))] s.heap := hP
  have hl := lv_entry ([.ref h0]) (n := 1) (Nat.le_of_ble_eq_true rfl)
  rw [lg_entry_eq]
  generalize (lg_sl ([.ref h0]) ++ List.replicate (1 - (lg_sl ([.ref h0])).length) Slot.unset).toArray = ls at hl ⊢
  have hl : lv_has ls 1 [(0, .ref h0)] := hl
  refine lv_aload_n hx hb dX3_getKey_0 rfl (lv_at hl 0 rfl) ?_
  refine va_get (D := D) (ci := 3) (v := .ref h1) (C := RX3) (T := TX3) (N := 1) hx hb hts in_X3 hown hK hP 0 rfl rfl 0 (by decide) (hts _ q93) (fun _ h9 => h9) rfl dX3_getKey_1 ?_
  exact W.aret (v := .ref h1) hx hb hr (Or.inr ⟨_, rfl⟩) (Or.inr ⟨_, rfl⟩) (fun t ht hW => ⟨h1, rfl, rfl, ht⟩) (fun q hq => by cases hq) dX3_getKey_4
end
section
set_option maxHeartbeats 4000000 in
set_option maxRecDepth 100000 in
theorem metX2_init (l : Launch) (D : va_G) (cB cI : ClassId) (sz : Nat) (h0 : Nat) : Met l yX2_init (ws_ yX2_init cX2_init 1 none) ({ frames := 1, cells := 1, slots := 4, locals := 60 } : Room) (PreE D cB cI [.ref h0] sz [(h0, .inr (2, [.null, .int 0, .int 0]))]) (PostV D (va_A [(h0, .inr (2, [.null, .int 0, .int 0]))] sz) (fun u : Nat => [(h0, .inr (2, [.ref u, .int 0, .int 0])), (u, .inl (cI, 4, .inl (qf (0, 0, 0, 0))))])) 1 4 (va_A [(h0, .inr (2, [.null, .int 0, .int 0]))] sz) := by
  refine Met.ofW (cc := cX2_init) (maxL := 1) (ret := none) (by decide) rfl ?_
  intro p e s m args below meth c s₁ B hml hv
  obtain ⟨rfl, hsz, hP, hD0, hE⟩ := hv
  have hx := B.exec
  have hb := B.bytes
  have hr := B.returns
  have hts := atoms_spec (ws := ws_ yX2_init cX2_init 1 none) B.pre
  have hts : ∀ w ∈ lw_all, w.before _ s = true := fun w h => hts w (List.mem_cons_of_mem _ h)
  have hown : s.vm.findClass RX2 = some m.cls := findClass_of_methodNamed B.named
  have hlocks := B.notSynchronized
  have hin : meth.name = "<init>" := (name_of_methodNamed B.named B.method).1
  subst hsz
  have hD := hD0.self (sz := s.heap.size)
  generalize hAe : va_A [(h0, .inr (2, [.null, .int 0, .int 0]))] s.heap.size = A at hD hE ⊢
  have hA : ∀ q : Nat, s.heap.size ≤ q → A q := fun q h => by rw [← hAe]; exact Or.inr h
  have hS : va_S A s.heap s.heap [] := va_S.rf
  have hK := hE.1
  have hP : va_P D vwCl [(h0, .inr (2, [.null, .int 0, .int 0]))] s.heap := hP
  have hl := lv_entry ([.ref h0]) (n := 1) (Nat.le_of_ble_eq_true rfl)
  rw [lg_entry_eq]
  generalize (lg_sl ([.ref h0]) ++ List.replicate (1 - (lg_sl ([.ref h0])).length) Slot.unset).toArray = ls at hl ⊢
  have hl : lv_has ls 1 [(0, .ref h0)] := hl
  refine lv_aload_n hx hb dX2_init_0 rfl (lv_at hl 0 rfl) ?_
  refine W.objInit hx hb hown (hts _ q69) (hts _ q29) (hts _ q30) rfl (by rw [hml]; exact hl.1) rfl dX2_init_1 (Nat.le_of_ble_eq_true rfl) (Nat.le_of_ble_eq_true rfl) ?_
  refine W.eq (g2 := F0 m 4 ls []) rfl ?_
  refine lv_aload_n hx hb dX2_init_4 rfl (lv_at hl 0 rfl) ?_
  refine lv_iconst (v := 4) hx hb dX2_init_5 (by decide) ?_
  refine k_newi hx hb (hts _ q80) hK hP hD hS hA 4 rfl (Nat.le_of_ble_eq_true rfl) (Nat.le_of_ble_eq_true rfl) (Nat.le_of_ble_eq_true rfl) dX2_init_6 (fun n1 H hP hD hS => ?_)
  have hP : va_P D vwCl [(h0, .inr (2, [.null, .int 0, .int 0])), (n1, .inl (cI, 4, .inl (fun _ => 0)))] H := hP
  have hD : va_D A [(h0, .inr (2, [.null, .int 0, .int 0])), (n1, .inl (cI, 4, .inl (fun _ => 0)))] := hD
  refine W.widen (k := 1) (n := 4) (Nat.le_refl _) (Nat.le_refl _) ?_
  have hP : va_P D vwCl [(h0, .inr (2, [.null, .int 0, .int 0])), (n1, .inl (cI, 4, .inl (qf (0, 0, 0, 0))))] H := by rw [← qf_0]; exact hP
  have hD : va_D A [(h0, .inr (2, [.null, .int 0, .int 0])), (n1, .inl (cI, 4, .inl (qf (0, 0, 0, 0))))] := by rw [← qf_0]; exact hD
  refine va_putF (D := D) (ci := 2) (v := .ref n1) (ty := .array .int) (C := RX2) (T := TX2) (N := 3) hx hb hts in_X2 tyX2 tyX2_ok nmX2 hown hK hP hD hS 0 rfl rfl 0 (by decide) (hts _ q70) (fun _ h9 => h9) rfl hin rfl (by decide +kernel) rfl rfl (Nat.le_of_ble_eq_true rfl) dX2_init_8 (fun H locs hP hD hS => ?_)
  have hP : va_P D vwCl [(h0, .inr (2, [.ref n1, .int 0, .int 0])), (n1, .inl (cI, 4, .inl (qf (0, 0, 0, 0))))] H := hP
  have hD : va_D A [(h0, .inr (2, [.ref n1, .int 0, .int 0])), (n1, .inl (cI, 4, .inl (qf (0, 0, 0, 0))))] := hD
  refine lv_aload_n hx hb dX2_init_11 rfl (lv_at hl 0 rfl) ?_
  refine lv_iconst (v := 0) hx hb dX2_init_12 (by decide) ?_
  refine va_put (D := D) (ci := 2) (v := .int 0) (ty := .boolean) (C := RX2) (T := TX2) (N := 3) hx hb hts in_X2 tyX2 tyX2_ok nmX2 hown hK hP hD hS 0 rfl rfl 1 (by decide) (hts _ q71) (fun _ h9 => h9) rfl (by decide +kernel) rfl rfl (Nat.le_of_ble_eq_true rfl) dX2_init_13 (fun H locs hP hD hS => ?_)
  have hP : va_P D vwCl [(h0, .inr (2, [.ref n1, .int 0, .int 0])), (n1, .inl (cI, 4, .inl (qf (0, 0, 0, 0))))] H := hP
  have hD : va_D A [(h0, .inr (2, [.ref n1, .int 0, .int 0])), (n1, .inl (cI, 4, .inl (qf (0, 0, 0, 0))))] := hD
  exact W.vret hx hb hr (fun t ht hW => ⟨⟨n1, rfl, trivial, by rw [ht]; exact hP, hD⟩, hS.F ht⟩) hS.2.2 dX2_init_16
set_option maxHeartbeats 4000000 in
set_option maxRecDepth 100000 in
theorem metX2_init_2_1 (l : Launch) (D : va_G) (cB cI : ClassId) (sz : Nat) (h0 h1 h2 h3 : Nat) (f : Nat → Int32) : Met l yX2_init_2 (ws_ yX2_init_2 cX2_init_2 11 none) ({ frames := 2, cells := 0, slots := 0, locals := 120 } : Room) (PreE D cB cI [.ref h0, .int 1, .ref h2] sz [(h0, .inr (2, [.ref h1, .int 0, .int 0])), (h1, .inl (cI, 4, .inl (qf (0, 0, 0, 0)))), (h2, .inr (3, [.ref h3])), (h3, .inl (cB, 16, .inl f))]) (PostV D (va_A [(h0, .inr (2, [.ref h1, .int 0, .int 0])), (h1, .inl (cI, 4, .inl (qf (0, 0, 0, 0)))), (h2, .inr (3, [.ref h3])), (h3, .inl (cB, 16, .inl f))] sz) (fun _ : Unit => [(h0, .inr (2, [.ref h1, .int 1, .int 1])), (h1, .inl (cI, 4, .inl (qf (beQ f)))), (h2, .inr (3, [.ref h3])), (h3, .inl (cB, 16, .inl f))])) 0 0 (va_A [(h0, .inr (2, [.ref h1, .int 0, .int 0])), (h1, .inl (cI, 4, .inl (qf (0, 0, 0, 0)))), (h2, .inr (3, [.ref h3])), (h3, .inl (cB, 16, .inl f))] sz) := by
  refine Met.ofW (cc := cX2_init_2) (maxL := 11) (ret := none) (by decide) rfl ?_
  intro p e s m args below meth c s₁ B hml hv
  obtain ⟨rfl, hsz, hP, hD0, hE⟩ := hv
  have hx := B.exec
  have hb := B.bytes
  have hr := B.returns
  have hts := atoms_spec (ws := ws_ yX2_init_2 cX2_init_2 11 none) B.pre
  have hts : ∀ w ∈ lw_all, w.before _ s = true := fun w h => hts w (List.mem_cons_of_mem _ h)
  have hown : s.vm.findClass RX2 = some m.cls := findClass_of_methodNamed B.named
  have hlocks := B.notSynchronized
  subst hsz
  have hD := hD0.self (sz := s.heap.size)
  generalize hAe : va_A [(h0, .inr (2, [.ref h1, .int 0, .int 0])), (h1, .inl (cI, 4, .inl (qf (0, 0, 0, 0)))), (h2, .inr (3, [.ref h3])), (h3, .inl (cB, 16, .inl f))] s.heap.size = A at hD hE ⊢
  have hA : ∀ q : Nat, s.heap.size ≤ q → A q := fun q h => by rw [← hAe]; exact Or.inr h
  have hS : va_S A s.heap s.heap [] := va_S.rf
  have hK := hE.1
  have hP : va_P D vwCl [(h0, .inr (2, [.ref h1, .int 0, .int 0])), (h1, .inl (cI, 4, .inl (qf (0, 0, 0, 0)))), (h2, .inr (3, [.ref h3])), (h3, .inl (cB, 16, .inl f))] s.heap := hP
  have hl := lv_entry ([.ref h0, .int 1, .ref h2]) (n := 11) (Nat.le_of_ble_eq_true rfl)
  rw [lg_entry_eq]
  generalize (lg_sl ([.ref h0, .int 1, .ref h2]) ++ List.replicate (11 - (lg_sl ([.ref h0, .int 1, .ref h2])).length) Slot.unset).toArray = ls at hl ⊢
  have hl : lv_has ls 11 [(0, .ref h0), (1, .int 1), (2, .ref h2)] := hl
  refine lv_aload_n hx hb dX2_init_2_0 rfl (lv_at hl 2 rfl) ?_
  refine va_instS hx hb hown (hts _ q110) (hK.1 3 _ rfl).2 (va_recv hK hP (ci := 3) (q0 := 2) rfl rfl) dX2_init_2_1 ?_
  refine lv_if_ne (tgt := 17) hx hb dX2_init_2_4 (by decide) (fun _ => ?_) (fun c9 => False.elim (by revert c9; decide))
  refine lv_aload_n hx hb dX2_init_2_17 rfl (lv_at hl 2 rfl) ?_
  refine va_castS hx hb hown (hts _ q110) (hK.1 3 _ rfl).2 (va_recv hK hP (ci := 3) (q0 := 2) rfl rfl) dX2_init_2_18 ?_
  refine lv_astore_n (lv' := [(3, .ref h2), (0, .ref h0), (1, .int 1), (2, .ref h2)]) hx hb dX2_init_2_21 rfl hl (by decide) rfl (fun ls hl => ?_)
  refine lv_aload_n hx hb dX2_init_2_22 rfl (lv_at hl 0 rfl) ?_
  refine va_csr (va_Run.run (va_runV (As := []) (rest := []) ⟨hx, hb, hml, hown, hts⟩ (metX3_getKey l D cB cI s.heap.size h2 h3) (cwV 0 hts (lw_V q179 q180 q181 q10 q182) rfl rfl rfl (by decide +kernel) ⟨Nat.le_of_ble_eq_true rfl, Nat.le_of_ble_eq_true rfl⟩) ⟨PreE.blind, va_recv hK hP (ci := 3) (q0 := 2) rfl rfl, preE hE hP hD hS hA [2] rfl rfl⟩ rfl rfl hl.1 rfl (lv_room (Nat.le_of_ble_eq_true rfl)) dX2_init_2_23 ⟨Nat.le_of_ble_eq_true rfl, Nat.le_of_ble_eq_true rfl⟩)) (fun r9 (e9 : r9 = h3) => ?_)
  rw [e9]
  refine lv_astore (lv' := [(4, .ref h3), (3, .ref h2), (0, .ref h0), (1, .int 1), (2, .ref h2)]) hx hb dX2_init_2_26 hl (by decide) rfl (fun ls hl => ?_)
  refine lv_aload hx hb dX2_init_2_28 (lv_at hl 0 rfl) ?_
  refine va_alen (v := 16) hx hb hK hP 3 0 rfl rfl rfl dX2_init_2_30 ?_
  refine lv_bipush (v := 16) hx hb dX2_init_2_31 (by decide) ?_
  refine lv_icmp_eq (tgt := 46) hx hb dX2_init_2_33 (by decide) (fun _ => ?_) (fun c9 => False.elim (by revert c9; decide))
  refine lv_aload hx hb dX2_init_2_46 (lv_at hl 0 rfl) ?_
  refine lv_iconst (v := 0) hx hb dX2_init_2_48 (by decide) ?_
  refine lv_aload_n hx hb dX2_init_2_49 rfl (lv_at hl 2 rfl) ?_
  refine va_get (D := D) (ci := 2) (v := .ref h1) (C := RX2) (T := TX2) (N := 3) hx hb hts in_X2 hown hK hP 0 rfl rfl 0 (by decide) (hts _ q70) (fun _ h9 => h9) rfl dX2_init_2_50 ?_
  refine lv_iconst (v := 0) hx hb dX2_init_2_53 (by decide) ?_
  refine lv_iconst (v := 4) hx hb dX2_init_2_54 (by decide) ?_
  refine k_v (D := D) (wc := [(h3, .inl (cB, 16, .inl f)), (h1, .inl (cI, 4, .inl (qf (0, 0, 0, 0))))]) (wr := [(h0, .inr (2, [.ref h1, .int 0, .int 0])), (h2, .inr (3, [.ref h3]))]) (va_runS (As := [.ref h3, .int 0, .ref h1, .int 0, .int 4]) (rest := []) ⟨hx, hb, hml, hown, hts⟩ (metX4_bigEndianToInt l D cB cI s.heap.size h3 h1 f) (va_cwS 5 hts (lw_S q184 q185 q16 q186) rfl rfl rfl (by decide +kernel) ⟨Nat.le_of_ble_eq_true rfl, Nat.le_of_ble_eq_true rfl⟩) ⟨PreE.blind, preE hE hP hD hS hA [3, 1] rfl rfl⟩ rfl rfl hl.1 rfl (lv_room (Nat.le_of_ble_eq_true rfl)) dX2_init_2_55 ⟨Nat.le_of_ble_eq_true rfl, Nat.le_of_ble_eq_true rfl⟩) hP hD hS hA [3, 1] [0, 2] rfl rfl rfl (by decide) [0, 3, 1, 2] rfl (fun _ : Unit => [(h0, .inr (2, [.ref h1, .int 0, .int 0])), (h1, .inl (cI, 4, .inl (qf (beQ f)))), (h2, .inr (3, [.ref h3])), (h3, .inl (cB, 16, .inl f))]) (fun _ => rfl) (fun _ H locs hP hD hS => ?_)
  refine lv_iload_n hx hb dX2_init_2_58 rfl (lv_at hl 3 rfl) ?_
  refine lv_if_ne (tgt := 208) hx hb dX2_init_2_59 (by decide) (fun _ => ?_) (fun c9 => False.elim (by revert c9; decide))
  refine lv_aload_n hx hb dX2_init_2_208 rfl (lv_at hl 2 rfl) ?_
  refine lv_iload_n hx hb dX2_init_2_209 rfl (lv_at hl 3 rfl) ?_
  refine va_put (D := D) (ci := 2) (v := .int 1) (ty := .boolean) (C := RX2) (T := TX2) (N := 3) hx hb hts in_X2 tyX2 tyX2_ok nmX2 hown hK hP hD hS 0 rfl rfl 2 (by decide) (hts _ q72) (fun _ h9 => h9) rfl (by decide +kernel) rfl rfl (Nat.le_of_ble_eq_true rfl) dX2_init_2_210 (fun H locs hP hD hS => ?_)
  have hP : va_P D vwCl [(h0, .inr (2, [.ref h1, .int 0, .int 1])), (h1, .inl (cI, 4, .inl (qf (beQ f)))), (h2, .inr (3, [.ref h3])), (h3, .inl (cB, 16, .inl f))] H := hP
  have hD : va_D A [(h0, .inr (2, [.ref h1, .int 0, .int 1])), (h1, .inl (cI, 4, .inl (qf (beQ f)))), (h2, .inr (3, [.ref h3])), (h3, .inl (cB, 16, .inl f))] := hD
  refine lv_aload_n hx hb dX2_init_2_213 rfl (lv_at hl 2 rfl) ?_
  refine lv_iconst (v := 1) hx hb dX2_init_2_214 (by decide) ?_
  refine va_put (D := D) (ci := 2) (v := .int 1) (ty := .boolean) (C := RX2) (T := TX2) (N := 3) hx hb hts in_X2 tyX2 tyX2_ok nmX2 hown hK hP hD hS 0 rfl rfl 1 (by decide) (hts _ q71) (fun _ h9 => h9) rfl (by decide +kernel) rfl rfl (Nat.le_of_ble_eq_true rfl) dX2_init_2_215 (fun H locs hP hD hS => ?_)
  have hP : va_P D vwCl [(h0, .inr (2, [.ref h1, .int 1, .int 1])), (h1, .inl (cI, 4, .inl (qf (beQ f)))), (h2, .inr (3, [.ref h3])), (h3, .inl (cB, 16, .inl f))] H := hP
  have hD : va_D A [(h0, .inr (2, [.ref h1, .int 1, .int 1])), (h1, .inl (cI, 4, .inl (qf (beQ f)))), (h2, .inr (3, [.ref h3])), (h3, .inl (cB, 16, .inl f))] := hD
  exact W.vret hx hb hr (fun t ht hW => ⟨⟨(), rfl, trivial, by rw [ht]; exact hP, hD⟩, hS.F ht⟩) hS.2.2 dX2_init_2_218
set_option maxHeartbeats 4000000 in
set_option maxRecDepth 100000 in
theorem metX2_init_2_0 (l : Launch) (D : va_G) (cB cI : ClassId) (sz : Nat) (h0 h1 h2 h3 : Nat) (f : Nat → Int32) : Met l yX2_init_2 (ws_ yX2_init_2 cX2_init_2 11 none) ({ frames := 2, cells := 0, slots := 0, locals := 120 } : Room) (PreE D cB cI [.ref h0, .int 0, .ref h2] sz [(h0, .inr (2, [.ref h1, .int 0, .int 0])), (h1, .inl (cI, 4, .inl (qf (0, 0, 0, 0)))), (h2, .inr (3, [.ref h3])), (h3, .inl (cB, 16, .inl f))]) (PostV D (va_A [(h0, .inr (2, [.ref h1, .int 0, .int 0])), (h1, .inl (cI, 4, .inl (qf (0, 0, 0, 0)))), (h2, .inr (3, [.ref h3])), (h3, .inl (cB, 16, .inl f))] sz) (fun _ : Unit => [(h0, .inr (2, [.ref h1, .int 1, .int 0])), (h1, .inl (cI, 4, .inl (qf (thK (beQ f))))), (h2, .inr (3, [.ref h3])), (h3, .inl (cB, 16, .inl f))])) 0 0 (va_A [(h0, .inr (2, [.ref h1, .int 0, .int 0])), (h1, .inl (cI, 4, .inl (qf (0, 0, 0, 0)))), (h2, .inr (3, [.ref h3])), (h3, .inl (cB, 16, .inl f))] sz) := by
  refine Met.ofW (cc := cX2_init_2) (maxL := 11) (ret := none) (by decide) rfl ?_
  intro p e s m args below meth c s₁ B hml hv
  obtain ⟨rfl, hsz, hP, hD0, hE⟩ := hv
  have hx := B.exec
  have hb := B.bytes
  have hr := B.returns
  have hts := atoms_spec (ws := ws_ yX2_init_2 cX2_init_2 11 none) B.pre
  have hts : ∀ w ∈ lw_all, w.before _ s = true := fun w h => hts w (List.mem_cons_of_mem _ h)
  have hown : s.vm.findClass RX2 = some m.cls := findClass_of_methodNamed B.named
  have hlocks := B.notSynchronized
  subst hsz
  have hD := hD0.self (sz := s.heap.size)
  generalize hAe : va_A [(h0, .inr (2, [.ref h1, .int 0, .int 0])), (h1, .inl (cI, 4, .inl (qf (0, 0, 0, 0)))), (h2, .inr (3, [.ref h3])), (h3, .inl (cB, 16, .inl f))] s.heap.size = A at hD hE ⊢
  have hA : ∀ q : Nat, s.heap.size ≤ q → A q := fun q h => by rw [← hAe]; exact Or.inr h
  have hS : va_S A s.heap s.heap [] := va_S.rf
  have hK := hE.1
  have hP : va_P D vwCl [(h0, .inr (2, [.ref h1, .int 0, .int 0])), (h1, .inl (cI, 4, .inl (qf (0, 0, 0, 0)))), (h2, .inr (3, [.ref h3])), (h3, .inl (cB, 16, .inl f))] s.heap := hP
  have hl := lv_entry ([.ref h0, .int 0, .ref h2]) (n := 11) (Nat.le_of_ble_eq_true rfl)
  rw [lg_entry_eq]
  generalize (lg_sl ([.ref h0, .int 0, .ref h2]) ++ List.replicate (11 - (lg_sl ([.ref h0, .int 0, .ref h2])).length) Slot.unset).toArray = ls at hl ⊢
  have hl : lv_has ls 11 [(0, .ref h0), (1, .int 0), (2, .ref h2)] := hl
  refine lv_aload_n hx hb dX2_init_2_0 rfl (lv_at hl 2 rfl) ?_
  refine va_instS hx hb hown (hts _ q110) (hK.1 3 _ rfl).2 (va_recv hK hP (ci := 3) (q0 := 2) rfl rfl) dX2_init_2_1 ?_
  refine lv_if_ne (tgt := 17) hx hb dX2_init_2_4 (by decide) (fun _ => ?_) (fun c9 => False.elim (by revert c9; decide))
  refine lv_aload_n hx hb dX2_init_2_17 rfl (lv_at hl 2 rfl) ?_
  refine va_castS hx hb hown (hts _ q110) (hK.1 3 _ rfl).2 (va_recv hK hP (ci := 3) (q0 := 2) rfl rfl) dX2_init_2_18 ?_
  refine lv_astore_n (lv' := [(3, .ref h2), (0, .ref h0), (1, .int 0), (2, .ref h2)]) hx hb dX2_init_2_21 rfl hl (by decide) rfl (fun ls hl => ?_)
  refine lv_aload_n hx hb dX2_init_2_22 rfl (lv_at hl 0 rfl) ?_
  refine va_csr (va_Run.run (va_runV (As := []) (rest := []) ⟨hx, hb, hml, hown, hts⟩ (metX3_getKey l D cB cI s.heap.size h2 h3) (cwV 0 hts (lw_V q179 q180 q181 q10 q182) rfl rfl rfl (by decide +kernel) ⟨Nat.le_of_ble_eq_true rfl, Nat.le_of_ble_eq_true rfl⟩) ⟨PreE.blind, va_recv hK hP (ci := 3) (q0 := 2) rfl rfl, preE hE hP hD hS hA [2] rfl rfl⟩ rfl rfl hl.1 rfl (lv_room (Nat.le_of_ble_eq_true rfl)) dX2_init_2_23 ⟨Nat.le_of_ble_eq_true rfl, Nat.le_of_ble_eq_true rfl⟩)) (fun r9 (e9 : r9 = h3) => ?_)
  rw [e9]
  refine lv_astore (lv' := [(4, .ref h3), (3, .ref h2), (0, .ref h0), (1, .int 0), (2, .ref h2)]) hx hb dX2_init_2_26 hl (by decide) rfl (fun ls hl => ?_)
  refine lv_aload hx hb dX2_init_2_28 (lv_at hl 0 rfl) ?_
  refine va_alen (v := 16) hx hb hK hP 3 0 rfl rfl rfl dX2_init_2_30 ?_
  refine lv_bipush (v := 16) hx hb dX2_init_2_31 (by decide) ?_
  refine lv_icmp_eq (tgt := 46) hx hb dX2_init_2_33 (by decide) (fun _ => ?_) (fun c9 => False.elim (by revert c9; decide))
  refine lv_aload hx hb dX2_init_2_46 (lv_at hl 0 rfl) ?_
  refine lv_iconst (v := 0) hx hb dX2_init_2_48 (by decide) ?_
  refine lv_aload_n hx hb dX2_init_2_49 rfl (lv_at hl 2 rfl) ?_
  refine va_get (D := D) (ci := 2) (v := .ref h1) (C := RX2) (T := TX2) (N := 3) hx hb hts in_X2 hown hK hP 0 rfl rfl 0 (by decide) (hts _ q70) (fun _ h9 => h9) rfl dX2_init_2_50 ?_
  refine lv_iconst (v := 0) hx hb dX2_init_2_53 (by decide) ?_
  refine lv_iconst (v := 4) hx hb dX2_init_2_54 (by decide) ?_
  refine k_v (D := D) (wc := [(h3, .inl (cB, 16, .inl f)), (h1, .inl (cI, 4, .inl (qf (0, 0, 0, 0))))]) (wr := [(h0, .inr (2, [.ref h1, .int 0, .int 0])), (h2, .inr (3, [.ref h3]))]) (va_runS (As := [.ref h3, .int 0, .ref h1, .int 0, .int 4]) (rest := []) ⟨hx, hb, hml, hown, hts⟩ (metX4_bigEndianToInt l D cB cI s.heap.size h3 h1 f) (va_cwS 5 hts (lw_S q184 q185 q16 q186) rfl rfl rfl (by decide +kernel) ⟨Nat.le_of_ble_eq_true rfl, Nat.le_of_ble_eq_true rfl⟩) ⟨PreE.blind, preE hE hP hD hS hA [3, 1] rfl rfl⟩ rfl rfl hl.1 rfl (lv_room (Nat.le_of_ble_eq_true rfl)) dX2_init_2_55 ⟨Nat.le_of_ble_eq_true rfl, Nat.le_of_ble_eq_true rfl⟩) hP hD hS hA [3, 1] [0, 2] rfl rfl rfl (by decide) [0, 3, 1, 2] rfl (fun _ : Unit => [(h0, .inr (2, [.ref h1, .int 0, .int 0])), (h1, .inl (cI, 4, .inl (qf (beQ f)))), (h2, .inr (3, [.ref h3])), (h3, .inl (cB, 16, .inl f))]) (fun _ => rfl) (fun _ H locs hP hD hS => ?_)
  refine lv_iload_n hx hb dX2_init_2_58 rfl (lv_at hl 3 rfl) ?_
  refine lv_if_ne (tgt := 208) hx hb dX2_init_2_59 (by decide) (fun c9 => False.elim (by revert c9; decide)) (fun _ => ?_)
  have hP : va_P D vwCl [(h0, .inr (2, [.ref h1, .int 0, .int 0])), (h1, .inl (cI, 4, .inl (qf (beI f 0, beI f 4, beI f 8, beI f 12)))), (h2, .inr (3, [.ref h3])), (h3, .inl (cB, 16, .inl f))] H := hP
  have hD : va_D A [(h0, .inr (2, [.ref h1, .int 0, .int 0])), (h1, .inl (cI, 4, .inl (qf (beI f 0, beI f 4, beI f 8, beI f 12)))), (h2, .inr (3, [.ref h3])), (h3, .inl (cB, 16, .inl f))] := hD
  refine lv_aload_n hx hb dX2_init_2_62 rfl (lv_at hl 2 rfl) ?_
  refine va_get (D := D) (ci := 2) (v := .ref h1) (C := RX2) (T := TX2) (N := 3) hx hb hts in_X2 hown hK hP 0 rfl rfl 0 (by decide) (hts _ q70) (fun _ h9 => h9) rfl dX2_init_2_63 ?_
  refine lv_iconst (v := 0) hx hb dX2_init_2_66 (by decide) ?_
  refine k_iald (v := beI f 0) hx hb hK hP 1 rfl 0 rfl (Nat.le_of_ble_eq_true rfl) (Nat.le_of_ble_eq_true rfl) rfl dX2_init_2_67 ?_
  refine lv_istore (lv' := [(5, .int (beI f 0)), (4, .ref h3), (3, .ref h2), (0, .ref h0), (1, .int 0), (2, .ref h2)]) hx hb dX2_init_2_68 hl (by decide) rfl (fun ls hl => ?_)
  refine lv_aload_n hx hb dX2_init_2_70 rfl (lv_at hl 3 rfl) ?_
  refine va_get (D := D) (ci := 2) (v := .ref h1) (C := RX2) (T := TX2) (N := 3) hx hb hts in_X2 hown hK hP 0 rfl rfl 0 (by decide) (hts _ q70) (fun _ h9 => h9) rfl dX2_init_2_71 ?_
  refine lv_iconst (v := 1) hx hb dX2_init_2_74 (by decide) ?_
  refine k_iald (v := beI f 4) hx hb hK hP 1 rfl 1 rfl (Nat.le_of_ble_eq_true rfl) (Nat.le_of_ble_eq_true rfl) rfl dX2_init_2_75 ?_
  refine lv_istore (lv' := [(6, .int (beI f 4)), (5, .int (beI f 0)), (4, .ref h3), (3, .ref h2), (0, .ref h0), (1, .int 0), (2, .ref h2)]) hx hb dX2_init_2_76 hl (by decide) rfl (fun ls hl => ?_)
  refine lv_aload_n hx hb dX2_init_2_78 rfl (lv_at hl 4 rfl) ?_
  refine va_get (D := D) (ci := 2) (v := .ref h1) (C := RX2) (T := TX2) (N := 3) hx hb hts in_X2 hown hK hP 0 rfl rfl 0 (by decide) (hts _ q70) (fun _ h9 => h9) rfl dX2_init_2_79 ?_
  refine lv_iconst (v := 2) hx hb dX2_init_2_82 (by decide) ?_
  refine k_iald (v := beI f 8) hx hb hK hP 1 rfl 2 rfl (Nat.le_of_ble_eq_true rfl) (Nat.le_of_ble_eq_true rfl) rfl dX2_init_2_83 ?_
  refine lv_istore (lv' := [(7, .int (beI f 8)), (6, .int (beI f 4)), (5, .int (beI f 0)), (4, .ref h3), (3, .ref h2), (0, .ref h0), (1, .int 0), (2, .ref h2)]) hx hb dX2_init_2_84 hl (by decide) rfl (fun ls hl => ?_)
  refine lv_aload_n hx hb dX2_init_2_86 rfl (lv_at hl 5 rfl) ?_
  refine va_get (D := D) (ci := 2) (v := .ref h1) (C := RX2) (T := TX2) (N := 3) hx hb hts in_X2 hown hK hP 0 rfl rfl 0 (by decide) (hts _ q70) (fun _ h9 => h9) rfl dX2_init_2_87 ?_
  refine lv_iconst (v := 3) hx hb dX2_init_2_90 (by decide) ?_
  refine k_iald (v := beI f 12) hx hb hK hP 1 rfl 3 rfl (Nat.le_of_ble_eq_true rfl) (Nat.le_of_ble_eq_true rfl) rfl dX2_init_2_91 ?_
  refine lv_istore (lv' := [(8, .int (beI f 12)), (7, .int (beI f 8)), (6, .int (beI f 4)), (5, .int (beI f 0)), (4, .ref h3), (3, .ref h2), (0, .ref h0), (1, .int 0), (2, .ref h2)]) hx hb dX2_init_2_92 hl (by decide) rfl (fun ls hl => ?_)
  refine lv_iload hx hb dX2_init_2_94 (lv_at hl 3 rfl) ?_
  refine lv_iload hx hb dX2_init_2_96 (lv_at hl 1 rfl) ?_
  refine lv_ixor hx hb dX2_init_2_98 ?_
  refine lv_istore (lv' := [(9, .int ((beI f 0) ^^^ (beI f 8))), (8, .int (beI f 12)), (7, .int (beI f 8)), (6, .int (beI f 4)), (5, .int (beI f 0)), (4, .ref h3), (3, .ref h2), (0, .ref h0), (1, .int 0), (2, .ref h2)]) hx hb dX2_init_2_99 hl (by decide) rfl (fun ls hl => ?_)
  refine lv_iload hx hb dX2_init_2_101 (lv_at hl 0 rfl) ?_
  refine lv_iload hx hb dX2_init_2_103 (lv_at hl 0 rfl) ?_
  refine lv_bipush (v := 8) hx hb dX2_init_2_105 (by decide) ?_
  refine vp_callSi (va_Run.run (va_runS (As := [.int ((beI f 0) ^^^ (beI f 8)), .int 8]) (rest := [.int ((beI f 0) ^^^ (beI f 8))]) ⟨hx, hb, hml, hown, hts⟩ (metX5_rotateLeft l ((beI f 0) ^^^ (beI f 8)) 8) (va_cwS 2 hts (lw_S q190 q191 q17 q192) rfl rfl rfl (by decide +kernel) ⟨Nat.le_of_ble_eq_true rfl, Nat.le_of_ble_eq_true rfl⟩) ⟨fun _ _ _ _ h => h, fun _ _ _ => ⟨rfl, trivial⟩⟩ rfl rfl hl.1 rfl (lv_room (Nat.le_of_ble_eq_true rfl)) dX2_init_2_107 ⟨Nat.le_of_ble_eq_true rfl, Nat.le_of_ble_eq_true rfl⟩)) (fun r9 (e9 : r9 = rol ((beI f 0) ^^^ (beI f 8)) 8) => ?_)
  subst e9
  refine lv_iload hx hb dX2_init_2_110 (lv_at hl 0 rfl) ?_
  refine lv_bipush (v := 24) hx hb dX2_init_2_112 (by decide) ?_
  refine vp_callSi (va_Run.run (va_runS (As := [.int ((beI f 0) ^^^ (beI f 8)), .int 24]) (rest := [.int (rol ((beI f 0) ^^^ (beI f 8)) 8), .int ((beI f 0) ^^^ (beI f 8))]) ⟨hx, hb, hml, hown, hts⟩ (metX5_rotateLeft l ((beI f 0) ^^^ (beI f 8)) 24) (va_cwS 2 hts (lw_S q190 q191 q17 q192) rfl rfl rfl (by decide +kernel) ⟨Nat.le_of_ble_eq_true rfl, Nat.le_of_ble_eq_true rfl⟩) ⟨fun _ _ _ _ h => h, fun _ _ _ => ⟨rfl, trivial⟩⟩ rfl rfl hl.1 rfl (lv_room (Nat.le_of_ble_eq_true rfl)) dX2_init_2_114 ⟨Nat.le_of_ble_eq_true rfl, Nat.le_of_ble_eq_true rfl⟩)) (fun r9 (e9 : r9 = rol ((beI f 0) ^^^ (beI f 8)) 24) => ?_)
  subst e9
  refine lv_ixor hx hb dX2_init_2_117 ?_
  refine lv_ixor hx hb dX2_init_2_118 ?_
  refine lv_asi (y := spr ((beI f 0) ^^^ (beI f 8))) rfl ?_
  refine lv_istore (lv' := [(9, .int (spr ((beI f 0) ^^^ (beI f 8)))), (8, .int (beI f 12)), (7, .int (beI f 8)), (6, .int (beI f 4)), (5, .int (beI f 0)), (4, .ref h3), (3, .ref h2), (0, .ref h0), (1, .int 0), (2, .ref h2)]) hx hb dX2_init_2_119 hl (by decide) rfl (fun ls hl => ?_)
  refine lv_iload hx hb dX2_init_2_121 (lv_at hl 3 rfl) ?_
  refine lv_iload hx hb dX2_init_2_123 (lv_at hl 1 rfl) ?_
  refine lv_ixor hx hb dX2_init_2_125 ?_
  refine lv_istore (lv' := [(10, .int ((beI f 4) ^^^ (beI f 12))), (9, .int (spr ((beI f 0) ^^^ (beI f 8)))), (8, .int (beI f 12)), (7, .int (beI f 8)), (6, .int (beI f 4)), (5, .int (beI f 0)), (4, .ref h3), (3, .ref h2), (0, .ref h0), (1, .int 0), (2, .ref h2)]) hx hb dX2_init_2_126 hl (by decide) rfl (fun ls hl => ?_)
  refine lv_iload hx hb dX2_init_2_128 (lv_at hl 0 rfl) ?_
  refine lv_iload hx hb dX2_init_2_130 (lv_at hl 0 rfl) ?_
  refine lv_bipush (v := 8) hx hb dX2_init_2_132 (by decide) ?_
  refine vp_callSi (va_Run.run (va_runS (As := [.int ((beI f 4) ^^^ (beI f 12)), .int 8]) (rest := [.int ((beI f 4) ^^^ (beI f 12))]) ⟨hx, hb, hml, hown, hts⟩ (metX5_rotateLeft l ((beI f 4) ^^^ (beI f 12)) 8) (va_cwS 2 hts (lw_S q190 q191 q17 q192) rfl rfl rfl (by decide +kernel) ⟨Nat.le_of_ble_eq_true rfl, Nat.le_of_ble_eq_true rfl⟩) ⟨fun _ _ _ _ h => h, fun _ _ _ => ⟨rfl, trivial⟩⟩ rfl rfl hl.1 rfl (lv_room (Nat.le_of_ble_eq_true rfl)) dX2_init_2_134 ⟨Nat.le_of_ble_eq_true rfl, Nat.le_of_ble_eq_true rfl⟩)) (fun r9 (e9 : r9 = rol ((beI f 4) ^^^ (beI f 12)) 8) => ?_)
  subst e9
  refine lv_iload hx hb dX2_init_2_137 (lv_at hl 0 rfl) ?_
  refine lv_bipush (v := 24) hx hb dX2_init_2_139 (by decide) ?_
  refine vp_callSi (va_Run.run (va_runS (As := [.int ((beI f 4) ^^^ (beI f 12)), .int 24]) (rest := [.int (rol ((beI f 4) ^^^ (beI f 12)) 8), .int ((beI f 4) ^^^ (beI f 12))]) ⟨hx, hb, hml, hown, hts⟩ (metX5_rotateLeft l ((beI f 4) ^^^ (beI f 12)) 24) (va_cwS 2 hts (lw_S q190 q191 q17 q192) rfl rfl rfl (by decide +kernel) ⟨Nat.le_of_ble_eq_true rfl, Nat.le_of_ble_eq_true rfl⟩) ⟨fun _ _ _ _ h => h, fun _ _ _ => ⟨rfl, trivial⟩⟩ rfl rfl hl.1 rfl (lv_room (Nat.le_of_ble_eq_true rfl)) dX2_init_2_141 ⟨Nat.le_of_ble_eq_true rfl, Nat.le_of_ble_eq_true rfl⟩)) (fun r9 (e9 : r9 = rol ((beI f 4) ^^^ (beI f 12)) 24) => ?_)
  subst e9
  refine lv_ixor hx hb dX2_init_2_144 ?_
  refine lv_ixor hx hb dX2_init_2_145 ?_
  refine lv_asi (y := spr ((beI f 4) ^^^ (beI f 12))) rfl ?_
  refine lv_istore (lv' := [(10, .int (spr ((beI f 4) ^^^ (beI f 12)))), (9, .int (spr ((beI f 0) ^^^ (beI f 8)))), (8, .int (beI f 12)), (7, .int (beI f 8)), (6, .int (beI f 4)), (5, .int (beI f 0)), (4, .ref h3), (3, .ref h2), (0, .ref h0), (1, .int 0), (2, .ref h2)]) hx hb dX2_init_2_146 hl (by decide) rfl (fun ls hl => ?_)
  refine lv_iload hx hb dX2_init_2_148 (lv_at hl 5 rfl) ?_
  refine lv_iload hx hb dX2_init_2_150 (lv_at hl 0 rfl) ?_
  refine lv_ixor hx hb dX2_init_2_152 ?_
  refine lv_istore (lv' := [(5, .int ((beI f 0) ^^^ (spr ((beI f 4) ^^^ (beI f 12))))), (10, .int (spr ((beI f 4) ^^^ (beI f 12)))), (9, .int (spr ((beI f 0) ^^^ (beI f 8)))), (8, .int (beI f 12)), (7, .int (beI f 8)), (6, .int (beI f 4)), (4, .ref h3), (3, .ref h2), (0, .ref h0), (1, .int 0), (2, .ref h2)]) hx hb dX2_init_2_153 hl (by decide) rfl (fun ls hl => ?_)
  refine lv_iload hx hb dX2_init_2_155 (lv_at hl 5 rfl) ?_
  refine lv_iload hx hb dX2_init_2_157 (lv_at hl 2 rfl) ?_
  refine lv_ixor hx hb dX2_init_2_159 ?_
  refine lv_istore (lv' := [(6, .int ((beI f 4) ^^^ (spr ((beI f 0) ^^^ (beI f 8))))), (5, .int ((beI f 0) ^^^ (spr ((beI f 4) ^^^ (beI f 12))))), (10, .int (spr ((beI f 4) ^^^ (beI f 12)))), (9, .int (spr ((beI f 0) ^^^ (beI f 8)))), (8, .int (beI f 12)), (7, .int (beI f 8)), (4, .ref h3), (3, .ref h2), (0, .ref h0), (1, .int 0), (2, .ref h2)]) hx hb dX2_init_2_160 hl (by decide) rfl (fun ls hl => ?_)
  refine lv_iload hx hb dX2_init_2_162 (lv_at hl 5 rfl) ?_
  refine lv_iload hx hb dX2_init_2_164 (lv_at hl 2 rfl) ?_
  refine lv_ixor hx hb dX2_init_2_166 ?_
  refine lv_istore (lv' := [(7, .int ((beI f 8) ^^^ (spr ((beI f 4) ^^^ (beI f 12))))), (6, .int ((beI f 4) ^^^ (spr ((beI f 0) ^^^ (beI f 8))))), (5, .int ((beI f 0) ^^^ (spr ((beI f 4) ^^^ (beI f 12))))), (10, .int (spr ((beI f 4) ^^^ (beI f 12)))), (9, .int (spr ((beI f 0) ^^^ (beI f 8)))), (8, .int (beI f 12)), (4, .ref h3), (3, .ref h2), (0, .ref h0), (1, .int 0), (2, .ref h2)]) hx hb dX2_init_2_167 hl (by decide) rfl (fun ls hl => ?_)
  refine lv_iload hx hb dX2_init_2_169 (lv_at hl 5 rfl) ?_
  refine lv_iload hx hb dX2_init_2_171 (lv_at hl 4 rfl) ?_
  refine lv_ixor hx hb dX2_init_2_173 ?_
  refine lv_istore (lv' := [(8, .int ((beI f 12) ^^^ (spr ((beI f 0) ^^^ (beI f 8))))), (7, .int ((beI f 8) ^^^ (spr ((beI f 4) ^^^ (beI f 12))))), (6, .int ((beI f 4) ^^^ (spr ((beI f 0) ^^^ (beI f 8))))), (5, .int ((beI f 0) ^^^ (spr ((beI f 4) ^^^ (beI f 12))))), (10, .int (spr ((beI f 4) ^^^ (beI f 12)))), (9, .int (spr ((beI f 0) ^^^ (beI f 8)))), (4, .ref h3), (3, .ref h2), (0, .ref h0), (1, .int 0), (2, .ref h2)]) hx hb dX2_init_2_174 hl (by decide) rfl (fun ls hl => ?_)
  refine lv_aload_n hx hb dX2_init_2_176 rfl (lv_at hl 8 rfl) ?_
  refine va_get (D := D) (ci := 2) (v := .ref h1) (C := RX2) (T := TX2) (N := 3) hx hb hts in_X2 hown hK hP 0 rfl rfl 0 (by decide) (hts _ q70) (fun _ h9 => h9) rfl dX2_init_2_177 ?_
  refine lv_iconst (v := 0) hx hb dX2_init_2_180 (by decide) ?_
  refine lv_iload hx hb dX2_init_2_181 (lv_at hl 3 rfl) ?_
  refine k_iast (f' := qf ((beI f 0) ^^^ (spr ((beI f 4) ^^^ (beI f 12))), beI f 4, beI f 8, beI f 12)) (w2 := [(h0, .inr (2, [.ref h1, .int 0, .int 0])), (h1, .inl (cI, 4, .inl (qf ((beI f 0) ^^^ (spr ((beI f 4) ^^^ (beI f 12))), beI f 4, beI f 8, beI f 12)))), (h2, .inr (3, [.ref h3])), (h3, .inl (cB, 16, .inl f))]) hx hb hK hP hD hS 1 rfl 0 rfl (Nat.le_of_ble_eq_true rfl) (Nat.le_of_ble_eq_true rfl) (qf_u0 _ _ _ _ _) dX2_init_2_183 rfl (fun H locs hP hD hS => ?_)
  refine lv_aload_n hx hb dX2_init_2_184 rfl (lv_at hl 8 rfl) ?_
  refine va_get (D := D) (ci := 2) (v := .ref h1) (C := RX2) (T := TX2) (N := 3) hx hb hts in_X2 hown hK hP 0 rfl rfl 0 (by decide) (hts _ q70) (fun _ h9 => h9) rfl dX2_init_2_185 ?_
  refine lv_iconst (v := 1) hx hb dX2_init_2_188 (by decide) ?_
  refine lv_iload hx hb dX2_init_2_189 (lv_at hl 2 rfl) ?_
  refine k_iast (f' := qf ((beI f 0) ^^^ (spr ((beI f 4) ^^^ (beI f 12))), (beI f 4) ^^^ (spr ((beI f 0) ^^^ (beI f 8))), beI f 8, beI f 12)) (w2 := [(h0, .inr (2, [.ref h1, .int 0, .int 0])), (h1, .inl (cI, 4, .inl (qf ((beI f 0) ^^^ (spr ((beI f 4) ^^^ (beI f 12))), (beI f 4) ^^^ (spr ((beI f 0) ^^^ (beI f 8))), beI f 8, beI f 12)))), (h2, .inr (3, [.ref h3])), (h3, .inl (cB, 16, .inl f))]) hx hb hK hP hD hS 1 rfl 1 rfl (Nat.le_of_ble_eq_true rfl) (Nat.le_of_ble_eq_true rfl) (qf_u1 _ _ _ _ _) dX2_init_2_191 rfl (fun H locs hP hD hS => ?_)
  refine lv_aload_n hx hb dX2_init_2_192 rfl (lv_at hl 8 rfl) ?_
  refine va_get (D := D) (ci := 2) (v := .ref h1) (C := RX2) (T := TX2) (N := 3) hx hb hts in_X2 hown hK hP 0 rfl rfl 0 (by decide) (hts _ q70) (fun _ h9 => h9) rfl dX2_init_2_193 ?_
  refine lv_iconst (v := 2) hx hb dX2_init_2_196 (by decide) ?_
  refine lv_iload hx hb dX2_init_2_197 (lv_at hl 1 rfl) ?_
  refine k_iast (f' := qf ((beI f 0) ^^^ (spr ((beI f 4) ^^^ (beI f 12))), (beI f 4) ^^^ (spr ((beI f 0) ^^^ (beI f 8))), (beI f 8) ^^^ (spr ((beI f 4) ^^^ (beI f 12))), beI f 12)) (w2 := [(h0, .inr (2, [.ref h1, .int 0, .int 0])), (h1, .inl (cI, 4, .inl (qf ((beI f 0) ^^^ (spr ((beI f 4) ^^^ (beI f 12))), (beI f 4) ^^^ (spr ((beI f 0) ^^^ (beI f 8))), (beI f 8) ^^^ (spr ((beI f 4) ^^^ (beI f 12))), beI f 12)))), (h2, .inr (3, [.ref h3])), (h3, .inl (cB, 16, .inl f))]) hx hb hK hP hD hS 1 rfl 2 rfl (Nat.le_of_ble_eq_true rfl) (Nat.le_of_ble_eq_true rfl) (qf_u2 _ _ _ _ _) dX2_init_2_199 rfl (fun H locs hP hD hS => ?_)
  refine lv_aload_n hx hb dX2_init_2_200 rfl (lv_at hl 8 rfl) ?_
  refine va_get (D := D) (ci := 2) (v := .ref h1) (C := RX2) (T := TX2) (N := 3) hx hb hts in_X2 hown hK hP 0 rfl rfl 0 (by decide) (hts _ q70) (fun _ h9 => h9) rfl dX2_init_2_201 ?_
  refine lv_iconst (v := 3) hx hb dX2_init_2_204 (by decide) ?_
  refine lv_iload hx hb dX2_init_2_205 (lv_at hl 0 rfl) ?_
  refine k_iast (f' := qf ((beI f 0) ^^^ (spr ((beI f 4) ^^^ (beI f 12))), (beI f 4) ^^^ (spr ((beI f 0) ^^^ (beI f 8))), (beI f 8) ^^^ (spr ((beI f 4) ^^^ (beI f 12))), (beI f 12) ^^^ (spr ((beI f 0) ^^^ (beI f 8))))) (w2 := [(h0, .inr (2, [.ref h1, .int 0, .int 0])), (h1, .inl (cI, 4, .inl (qf ((beI f 0) ^^^ (spr ((beI f 4) ^^^ (beI f 12))), (beI f 4) ^^^ (spr ((beI f 0) ^^^ (beI f 8))), (beI f 8) ^^^ (spr ((beI f 4) ^^^ (beI f 12))), (beI f 12) ^^^ (spr ((beI f 0) ^^^ (beI f 8))))))), (h2, .inr (3, [.ref h3])), (h3, .inl (cB, 16, .inl f))]) hx hb hK hP hD hS 1 rfl 3 rfl (Nat.le_of_ble_eq_true rfl) (Nat.le_of_ble_eq_true rfl) (qf_u3 _ _ _ _ _) dX2_init_2_207 rfl (fun H locs hP hD hS => ?_)
  refine lv_aload_n hx hb dX2_init_2_208 rfl (lv_at hl 8 rfl) ?_
  refine lv_iload_n hx hb dX2_init_2_209 rfl (lv_at hl 9 rfl) ?_
  refine va_put (D := D) (ci := 2) (v := .int 0) (ty := .boolean) (C := RX2) (T := TX2) (N := 3) hx hb hts in_X2 tyX2 tyX2_ok nmX2 hown hK hP hD hS 0 rfl rfl 2 (by decide) (hts _ q72) (fun _ h9 => h9) rfl (by decide +kernel) rfl rfl (Nat.le_of_ble_eq_true rfl) dX2_init_2_210 (fun H locs hP hD hS => ?_)
  have hP : va_P D vwCl [(h0, .inr (2, [.ref h1, .int 0, .int 0])), (h1, .inl (cI, 4, .inl (qf ((beI f 0) ^^^ (spr ((beI f 4) ^^^ (beI f 12))), (beI f 4) ^^^ (spr ((beI f 0) ^^^ (beI f 8))), (beI f 8) ^^^ (spr ((beI f 4) ^^^ (beI f 12))), (beI f 12) ^^^ (spr ((beI f 0) ^^^ (beI f 8))))))), (h2, .inr (3, [.ref h3])), (h3, .inl (cB, 16, .inl f))] H := hP
  have hD : va_D A [(h0, .inr (2, [.ref h1, .int 0, .int 0])), (h1, .inl (cI, 4, .inl (qf ((beI f 0) ^^^ (spr ((beI f 4) ^^^ (beI f 12))), (beI f 4) ^^^ (spr ((beI f 0) ^^^ (beI f 8))), (beI f 8) ^^^ (spr ((beI f 4) ^^^ (beI f 12))), (beI f 12) ^^^ (spr ((beI f 0) ^^^ (beI f 8))))))), (h2, .inr (3, [.ref h3])), (h3, .inl (cB, 16, .inl f))] := hD
  refine lv_aload_n hx hb dX2_init_2_213 rfl (lv_at hl 8 rfl) ?_
  refine lv_iconst (v := 1) hx hb dX2_init_2_214 (by decide) ?_
  refine va_put (D := D) (ci := 2) (v := .int 1) (ty := .boolean) (C := RX2) (T := TX2) (N := 3) hx hb hts in_X2 tyX2 tyX2_ok nmX2 hown hK hP hD hS 0 rfl rfl 1 (by decide) (hts _ q71) (fun _ h9 => h9) rfl (by decide +kernel) rfl rfl (Nat.le_of_ble_eq_true rfl) dX2_init_2_215 (fun H locs hP hD hS => ?_)
  have hP : va_P D vwCl [(h0, .inr (2, [.ref h1, .int 1, .int 0])), (h1, .inl (cI, 4, .inl (qf ((beI f 0) ^^^ (spr ((beI f 4) ^^^ (beI f 12))), (beI f 4) ^^^ (spr ((beI f 0) ^^^ (beI f 8))), (beI f 8) ^^^ (spr ((beI f 4) ^^^ (beI f 12))), (beI f 12) ^^^ (spr ((beI f 0) ^^^ (beI f 8))))))), (h2, .inr (3, [.ref h3])), (h3, .inl (cB, 16, .inl f))] H := hP
  have hD : va_D A [(h0, .inr (2, [.ref h1, .int 1, .int 0])), (h1, .inl (cI, 4, .inl (qf ((beI f 0) ^^^ (spr ((beI f 4) ^^^ (beI f 12))), (beI f 4) ^^^ (spr ((beI f 0) ^^^ (beI f 8))), (beI f 8) ^^^ (spr ((beI f 4) ^^^ (beI f 12))), (beI f 12) ^^^ (spr ((beI f 0) ^^^ (beI f 8))))))), (h2, .inr (3, [.ref h3])), (h3, .inl (cB, 16, .inl f))] := hD
  exact W.vret hx hb hr (fun t ht hW => ⟨⟨(), rfl, trivial, by rw [ht]; exact hP, hD⟩, hS.F ht⟩) hS.2.2 dX2_init_2_218
end
section
set_option maxHeartbeats 4000000 in
set_option maxRecDepth 100000 in
theorem metX2_encryptBlock (l : Launch) (D : va_G) (cB cI : ClassId) (sz : Nat) (h0 h1 h2 h3 : Nat) (K : Q4) (fi fo : Nat → Int32) : Met l yX2_encryptBlock (ws_ yX2_encryptBlock cX2_encryptBlock 16 (some .int)) ({ frames := 2, cells := 0, slots := 0, locals := 120 } : Room) (PreE D cB cI [.ref h0, .ref h2, .int 0, .ref h3, .int 0] sz [(h0, .inr (2, [.ref h1, .int 1, .int 1])), (h1, .inl (cI, 4, .inl (qf K))), (h2, .inl (cB, 16, .inl fi)), (h3, .inl (cB, 16, .inl fo))]) (PostI D (va_A [(h0, .inr (2, [.ref h1, .int 1, .int 1])), (h1, .inl (cI, 4, .inl (qf K))), (h2, .inl (cB, 16, .inl fi)), (h3, .inl (cB, 16, .inl fo))] sz) 16 (fun _ : Unit => [(h0, .inr (2, [.ref h1, .int 1, .int 1])), (h1, .inl (cI, 4, .inl (qf K))), (h2, .inl (cB, 16, .inl fi)), (h3, .inl (cB, 16, .inl (itQ fo (enF K (beQ fi)))))])) 0 0 (va_A [(h0, .inr (2, [.ref h1, .int 1, .int 1])), (h1, .inl (cI, 4, .inl (qf K))), (h2, .inl (cB, 16, .inl fi)), (h3, .inl (cB, 16, .inl fo))] sz) := by
  refine Met.ofW (cc := cX2_encryptBlock) (maxL := 16) (ret := (some .int)) (by decide) rfl ?_
  intro p e s m args below meth c s₁ B hml hv
  obtain ⟨rfl, hsz, hP, hD0, hE⟩ := hv
  have hx := B.exec
  have hb := B.bytes
  have hr := B.returns
  have hts := atoms_spec (ws := ws_ yX2_encryptBlock cX2_encryptBlock 16 (some .int)) B.pre
  have hts : ∀ w ∈ lw_all, w.before _ s = true := fun w h => hts w (List.mem_cons_of_mem _ h)
  have hown : s.vm.findClass RX2 = some m.cls := findClass_of_methodNamed B.named
  have hlocks := B.notSynchronized
  subst hsz
  have hD := hD0.self (sz := s.heap.size)
  generalize hAe : va_A [(h0, .inr (2, [.ref h1, .int 1, .int 1])), (h1, .inl (cI, 4, .inl (qf K))), (h2, .inl (cB, 16, .inl fi)), (h3, .inl (cB, 16, .inl fo))] s.heap.size = A at hD hE ⊢
  have hA : ∀ q : Nat, s.heap.size ≤ q → A q := fun q h => by rw [← hAe]; exact Or.inr h
  have hS : va_S A s.heap s.heap [] := va_S.rf
  have hK := hE.1
  have hP : va_P D vwCl [(h0, .inr (2, [.ref h1, .int 1, .int 1])), (h1, .inl (cI, 4, .inl (qf K))), (h2, .inl (cB, 16, .inl fi)), (h3, .inl (cB, 16, .inl fo))] s.heap := hP
  have hl := lv_entry ([.ref h0, .ref h2, .int 0, .ref h3, .int 0]) (n := 16) (Nat.le_of_ble_eq_true rfl)
  rw [lg_entry_eq]
  generalize (lg_sl ([.ref h0, .ref h2, .int 0, .ref h3, .int 0]) ++ List.replicate (16 - (lg_sl ([.ref h0, .ref h2, .int 0, .ref h3, .int 0])).length) Slot.unset).toArray = ls at hl ⊢
  have hl : lv_has ls 16 [(0, .ref h0), (1, .ref h2), (2, .int 0), (3, .ref h3), (4, .int 0)] := hl
  obtain ⟨tr, hZ, hT⟩ := hE.2.1
  refine lv_aload_n hx hb dX2_encryptBlock_0 rfl (lv_at hl 1 rfl) ?_
  refine lv_iload_n hx hb dX2_encryptBlock_1 rfl (lv_at hl 2 rfl) ?_
  refine lv_asi (y := nI 0) rfl ?_
  refine vp_callSi (va_Run.run (va_runS (As := [.ref h2, .int (nI 0)]) (rest := []) ⟨hx, hb, hml, hown, hts⟩ (metX4_bigEndianToInt_2 l D cB cI s.heap.size h2 fi 0 (Nat.le_of_ble_eq_true rfl)) (va_cwS 2 hts (lw_S q261 q188 q16 q189) rfl rfl rfl (by decide +kernel) ⟨Nat.le_of_ble_eq_true rfl, Nat.le_of_ble_eq_true rfl⟩) ⟨PreE.blind, preE hE hP hD hS hA [2] rfl rfl⟩ rfl rfl hl.1 rfl (lv_room (Nat.le_of_ble_eq_true rfl)) dX2_encryptBlock_2 ⟨Nat.le_of_ble_eq_true rfl, Nat.le_of_ble_eq_true rfl⟩)) (fun r9 (e9 : r9 = beI fi 0) => ?_)
  subst e9
  refine lv_istore (lv' := [(5, .int (beI fi 0)), (0, .ref h0), (1, .ref h2), (2, .int 0), (3, .ref h3), (4, .int 0)]) hx hb dX2_encryptBlock_5 hl (by decide) rfl (fun ls hl => ?_)
  refine lv_aload_n hx hb dX2_encryptBlock_7 rfl (lv_at hl 2 rfl) ?_
  refine lv_iload_n hx hb dX2_encryptBlock_8 rfl (lv_at hl 3 rfl) ?_
  refine lv_iconst (v := 4) hx hb dX2_encryptBlock_9 (by decide) ?_
  refine lv_iadd hx hb dX2_encryptBlock_10 ?_
  refine lv_asi (y := 4) (by decide) ?_
  refine lv_asi (y := nI 4) rfl ?_
  refine vp_callSi (va_Run.run (va_runS (As := [.ref h2, .int (nI 4)]) (rest := []) ⟨hx, hb, hml, hown, hts⟩ (metX4_bigEndianToInt_2 l D cB cI s.heap.size h2 fi 4 (Nat.le_of_ble_eq_true rfl)) (va_cwS 2 hts (lw_S q261 q188 q16 q189) rfl rfl rfl (by decide +kernel) ⟨Nat.le_of_ble_eq_true rfl, Nat.le_of_ble_eq_true rfl⟩) ⟨PreE.blind, preE hE hP hD hS hA [2] rfl rfl⟩ rfl rfl hl.1 rfl (lv_room (Nat.le_of_ble_eq_true rfl)) dX2_encryptBlock_11 ⟨Nat.le_of_ble_eq_true rfl, Nat.le_of_ble_eq_true rfl⟩)) (fun r9 (e9 : r9 = beI fi 4) => ?_)
  subst e9
  refine lv_istore (lv' := [(6, .int (beI fi 4)), (5, .int (beI fi 0)), (0, .ref h0), (1, .ref h2), (2, .int 0), (3, .ref h3), (4, .int 0)]) hx hb dX2_encryptBlock_14 hl (by decide) rfl (fun ls hl => ?_)
  refine lv_aload_n hx hb dX2_encryptBlock_16 rfl (lv_at hl 3 rfl) ?_
  refine lv_iload_n hx hb dX2_encryptBlock_17 rfl (lv_at hl 4 rfl) ?_
  refine lv_bipush (v := 8) hx hb dX2_encryptBlock_18 (by decide) ?_
  refine lv_iadd hx hb dX2_encryptBlock_20 ?_
  refine lv_asi (y := 8) (by decide) ?_
  refine lv_asi (y := nI 8) rfl ?_
  refine vp_callSi (va_Run.run (va_runS (As := [.ref h2, .int (nI 8)]) (rest := []) ⟨hx, hb, hml, hown, hts⟩ (metX4_bigEndianToInt_2 l D cB cI s.heap.size h2 fi 8 (Nat.le_of_ble_eq_true rfl)) (va_cwS 2 hts (lw_S q261 q188 q16 q189) rfl rfl rfl (by decide +kernel) ⟨Nat.le_of_ble_eq_true rfl, Nat.le_of_ble_eq_true rfl⟩) ⟨PreE.blind, preE hE hP hD hS hA [2] rfl rfl⟩ rfl rfl hl.1 rfl (lv_room (Nat.le_of_ble_eq_true rfl)) dX2_encryptBlock_21 ⟨Nat.le_of_ble_eq_true rfl, Nat.le_of_ble_eq_true rfl⟩)) (fun r9 (e9 : r9 = beI fi 8) => ?_)
  subst e9
  refine lv_istore (lv' := [(7, .int (beI fi 8)), (6, .int (beI fi 4)), (5, .int (beI fi 0)), (0, .ref h0), (1, .ref h2), (2, .int 0), (3, .ref h3), (4, .int 0)]) hx hb dX2_encryptBlock_24 hl (by decide) rfl (fun ls hl => ?_)
  refine lv_aload_n hx hb dX2_encryptBlock_26 rfl (lv_at hl 4 rfl) ?_
  refine lv_iload_n hx hb dX2_encryptBlock_27 rfl (lv_at hl 5 rfl) ?_
  refine lv_bipush (v := 12) hx hb dX2_encryptBlock_28 (by decide) ?_
  refine lv_iadd hx hb dX2_encryptBlock_30 ?_
  refine lv_asi (y := 12) (by decide) ?_
  refine lv_asi (y := nI 12) rfl ?_
  refine vp_callSi (va_Run.run (va_runS (As := [.ref h2, .int (nI 12)]) (rest := []) ⟨hx, hb, hml, hown, hts⟩ (metX4_bigEndianToInt_2 l D cB cI s.heap.size h2 fi 12 (Nat.le_of_ble_eq_true rfl)) (va_cwS 2 hts (lw_S q261 q188 q16 q189) rfl rfl rfl (by decide +kernel) ⟨Nat.le_of_ble_eq_true rfl, Nat.le_of_ble_eq_true rfl⟩) ⟨PreE.blind, preE hE hP hD hS hA [2] rfl rfl⟩ rfl rfl hl.1 rfl (lv_room (Nat.le_of_ble_eq_true rfl)) dX2_encryptBlock_31 ⟨Nat.le_of_ble_eq_true rfl, Nat.le_of_ble_eq_true rfl⟩)) (fun r9 (e9 : r9 = beI fi 12) => ?_)
  subst e9
  refine lv_istore (lv' := [(8, .int (beI fi 12)), (7, .int (beI fi 8)), (6, .int (beI fi 4)), (5, .int (beI fi 0)), (0, .ref h0), (1, .ref h2), (2, .int 0), (3, .ref h3), (4, .int 0)]) hx hb dX2_encryptBlock_34 hl (by decide) rfl (fun ls hl => ?_)
  refine lv_aload_n hx hb dX2_encryptBlock_36 rfl (lv_at hl 4 rfl) ?_
  refine va_get (D := D) (ci := 2) (v := .ref h1) (C := RX2) (T := TX2) (N := 3) hx hb hts in_X2 hown hK hP 0 rfl rfl 0 (by decide) (hts _ q70) (fun _ h9 => h9) rfl dX2_encryptBlock_37 ?_
  refine lv_iconst (v := 0) hx hb dX2_encryptBlock_40 (by decide) ?_
  refine k_iald (v := K.1) hx hb hK hP 1 rfl 0 rfl (Nat.le_of_ble_eq_true rfl) (Nat.le_of_ble_eq_true rfl) rfl dX2_encryptBlock_41 ?_
  refine lv_istore (lv' := [(9, .int K.1), (8, .int (beI fi 12)), (7, .int (beI fi 8)), (6, .int (beI fi 4)), (5, .int (beI fi 0)), (0, .ref h0), (1, .ref h2), (2, .int 0), (3, .ref h3), (4, .int 0)]) hx hb dX2_encryptBlock_42 hl (by decide) rfl (fun ls hl => ?_)
  refine lv_aload_n hx hb dX2_encryptBlock_44 rfl (lv_at hl 5 rfl) ?_
  refine va_get (D := D) (ci := 2) (v := .ref h1) (C := RX2) (T := TX2) (N := 3) hx hb hts in_X2 hown hK hP 0 rfl rfl 0 (by decide) (hts _ q70) (fun _ h9 => h9) rfl dX2_encryptBlock_45 ?_
  refine lv_iconst (v := 1) hx hb dX2_encryptBlock_48 (by decide) ?_
  refine k_iald (v := K.2.1) hx hb hK hP 1 rfl 1 rfl (Nat.le_of_ble_eq_true rfl) (Nat.le_of_ble_eq_true rfl) rfl dX2_encryptBlock_49 ?_
  refine lv_istore (lv' := [(10, .int K.2.1), (9, .int K.1), (8, .int (beI fi 12)), (7, .int (beI fi 8)), (6, .int (beI fi 4)), (5, .int (beI fi 0)), (0, .ref h0), (1, .ref h2), (2, .int 0), (3, .ref h3), (4, .int 0)]) hx hb dX2_encryptBlock_50 hl (by decide) rfl (fun ls hl => ?_)
  refine lv_aload_n hx hb dX2_encryptBlock_52 rfl (lv_at hl 6 rfl) ?_
  refine va_get (D := D) (ci := 2) (v := .ref h1) (C := RX2) (T := TX2) (N := 3) hx hb hts in_X2 hown hK hP 0 rfl rfl 0 (by decide) (hts _ q70) (fun _ h9 => h9) rfl dX2_encryptBlock_53 ?_
  refine lv_iconst (v := 2) hx hb dX2_encryptBlock_56 (by decide) ?_
  refine k_iald (v := K.2.2.1) hx hb hK hP 1 rfl 2 rfl (Nat.le_of_ble_eq_true rfl) (Nat.le_of_ble_eq_true rfl) rfl dX2_encryptBlock_57 ?_
  refine lv_istore (lv' := [(11, .int K.2.2.1), (10, .int K.2.1), (9, .int K.1), (8, .int (beI fi 12)), (7, .int (beI fi 8)), (6, .int (beI fi 4)), (5, .int (beI fi 0)), (0, .ref h0), (1, .ref h2), (2, .int 0), (3, .ref h3), (4, .int 0)]) hx hb dX2_encryptBlock_58 hl (by decide) rfl (fun ls hl => ?_)
  refine lv_aload_n hx hb dX2_encryptBlock_60 rfl (lv_at hl 7 rfl) ?_
  refine va_get (D := D) (ci := 2) (v := .ref h1) (C := RX2) (T := TX2) (N := 3) hx hb hts in_X2 hown hK hP 0 rfl rfl 0 (by decide) (hts _ q70) (fun _ h9 => h9) rfl dX2_encryptBlock_61 ?_
  refine lv_iconst (v := 3) hx hb dX2_encryptBlock_64 (by decide) ?_
  refine k_iald (v := K.2.2.2) hx hb hK hP 1 rfl 3 rfl (Nat.le_of_ble_eq_true rfl) (Nat.le_of_ble_eq_true rfl) rfl dX2_encryptBlock_65 ?_
  refine lv_istore (lv' := [(12, .int K.2.2.2), (11, .int K.2.2.1), (10, .int K.2.1), (9, .int K.1), (8, .int (beI fi 12)), (7, .int (beI fi 8)), (6, .int (beI fi 4)), (5, .int (beI fi 0)), (0, .ref h0), (1, .ref h2), (2, .int 0), (3, .ref h3), (4, .int 0)]) hx hb dX2_encryptBlock_66 hl (by decide) rfl (fun ls hl => ?_)
  refine lv_iconst (v := 0) hx hb dX2_encryptBlock_68 (by decide) ?_
  refine lv_istore (lv' := [(13, .int 0), (12, .int K.2.2.2), (11, .int K.2.2.1), (10, .int K.2.1), (9, .int K.1), (8, .int (beI fi 12)), (7, .int (beI fi 8)), (6, .int (beI fi 4)), (5, .int (beI fi 0)), (0, .ref h0), (1, .ref h2), (2, .int 0), (3, .ref h3), (4, .int 0)]) hx hb dX2_encryptBlock_69 hl (by decide) rfl (fun ls hl => ?_)
  have loop : ∀ (n i : Nat), i + n = 16 → ∀ (a0 a1 a2 a3 : Int32), (a0, a1, a2, a3) = enI K (beQ fi) i → ∀ (ls : Array Slot), lv_has ls 16 [(13, .int (nI i)), (12, .int K.2.2.2), (11, .int K.2.2.1), (10, .int K.2.1), (9, .int K.1), (8, .int a3), (7, .int a2), (6, .int a1), (5, .int a0), (4, .int 0), (3, .ref h3), (2, .int 0), (1, .ref h2), (0, .ref h0)] → W p l e (headSpec (ws_ yX2_encryptBlock cX2_encryptBlock 16 (some .int)) ({ frames := 2, cells := 0, slots := 0, locals := 120 } : Room)).room s m ([.ref h0, .ref h2, .int 0, .ref h3, .int 0] : List Value).toArray below meth c s.heap [] 0 0 (MQ below (PostI D A 16 (fun _ : Unit => [(h0, .inr (2, [.ref h1, .int 1, .int 1])), (h1, .inl (cI, 4, .inl (qf K))), (h2, .inl (cB, 16, .inl fi)), (h3, .inl (cB, 16, .inl (itQ fo (enF K (beQ fi)))))])) ([.ref h0, .ref h2, .int 0, .ref h3, .int 0] : List Value).toArray s 0 0 A) (F0 m 71 ls []) := by
    intro n
    induction n with
    | zero =>
      intro i hi a0 a1 a2 a3 he ls hl
      have hi6 : i = 16 := by omega
      subst hi6
      refine lv_iload hx hb dX2_encryptBlock_71 (lv_at hl 8 rfl) ?_
      refine va_gets hx hb hZ hS hown (hts _ q262) (fun _ h9 => h9) dX2_encryptBlock_73 ?_
      refine lv_iload hx hb dX2_encryptBlock_76 (lv_at hl 0 rfl) ?_
      refine va_tb (v := .int (rcB 16)) hx hb hT hS (vp_in_nI (show 16 < 17 by omega) (by omega)) (by rw [nI_clamp (show 16 < 2 ^ 31 by omega)]) dX2_encryptBlock_78 ?_
      refine lv_sipush (v := 255) hx hb dX2_encryptBlock_79 (by decide) ?_
      refine lv_iand hx hb dX2_encryptBlock_82 ?_
      refine lv_ixor hx hb dX2_encryptBlock_83 ?_
      refine lv_asi (y := a0 ^^^ rcE 16) rfl ?_
      refine lv_topi (fun x5_1 ex5_1 => ?_)
      refine lv_istore (lv' := [(5, .int x5_1), (13, .int (nI 16)), (12, .int K.2.2.2), (11, .int K.2.2.1), (10, .int K.2.1), (9, .int K.1), (8, .int a3), (7, .int a2), (6, .int a1), (4, .int 0), (3, .ref h3), (2, .int 0), (1, .ref h2), (0, .ref h0)]) hx hb dX2_encryptBlock_84 hl (by decide) rfl (fun ls hl => ?_)
      refine lv_iload hx hb dX2_encryptBlock_86 (lv_at hl 0 rfl) ?_
      refine lv_iload hx hb dX2_encryptBlock_88 (lv_at hl 7 rfl) ?_
      refine lv_ixor hx hb dX2_encryptBlock_90 ?_
      refine lv_topi (fun x14_2 ex14_2 => ?_)
      refine lv_istore (lv' := [(14, .int x14_2), (5, .int x5_1), (13, .int (nI 16)), (12, .int K.2.2.2), (11, .int K.2.2.1), (10, .int K.2.1), (9, .int K.1), (8, .int a3), (7, .int a2), (6, .int a1), (4, .int 0), (3, .ref h3), (2, .int 0), (1, .ref h2), (0, .ref h0)]) hx hb dX2_encryptBlock_91 hl (by decide) rfl (fun ls hl => ?_)
      refine lv_iload hx hb dX2_encryptBlock_93 (lv_at hl 0 rfl) ?_
      refine lv_iload hx hb dX2_encryptBlock_95 (lv_at hl 0 rfl) ?_
      refine lv_bipush (v := 8) hx hb dX2_encryptBlock_97 (by decide) ?_
      refine vp_callSi (va_Run.run (va_runS (As := [.int x14_2, .int 8]) (rest := [.int x14_2]) ⟨hx, hb, hml, hown, hts⟩ (metX5_rotateLeft l x14_2 8) (va_cwS 2 hts (lw_S q190 q191 q17 q192) rfl rfl rfl (by decide +kernel) ⟨Nat.le_of_ble_eq_true rfl, Nat.le_of_ble_eq_true rfl⟩) ⟨fun _ _ _ _ h => h, fun _ _ _ => ⟨rfl, trivial⟩⟩ rfl rfl hl.1 rfl (lv_room (Nat.le_of_ble_eq_true rfl)) dX2_encryptBlock_99 ⟨Nat.le_of_ble_eq_true rfl, Nat.le_of_ble_eq_true rfl⟩)) (fun r9 (e9 : r9 = rol x14_2 8) => ?_)
      subst e9
      refine lv_iload hx hb dX2_encryptBlock_102 (lv_at hl 0 rfl) ?_
      refine lv_bipush (v := 24) hx hb dX2_encryptBlock_104 (by decide) ?_
      refine vp_callSi (va_Run.run (va_runS (As := [.int x14_2, .int 24]) (rest := [.int (rol x14_2 8), .int x14_2]) ⟨hx, hb, hml, hown, hts⟩ (metX5_rotateLeft l x14_2 24) (va_cwS 2 hts (lw_S q190 q191 q17 q192) rfl rfl rfl (by decide +kernel) ⟨Nat.le_of_ble_eq_true rfl, Nat.le_of_ble_eq_true rfl⟩) ⟨fun _ _ _ _ h => h, fun _ _ _ => ⟨rfl, trivial⟩⟩ rfl rfl hl.1 rfl (lv_room (Nat.le_of_ble_eq_true rfl)) dX2_encryptBlock_106 ⟨Nat.le_of_ble_eq_true rfl, Nat.le_of_ble_eq_true rfl⟩)) (fun r9 (e9 : r9 = rol x14_2 24) => ?_)
      subst e9
      refine lv_ixor hx hb dX2_encryptBlock_109 ?_
      refine lv_ixor hx hb dX2_encryptBlock_110 ?_
      refine lv_asi (y := spr x14_2) rfl ?_
      refine lv_topi (fun x14_3 ex14_3 => ?_)
      refine lv_istore (lv' := [(14, .int x14_3), (5, .int x5_1), (13, .int (nI 16)), (12, .int K.2.2.2), (11, .int K.2.2.1), (10, .int K.2.1), (9, .int K.1), (8, .int a3), (7, .int a2), (6, .int a1), (4, .int 0), (3, .ref h3), (2, .int 0), (1, .ref h2), (0, .ref h0)]) hx hb dX2_encryptBlock_111 hl (by decide) rfl (fun ls hl => ?_)
      refine lv_iload hx hb dX2_encryptBlock_113 (lv_at hl 1 rfl) ?_
      refine lv_iload hx hb dX2_encryptBlock_115 (lv_at hl 6 rfl) ?_
      refine lv_ixor hx hb dX2_encryptBlock_117 ?_
      refine lv_topi (fun x5_4 ex5_4 => ?_)
      refine lv_istore (lv' := [(5, .int x5_4), (14, .int x14_3), (13, .int (nI 16)), (12, .int K.2.2.2), (11, .int K.2.2.1), (10, .int K.2.1), (9, .int K.1), (8, .int a3), (7, .int a2), (6, .int a1), (4, .int 0), (3, .ref h3), (2, .int 0), (1, .ref h2), (0, .ref h0)]) hx hb dX2_encryptBlock_118 hl (by decide) rfl (fun ls hl => ?_)
      refine lv_iload hx hb dX2_encryptBlock_120 (lv_at hl 9 rfl) ?_
      refine lv_iload hx hb dX2_encryptBlock_122 (lv_at hl 5 rfl) ?_
      refine lv_ixor hx hb dX2_encryptBlock_124 ?_
      refine lv_topi (fun x6_5 ex6_5 => ?_)
      refine lv_istore (lv' := [(6, .int x6_5), (5, .int x5_4), (14, .int x14_3), (13, .int (nI 16)), (12, .int K.2.2.2), (11, .int K.2.2.1), (10, .int K.2.1), (9, .int K.1), (8, .int a3), (7, .int a2), (4, .int 0), (3, .ref h3), (2, .int 0), (1, .ref h2), (0, .ref h0)]) hx hb dX2_encryptBlock_125 hl (by decide) rfl (fun ls hl => ?_)
      refine lv_iload hx hb dX2_encryptBlock_127 (lv_at hl 9 rfl) ?_
      refine lv_iload hx hb dX2_encryptBlock_129 (lv_at hl 5 rfl) ?_
      refine lv_ixor hx hb dX2_encryptBlock_131 ?_
      refine lv_topi (fun x7_6 ex7_6 => ?_)
      refine lv_istore (lv' := [(7, .int x7_6), (6, .int x6_5), (5, .int x5_4), (14, .int x14_3), (13, .int (nI 16)), (12, .int K.2.2.2), (11, .int K.2.2.1), (10, .int K.2.1), (9, .int K.1), (8, .int a3), (4, .int 0), (3, .ref h3), (2, .int 0), (1, .ref h2), (0, .ref h0)]) hx hb dX2_encryptBlock_132 hl (by decide) rfl (fun ls hl => ?_)
      refine lv_iload hx hb dX2_encryptBlock_134 (lv_at hl 9 rfl) ?_
      refine lv_iload hx hb dX2_encryptBlock_136 (lv_at hl 5 rfl) ?_
      refine lv_ixor hx hb dX2_encryptBlock_138 ?_
      refine lv_topi (fun x8_7 ex8_7 => ?_)
      refine lv_istore (lv' := [(8, .int x8_7), (7, .int x7_6), (6, .int x6_5), (5, .int x5_4), (14, .int x14_3), (13, .int (nI 16)), (12, .int K.2.2.2), (11, .int K.2.2.1), (10, .int K.2.1), (9, .int K.1), (4, .int 0), (3, .ref h3), (2, .int 0), (1, .ref h2), (0, .ref h0)]) hx hb dX2_encryptBlock_139 hl (by decide) rfl (fun ls hl => ?_)
      refine lv_iload hx hb dX2_encryptBlock_141 (lv_at hl 2 rfl) ?_
      refine lv_iload hx hb dX2_encryptBlock_143 (lv_at hl 0 rfl) ?_
      refine lv_ixor hx hb dX2_encryptBlock_145 ?_
      refine lv_topi (fun x15_8 ex15_8 => ?_)
      refine lv_istore (lv' := [(15, .int x15_8), (8, .int x8_7), (7, .int x7_6), (6, .int x6_5), (5, .int x5_4), (14, .int x14_3), (13, .int (nI 16)), (12, .int K.2.2.2), (11, .int K.2.2.1), (10, .int K.2.1), (9, .int K.1), (4, .int 0), (3, .ref h3), (2, .int 0), (1, .ref h2), (0, .ref h0)]) hx hb dX2_encryptBlock_146 hl (by decide) rfl (fun ls hl => ?_)
      refine lv_iload hx hb dX2_encryptBlock_148 (lv_at hl 0 rfl) ?_
      refine lv_iload hx hb dX2_encryptBlock_150 (lv_at hl 0 rfl) ?_
      refine lv_bipush (v := 8) hx hb dX2_encryptBlock_152 (by decide) ?_
      refine vp_callSi (va_Run.run (va_runS (As := [.int x15_8, .int 8]) (rest := [.int x15_8]) ⟨hx, hb, hml, hown, hts⟩ (metX5_rotateLeft l x15_8 8) (va_cwS 2 hts (lw_S q190 q191 q17 q192) rfl rfl rfl (by decide +kernel) ⟨Nat.le_of_ble_eq_true rfl, Nat.le_of_ble_eq_true rfl⟩) ⟨fun _ _ _ _ h => h, fun _ _ _ => ⟨rfl, trivial⟩⟩ rfl rfl hl.1 rfl (lv_room (Nat.le_of_ble_eq_true rfl)) dX2_encryptBlock_154 ⟨Nat.le_of_ble_eq_true rfl, Nat.le_of_ble_eq_true rfl⟩)) (fun r9 (e9 : r9 = rol x15_8 8) => ?_)
      subst e9
      refine lv_iload hx hb dX2_encryptBlock_157 (lv_at hl 0 rfl) ?_
      refine lv_bipush (v := 24) hx hb dX2_encryptBlock_159 (by decide) ?_
      refine vp_callSi (va_Run.run (va_runS (As := [.int x15_8, .int 24]) (rest := [.int (rol x15_8 8), .int x15_8]) ⟨hx, hb, hml, hown, hts⟩ (metX5_rotateLeft l x15_8 24) (va_cwS 2 hts (lw_S q190 q191 q17 q192) rfl rfl rfl (by decide +kernel) ⟨Nat.le_of_ble_eq_true rfl, Nat.le_of_ble_eq_true rfl⟩) ⟨fun _ _ _ _ h => h, fun _ _ _ => ⟨rfl, trivial⟩⟩ rfl rfl hl.1 rfl (lv_room (Nat.le_of_ble_eq_true rfl)) dX2_encryptBlock_161 ⟨Nat.le_of_ble_eq_true rfl, Nat.le_of_ble_eq_true rfl⟩)) (fun r9 (e9 : r9 = rol x15_8 24) => ?_)
      subst e9
      refine lv_ixor hx hb dX2_encryptBlock_164 ?_
      refine lv_ixor hx hb dX2_encryptBlock_165 ?_
      refine lv_asi (y := spr x15_8) rfl ?_
      refine lv_topi (fun x15_9 ex15_9 => ?_)
      refine lv_istore (lv' := [(15, .int x15_9), (8, .int x8_7), (7, .int x7_6), (6, .int x6_5), (5, .int x5_4), (14, .int x14_3), (13, .int (nI 16)), (12, .int K.2.2.2), (11, .int K.2.2.1), (10, .int K.2.1), (9, .int K.1), (4, .int 0), (3, .ref h3), (2, .int 0), (1, .ref h2), (0, .ref h0)]) hx hb dX2_encryptBlock_166 hl (by decide) rfl (fun ls hl => ?_)
      refine lv_iload hx hb dX2_encryptBlock_168 (lv_at hl 4 rfl) ?_
      refine lv_iload hx hb dX2_encryptBlock_170 (lv_at hl 0 rfl) ?_
      refine lv_ixor hx hb dX2_encryptBlock_172 ?_
      refine lv_topi (fun x5_10 ex5_10 => ?_)
      refine lv_istore (lv' := [(5, .int x5_10), (15, .int x15_9), (8, .int x8_7), (7, .int x7_6), (6, .int x6_5), (14, .int x14_3), (13, .int (nI 16)), (12, .int K.2.2.2), (11, .int K.2.2.1), (10, .int K.2.1), (9, .int K.1), (4, .int 0), (3, .ref h3), (2, .int 0), (1, .ref h2), (0, .ref h0)]) hx hb dX2_encryptBlock_173 hl (by decide) rfl (fun ls hl => ?_)
      refine lv_iload hx hb dX2_encryptBlock_175 (lv_at hl 4 rfl) ?_
      refine lv_iload hx hb dX2_encryptBlock_177 (lv_at hl 5 rfl) ?_
      refine lv_ixor hx hb dX2_encryptBlock_179 ?_
      refine lv_topi (fun x6_11 ex6_11 => ?_)
      refine lv_istore (lv' := [(6, .int x6_11), (5, .int x5_10), (15, .int x15_9), (8, .int x8_7), (7, .int x7_6), (14, .int x14_3), (13, .int (nI 16)), (12, .int K.2.2.2), (11, .int K.2.2.1), (10, .int K.2.1), (9, .int K.1), (4, .int 0), (3, .ref h3), (2, .int 0), (1, .ref h2), (0, .ref h0)]) hx hb dX2_encryptBlock_180 hl (by decide) rfl (fun ls hl => ?_)
      refine lv_iload hx hb dX2_encryptBlock_182 (lv_at hl 4 rfl) ?_
      refine lv_iload hx hb dX2_encryptBlock_184 (lv_at hl 2 rfl) ?_
      refine lv_ixor hx hb dX2_encryptBlock_186 ?_
      refine lv_topi (fun x7_12 ex7_12 => ?_)
      refine lv_istore (lv' := [(7, .int x7_12), (6, .int x6_11), (5, .int x5_10), (15, .int x15_9), (8, .int x8_7), (14, .int x14_3), (13, .int (nI 16)), (12, .int K.2.2.2), (11, .int K.2.2.1), (10, .int K.2.1), (9, .int K.1), (4, .int 0), (3, .ref h3), (2, .int 0), (1, .ref h2), (0, .ref h0)]) hx hb dX2_encryptBlock_187 hl (by decide) rfl (fun ls hl => ?_)
      refine lv_iload hx hb dX2_encryptBlock_189 (lv_at hl 4 rfl) ?_
      refine lv_iload hx hb dX2_encryptBlock_191 (lv_at hl 5 rfl) ?_
      refine lv_ixor hx hb dX2_encryptBlock_193 ?_
      refine lv_topi (fun x8_13 ex8_13 => ?_)
      refine lv_istore (lv' := [(8, .int x8_13), (7, .int x7_12), (6, .int x6_11), (5, .int x5_10), (15, .int x15_9), (14, .int x14_3), (13, .int (nI 16)), (12, .int K.2.2.2), (11, .int K.2.2.1), (10, .int K.2.1), (9, .int K.1), (4, .int 0), (3, .ref h3), (2, .int 0), (1, .ref h2), (0, .ref h0)]) hx hb dX2_encryptBlock_194 hl (by decide) rfl (fun ls hl => ?_)
      refine lv_iinc (v := nI 17) (lv' := [(13, .int (nI 17)), (8, .int x8_13), (7, .int x7_12), (6, .int x6_11), (5, .int x5_10), (15, .int x15_9), (14, .int x14_3), (12, .int K.2.2.2), (11, .int K.2.2.1), (10, .int K.2.1), (9, .int K.1), (4, .int 0), (3, .ref h3), (2, .int 0), (1, .ref h2), (0, .ref h0)]) hx hb dX2_encryptBlock_196 hl (k := 6) rfl (nI_add _ 1) (by decide) rfl (fun ls hl => ?_)
      refine lv_iload hx hb dX2_encryptBlock_199 (lv_at hl 0 rfl) ?_
      refine lv_bipush (v := 16) hx hb dX2_encryptBlock_201 (by decide) ?_
      refine lv_icmp_le (tgt := 209) hx hb dX2_encryptBlock_203 (by decide) (fun c9 => absurd c9 (nI_ge (show 16 < 17 by omega) (by omega))) (fun _ => ?_)
      refine lv_goto (tgt := 324) hx hb dX2_encryptBlock_206 (by decide) ?_
      refine lv_iload hx hb dX2_encryptBlock_324 (lv_at hl 4 rfl) ?_
      refine lv_aload_n hx hb dX2_encryptBlock_326 rfl (lv_at hl 12 rfl) ?_
      refine lv_iload hx hb dX2_encryptBlock_327 (lv_at hl 11 rfl) ?_
      refine lv_asi (y := nI 0) rfl ?_
      refine k_v (D := D) (wc := [(h3, .inl (cB, 16, .inl fo))]) (wr := [(h0, .inr (2, [.ref h1, .int 1, .int 1])), (h1, .inl (cI, 4, .inl (qf K))), (h2, .inl (cB, 16, .inl fi))]) (va_runS (As := [.int x5_10, .ref h3, .int (nI 0)]) (rest := []) ⟨hx, hb, hml, hown, hts⟩ (metX4_intToBigEndian l D cB cI s.heap.size h3 fo 0 x5_10 (Nat.le_of_ble_eq_true rfl)) (va_cwS 3 hts (lw_S q264 q265 q16 q266) rfl rfl rfl (by decide +kernel) ⟨Nat.le_of_ble_eq_true rfl, Nat.le_of_ble_eq_true rfl⟩) ⟨PreE.blind, preE hE hP hD hS hA [3] rfl rfl⟩ rfl rfl hl.1 rfl (lv_room (Nat.le_of_ble_eq_true rfl)) dX2_encryptBlock_329 ⟨Nat.le_of_ble_eq_true rfl, Nat.le_of_ble_eq_true rfl⟩) hP hD hS hA [3] [0, 1, 2] rfl rfl rfl (by decide) [0, 1, 2, 3] rfl (fun _ : Unit => [(h0, .inr (2, [.ref h1, .int 1, .int 1])), (h1, .inl (cI, 4, .inl (qf K))), (h2, .inl (cB, 16, .inl fi)), (h3, .inl (cB, 16, .inl (itb fo 0 x5_10)))]) (fun _ => rfl) (fun _ H locs hP hD hS => ?_)
      refine lv_iload hx hb dX2_encryptBlock_332 (lv_at hl 3 rfl) ?_
      refine lv_aload_n hx hb dX2_encryptBlock_334 rfl (lv_at hl 12 rfl) ?_
      refine lv_iload hx hb dX2_encryptBlock_335 (lv_at hl 11 rfl) ?_
      refine lv_iconst (v := 4) hx hb dX2_encryptBlock_337 (by decide) ?_
      refine lv_iadd hx hb dX2_encryptBlock_338 ?_
      refine lv_asi (y := 4) (by decide) ?_
      refine lv_asi (y := nI 4) rfl ?_
      refine k_v (D := D) (wc := [(h3, .inl (cB, 16, .inl (itb fo 0 x5_10)))]) (wr := [(h0, .inr (2, [.ref h1, .int 1, .int 1])), (h1, .inl (cI, 4, .inl (qf K))), (h2, .inl (cB, 16, .inl fi))]) (va_runS (As := [.int x6_11, .ref h3, .int (nI 4)]) (rest := []) ⟨hx, hb, hml, hown, hts⟩ (metX4_intToBigEndian l D cB cI H.size h3 (itb fo 0 x5_10) 4 x6_11 (Nat.le_of_ble_eq_true rfl)) (va_cwS 3 hts (lw_S q264 q265 q16 q266) rfl rfl rfl (by decide +kernel) ⟨Nat.le_of_ble_eq_true rfl, Nat.le_of_ble_eq_true rfl⟩) ⟨PreE.blind, preE hE hP hD hS hA [3] rfl rfl⟩ rfl rfl hl.1 rfl (lv_room (Nat.le_of_ble_eq_true rfl)) dX2_encryptBlock_339 ⟨Nat.le_of_ble_eq_true rfl, Nat.le_of_ble_eq_true rfl⟩) hP hD hS hA [3] [0, 1, 2] rfl rfl rfl (by decide) [0, 1, 2, 3] rfl (fun _ : Unit => [(h0, .inr (2, [.ref h1, .int 1, .int 1])), (h1, .inl (cI, 4, .inl (qf K))), (h2, .inl (cB, 16, .inl fi)), (h3, .inl (cB, 16, .inl (itb (itb fo 0 x5_10) 4 x6_11)))]) (fun _ => rfl) (fun _ H locs hP hD hS => ?_)
      refine lv_iload hx hb dX2_encryptBlock_342 (lv_at hl 2 rfl) ?_
      refine lv_aload_n hx hb dX2_encryptBlock_344 rfl (lv_at hl 12 rfl) ?_
      refine lv_iload hx hb dX2_encryptBlock_345 (lv_at hl 11 rfl) ?_
      refine lv_bipush (v := 8) hx hb dX2_encryptBlock_347 (by decide) ?_
      refine lv_iadd hx hb dX2_encryptBlock_349 ?_
      refine lv_asi (y := 8) (by decide) ?_
      refine lv_asi (y := nI 8) rfl ?_
      refine k_v (D := D) (wc := [(h3, .inl (cB, 16, .inl (itb (itb fo 0 x5_10) 4 x6_11)))]) (wr := [(h0, .inr (2, [.ref h1, .int 1, .int 1])), (h1, .inl (cI, 4, .inl (qf K))), (h2, .inl (cB, 16, .inl fi))]) (va_runS (As := [.int x7_12, .ref h3, .int (nI 8)]) (rest := []) ⟨hx, hb, hml, hown, hts⟩ (metX4_intToBigEndian l D cB cI H.size h3 (itb (itb fo 0 x5_10) 4 x6_11) 8 x7_12 (Nat.le_of_ble_eq_true rfl)) (va_cwS 3 hts (lw_S q264 q265 q16 q266) rfl rfl rfl (by decide +kernel) ⟨Nat.le_of_ble_eq_true rfl, Nat.le_of_ble_eq_true rfl⟩) ⟨PreE.blind, preE hE hP hD hS hA [3] rfl rfl⟩ rfl rfl hl.1 rfl (lv_room (Nat.le_of_ble_eq_true rfl)) dX2_encryptBlock_350 ⟨Nat.le_of_ble_eq_true rfl, Nat.le_of_ble_eq_true rfl⟩) hP hD hS hA [3] [0, 1, 2] rfl rfl rfl (by decide) [0, 1, 2, 3] rfl (fun _ : Unit => [(h0, .inr (2, [.ref h1, .int 1, .int 1])), (h1, .inl (cI, 4, .inl (qf K))), (h2, .inl (cB, 16, .inl fi)), (h3, .inl (cB, 16, .inl (itb (itb (itb fo 0 x5_10) 4 x6_11) 8 x7_12)))]) (fun _ => rfl) (fun _ H locs hP hD hS => ?_)
      refine lv_iload hx hb dX2_encryptBlock_353 (lv_at hl 1 rfl) ?_
      refine lv_aload_n hx hb dX2_encryptBlock_355 rfl (lv_at hl 12 rfl) ?_
      refine lv_iload hx hb dX2_encryptBlock_356 (lv_at hl 11 rfl) ?_
      refine lv_bipush (v := 12) hx hb dX2_encryptBlock_358 (by decide) ?_
      refine lv_iadd hx hb dX2_encryptBlock_360 ?_
      refine lv_asi (y := 12) (by decide) ?_
      refine lv_asi (y := nI 12) rfl ?_
      refine k_v (D := D) (wc := [(h3, .inl (cB, 16, .inl (itb (itb (itb fo 0 x5_10) 4 x6_11) 8 x7_12)))]) (wr := [(h0, .inr (2, [.ref h1, .int 1, .int 1])), (h1, .inl (cI, 4, .inl (qf K))), (h2, .inl (cB, 16, .inl fi))]) (va_runS (As := [.int x8_13, .ref h3, .int (nI 12)]) (rest := []) ⟨hx, hb, hml, hown, hts⟩ (metX4_intToBigEndian l D cB cI H.size h3 (itb (itb (itb fo 0 x5_10) 4 x6_11) 8 x7_12) 12 x8_13 (Nat.le_of_ble_eq_true rfl)) (va_cwS 3 hts (lw_S q264 q265 q16 q266) rfl rfl rfl (by decide +kernel) ⟨Nat.le_of_ble_eq_true rfl, Nat.le_of_ble_eq_true rfl⟩) ⟨PreE.blind, preE hE hP hD hS hA [3] rfl rfl⟩ rfl rfl hl.1 rfl (lv_room (Nat.le_of_ble_eq_true rfl)) dX2_encryptBlock_361 ⟨Nat.le_of_ble_eq_true rfl, Nat.le_of_ble_eq_true rfl⟩) hP hD hS hA [3] [0, 1, 2] rfl rfl rfl (by decide) [0, 1, 2, 3] rfl (fun _ : Unit => [(h0, .inr (2, [.ref h1, .int 1, .int 1])), (h1, .inl (cI, 4, .inl (qf K))), (h2, .inl (cB, 16, .inl fi)), (h3, .inl (cB, 16, .inl (itb (itb (itb (itb fo 0 x5_10) 4 x6_11) 8 x7_12) 12 x8_13)))]) (fun _ => rfl) (fun _ H locs hP hD hS => ?_)
      refine lv_bipush (v := 16) hx hb dX2_encryptBlock_364 (by decide) ?_
      have hq : (x5_10, x6_11, x7_12, x8_13) = enF K (beQ fi) := by
        show _ = thE K (adc (enI K (beQ fi) 16) (rcE 16))
        rw [← he]
        subst ex8_13 ex7_12 ex6_11 ex5_10 ex15_9 ex15_8 ex8_7 ex7_6 ex6_5 ex5_4 ex14_3 ex14_2 ex5_1
        rfl
      have hf : itb (itb (itb (itb fo 0 x5_10) 4 x6_11) 8 x7_12) 12 x8_13 = itQ fo (enF K (beQ fi)) := by rw [← hq]; rfl
      rw [hf] at hP hD
      exact W.iret (v := 16) hx hb hr (fun t ht hW => ⟨⟨16, (), rfl, rfl, by rw [ht]; exact hP, hD⟩, hS.F ht⟩) hS.2.2 dX2_encryptBlock_366
    | succ n ih =>
      intro i hi a0 a1 a2 a3 he ls hl
      refine lv_iload hx hb dX2_encryptBlock_71 (lv_at hl 8 rfl) ?_
      refine va_gets hx hb hZ hS hown (hts _ q262) (fun _ h9 => h9) dX2_encryptBlock_73 ?_
      refine lv_iload hx hb dX2_encryptBlock_76 (lv_at hl 0 rfl) ?_
      refine va_tb (v := .int (rcB i)) hx hb hT hS (vp_in_nI (show i < 17 by omega) (by omega)) (by rw [nI_clamp (show i < 2 ^ 31 by omega)]) dX2_encryptBlock_78 ?_
      refine lv_sipush (v := 255) hx hb dX2_encryptBlock_79 (by decide) ?_
      refine lv_iand hx hb dX2_encryptBlock_82 ?_
      refine lv_ixor hx hb dX2_encryptBlock_83 ?_
      refine lv_asi (y := a0 ^^^ rcE i) rfl ?_
      refine lv_topi (fun x5_1 ex5_1 => ?_)
      refine lv_istore (lv' := [(5, .int x5_1), (13, .int (nI i)), (12, .int K.2.2.2), (11, .int K.2.2.1), (10, .int K.2.1), (9, .int K.1), (8, .int a3), (7, .int a2), (6, .int a1), (4, .int 0), (3, .ref h3), (2, .int 0), (1, .ref h2), (0, .ref h0)]) hx hb dX2_encryptBlock_84 hl (by decide) rfl (fun ls hl => ?_)
      refine lv_iload hx hb dX2_encryptBlock_86 (lv_at hl 0 rfl) ?_
      refine lv_iload hx hb dX2_encryptBlock_88 (lv_at hl 7 rfl) ?_
      refine lv_ixor hx hb dX2_encryptBlock_90 ?_
      refine lv_topi (fun x14_2 ex14_2 => ?_)
      refine lv_istore (lv' := [(14, .int x14_2), (5, .int x5_1), (13, .int (nI i)), (12, .int K.2.2.2), (11, .int K.2.2.1), (10, .int K.2.1), (9, .int K.1), (8, .int a3), (7, .int a2), (6, .int a1), (4, .int 0), (3, .ref h3), (2, .int 0), (1, .ref h2), (0, .ref h0)]) hx hb dX2_encryptBlock_91 hl (by decide) rfl (fun ls hl => ?_)
      refine lv_iload hx hb dX2_encryptBlock_93 (lv_at hl 0 rfl) ?_
      refine lv_iload hx hb dX2_encryptBlock_95 (lv_at hl 0 rfl) ?_
      refine lv_bipush (v := 8) hx hb dX2_encryptBlock_97 (by decide) ?_
      refine vp_callSi (va_Run.run (va_runS (As := [.int x14_2, .int 8]) (rest := [.int x14_2]) ⟨hx, hb, hml, hown, hts⟩ (metX5_rotateLeft l x14_2 8) (va_cwS 2 hts (lw_S q190 q191 q17 q192) rfl rfl rfl (by decide +kernel) ⟨Nat.le_of_ble_eq_true rfl, Nat.le_of_ble_eq_true rfl⟩) ⟨fun _ _ _ _ h => h, fun _ _ _ => ⟨rfl, trivial⟩⟩ rfl rfl hl.1 rfl (lv_room (Nat.le_of_ble_eq_true rfl)) dX2_encryptBlock_99 ⟨Nat.le_of_ble_eq_true rfl, Nat.le_of_ble_eq_true rfl⟩)) (fun r9 (e9 : r9 = rol x14_2 8) => ?_)
      subst e9
      refine lv_iload hx hb dX2_encryptBlock_102 (lv_at hl 0 rfl) ?_
      refine lv_bipush (v := 24) hx hb dX2_encryptBlock_104 (by decide) ?_
      refine vp_callSi (va_Run.run (va_runS (As := [.int x14_2, .int 24]) (rest := [.int (rol x14_2 8), .int x14_2]) ⟨hx, hb, hml, hown, hts⟩ (metX5_rotateLeft l x14_2 24) (va_cwS 2 hts (lw_S q190 q191 q17 q192) rfl rfl rfl (by decide +kernel) ⟨Nat.le_of_ble_eq_true rfl, Nat.le_of_ble_eq_true rfl⟩) ⟨fun _ _ _ _ h => h, fun _ _ _ => ⟨rfl, trivial⟩⟩ rfl rfl hl.1 rfl (lv_room (Nat.le_of_ble_eq_true rfl)) dX2_encryptBlock_106 ⟨Nat.le_of_ble_eq_true rfl, Nat.le_of_ble_eq_true rfl⟩)) (fun r9 (e9 : r9 = rol x14_2 24) => ?_)
      subst e9
      refine lv_ixor hx hb dX2_encryptBlock_109 ?_
      refine lv_ixor hx hb dX2_encryptBlock_110 ?_
      refine lv_asi (y := spr x14_2) rfl ?_
      refine lv_topi (fun x14_3 ex14_3 => ?_)
      refine lv_istore (lv' := [(14, .int x14_3), (5, .int x5_1), (13, .int (nI i)), (12, .int K.2.2.2), (11, .int K.2.2.1), (10, .int K.2.1), (9, .int K.1), (8, .int a3), (7, .int a2), (6, .int a1), (4, .int 0), (3, .ref h3), (2, .int 0), (1, .ref h2), (0, .ref h0)]) hx hb dX2_encryptBlock_111 hl (by decide) rfl (fun ls hl => ?_)
      refine lv_iload hx hb dX2_encryptBlock_113 (lv_at hl 1 rfl) ?_
      refine lv_iload hx hb dX2_encryptBlock_115 (lv_at hl 6 rfl) ?_
      refine lv_ixor hx hb dX2_encryptBlock_117 ?_
      refine lv_topi (fun x5_4 ex5_4 => ?_)
      refine lv_istore (lv' := [(5, .int x5_4), (14, .int x14_3), (13, .int (nI i)), (12, .int K.2.2.2), (11, .int K.2.2.1), (10, .int K.2.1), (9, .int K.1), (8, .int a3), (7, .int a2), (6, .int a1), (4, .int 0), (3, .ref h3), (2, .int 0), (1, .ref h2), (0, .ref h0)]) hx hb dX2_encryptBlock_118 hl (by decide) rfl (fun ls hl => ?_)
      refine lv_iload hx hb dX2_encryptBlock_120 (lv_at hl 9 rfl) ?_
      refine lv_iload hx hb dX2_encryptBlock_122 (lv_at hl 5 rfl) ?_
      refine lv_ixor hx hb dX2_encryptBlock_124 ?_
      refine lv_topi (fun x6_5 ex6_5 => ?_)
      refine lv_istore (lv' := [(6, .int x6_5), (5, .int x5_4), (14, .int x14_3), (13, .int (nI i)), (12, .int K.2.2.2), (11, .int K.2.2.1), (10, .int K.2.1), (9, .int K.1), (8, .int a3), (7, .int a2), (4, .int 0), (3, .ref h3), (2, .int 0), (1, .ref h2), (0, .ref h0)]) hx hb dX2_encryptBlock_125 hl (by decide) rfl (fun ls hl => ?_)
      refine lv_iload hx hb dX2_encryptBlock_127 (lv_at hl 9 rfl) ?_
      refine lv_iload hx hb dX2_encryptBlock_129 (lv_at hl 5 rfl) ?_
      refine lv_ixor hx hb dX2_encryptBlock_131 ?_
      refine lv_topi (fun x7_6 ex7_6 => ?_)
      refine lv_istore (lv' := [(7, .int x7_6), (6, .int x6_5), (5, .int x5_4), (14, .int x14_3), (13, .int (nI i)), (12, .int K.2.2.2), (11, .int K.2.2.1), (10, .int K.2.1), (9, .int K.1), (8, .int a3), (4, .int 0), (3, .ref h3), (2, .int 0), (1, .ref h2), (0, .ref h0)]) hx hb dX2_encryptBlock_132 hl (by decide) rfl (fun ls hl => ?_)
      refine lv_iload hx hb dX2_encryptBlock_134 (lv_at hl 9 rfl) ?_
      refine lv_iload hx hb dX2_encryptBlock_136 (lv_at hl 5 rfl) ?_
      refine lv_ixor hx hb dX2_encryptBlock_138 ?_
      refine lv_topi (fun x8_7 ex8_7 => ?_)
      refine lv_istore (lv' := [(8, .int x8_7), (7, .int x7_6), (6, .int x6_5), (5, .int x5_4), (14, .int x14_3), (13, .int (nI i)), (12, .int K.2.2.2), (11, .int K.2.2.1), (10, .int K.2.1), (9, .int K.1), (4, .int 0), (3, .ref h3), (2, .int 0), (1, .ref h2), (0, .ref h0)]) hx hb dX2_encryptBlock_139 hl (by decide) rfl (fun ls hl => ?_)
      refine lv_iload hx hb dX2_encryptBlock_141 (lv_at hl 2 rfl) ?_
      refine lv_iload hx hb dX2_encryptBlock_143 (lv_at hl 0 rfl) ?_
      refine lv_ixor hx hb dX2_encryptBlock_145 ?_
      refine lv_topi (fun x15_8 ex15_8 => ?_)
      refine lv_istore (lv' := [(15, .int x15_8), (8, .int x8_7), (7, .int x7_6), (6, .int x6_5), (5, .int x5_4), (14, .int x14_3), (13, .int (nI i)), (12, .int K.2.2.2), (11, .int K.2.2.1), (10, .int K.2.1), (9, .int K.1), (4, .int 0), (3, .ref h3), (2, .int 0), (1, .ref h2), (0, .ref h0)]) hx hb dX2_encryptBlock_146 hl (by decide) rfl (fun ls hl => ?_)
      refine lv_iload hx hb dX2_encryptBlock_148 (lv_at hl 0 rfl) ?_
      refine lv_iload hx hb dX2_encryptBlock_150 (lv_at hl 0 rfl) ?_
      refine lv_bipush (v := 8) hx hb dX2_encryptBlock_152 (by decide) ?_
      refine vp_callSi (va_Run.run (va_runS (As := [.int x15_8, .int 8]) (rest := [.int x15_8]) ⟨hx, hb, hml, hown, hts⟩ (metX5_rotateLeft l x15_8 8) (va_cwS 2 hts (lw_S q190 q191 q17 q192) rfl rfl rfl (by decide +kernel) ⟨Nat.le_of_ble_eq_true rfl, Nat.le_of_ble_eq_true rfl⟩) ⟨fun _ _ _ _ h => h, fun _ _ _ => ⟨rfl, trivial⟩⟩ rfl rfl hl.1 rfl (lv_room (Nat.le_of_ble_eq_true rfl)) dX2_encryptBlock_154 ⟨Nat.le_of_ble_eq_true rfl, Nat.le_of_ble_eq_true rfl⟩)) (fun r9 (e9 : r9 = rol x15_8 8) => ?_)
      subst e9
      refine lv_iload hx hb dX2_encryptBlock_157 (lv_at hl 0 rfl) ?_
      refine lv_bipush (v := 24) hx hb dX2_encryptBlock_159 (by decide) ?_
      refine vp_callSi (va_Run.run (va_runS (As := [.int x15_8, .int 24]) (rest := [.int (rol x15_8 8), .int x15_8]) ⟨hx, hb, hml, hown, hts⟩ (metX5_rotateLeft l x15_8 24) (va_cwS 2 hts (lw_S q190 q191 q17 q192) rfl rfl rfl (by decide +kernel) ⟨Nat.le_of_ble_eq_true rfl, Nat.le_of_ble_eq_true rfl⟩) ⟨fun _ _ _ _ h => h, fun _ _ _ => ⟨rfl, trivial⟩⟩ rfl rfl hl.1 rfl (lv_room (Nat.le_of_ble_eq_true rfl)) dX2_encryptBlock_161 ⟨Nat.le_of_ble_eq_true rfl, Nat.le_of_ble_eq_true rfl⟩)) (fun r9 (e9 : r9 = rol x15_8 24) => ?_)
      subst e9
      refine lv_ixor hx hb dX2_encryptBlock_164 ?_
      refine lv_ixor hx hb dX2_encryptBlock_165 ?_
      refine lv_asi (y := spr x15_8) rfl ?_
      refine lv_topi (fun x15_9 ex15_9 => ?_)
      refine lv_istore (lv' := [(15, .int x15_9), (8, .int x8_7), (7, .int x7_6), (6, .int x6_5), (5, .int x5_4), (14, .int x14_3), (13, .int (nI i)), (12, .int K.2.2.2), (11, .int K.2.2.1), (10, .int K.2.1), (9, .int K.1), (4, .int 0), (3, .ref h3), (2, .int 0), (1, .ref h2), (0, .ref h0)]) hx hb dX2_encryptBlock_166 hl (by decide) rfl (fun ls hl => ?_)
      refine lv_iload hx hb dX2_encryptBlock_168 (lv_at hl 4 rfl) ?_
      refine lv_iload hx hb dX2_encryptBlock_170 (lv_at hl 0 rfl) ?_
      refine lv_ixor hx hb dX2_encryptBlock_172 ?_
      refine lv_topi (fun x5_10 ex5_10 => ?_)
      refine lv_istore (lv' := [(5, .int x5_10), (15, .int x15_9), (8, .int x8_7), (7, .int x7_6), (6, .int x6_5), (14, .int x14_3), (13, .int (nI i)), (12, .int K.2.2.2), (11, .int K.2.2.1), (10, .int K.2.1), (9, .int K.1), (4, .int 0), (3, .ref h3), (2, .int 0), (1, .ref h2), (0, .ref h0)]) hx hb dX2_encryptBlock_173 hl (by decide) rfl (fun ls hl => ?_)
      refine lv_iload hx hb dX2_encryptBlock_175 (lv_at hl 4 rfl) ?_
      refine lv_iload hx hb dX2_encryptBlock_177 (lv_at hl 5 rfl) ?_
      refine lv_ixor hx hb dX2_encryptBlock_179 ?_
      refine lv_topi (fun x6_11 ex6_11 => ?_)
      refine lv_istore (lv' := [(6, .int x6_11), (5, .int x5_10), (15, .int x15_9), (8, .int x8_7), (7, .int x7_6), (14, .int x14_3), (13, .int (nI i)), (12, .int K.2.2.2), (11, .int K.2.2.1), (10, .int K.2.1), (9, .int K.1), (4, .int 0), (3, .ref h3), (2, .int 0), (1, .ref h2), (0, .ref h0)]) hx hb dX2_encryptBlock_180 hl (by decide) rfl (fun ls hl => ?_)
      refine lv_iload hx hb dX2_encryptBlock_182 (lv_at hl 4 rfl) ?_
      refine lv_iload hx hb dX2_encryptBlock_184 (lv_at hl 2 rfl) ?_
      refine lv_ixor hx hb dX2_encryptBlock_186 ?_
      refine lv_topi (fun x7_12 ex7_12 => ?_)
      refine lv_istore (lv' := [(7, .int x7_12), (6, .int x6_11), (5, .int x5_10), (15, .int x15_9), (8, .int x8_7), (14, .int x14_3), (13, .int (nI i)), (12, .int K.2.2.2), (11, .int K.2.2.1), (10, .int K.2.1), (9, .int K.1), (4, .int 0), (3, .ref h3), (2, .int 0), (1, .ref h2), (0, .ref h0)]) hx hb dX2_encryptBlock_187 hl (by decide) rfl (fun ls hl => ?_)
      refine lv_iload hx hb dX2_encryptBlock_189 (lv_at hl 4 rfl) ?_
      refine lv_iload hx hb dX2_encryptBlock_191 (lv_at hl 5 rfl) ?_
      refine lv_ixor hx hb dX2_encryptBlock_193 ?_
      refine lv_topi (fun x8_13 ex8_13 => ?_)
      refine lv_istore (lv' := [(8, .int x8_13), (7, .int x7_12), (6, .int x6_11), (5, .int x5_10), (15, .int x15_9), (14, .int x14_3), (13, .int (nI i)), (12, .int K.2.2.2), (11, .int K.2.2.1), (10, .int K.2.1), (9, .int K.1), (4, .int 0), (3, .ref h3), (2, .int 0), (1, .ref h2), (0, .ref h0)]) hx hb dX2_encryptBlock_194 hl (by decide) rfl (fun ls hl => ?_)
      refine lv_iinc (v := nI (i + 1)) (lv' := [(13, .int (nI (i + 1))), (8, .int x8_13), (7, .int x7_12), (6, .int x6_11), (5, .int x5_10), (15, .int x15_9), (14, .int x14_3), (12, .int K.2.2.2), (11, .int K.2.2.1), (10, .int K.2.1), (9, .int K.1), (4, .int 0), (3, .ref h3), (2, .int 0), (1, .ref h2), (0, .ref h0)]) hx hb dX2_encryptBlock_196 hl (k := 6) rfl (nI_add _ 1) (by decide) rfl (fun ls hl => ?_)
      refine lv_iload hx hb dX2_encryptBlock_199 (lv_at hl 0 rfl) ?_
      refine lv_bipush (v := 16) hx hb dX2_encryptBlock_201 (by decide) ?_
      refine lv_icmp_le (tgt := 209) hx hb dX2_encryptBlock_203 (by decide) (fun _ => ?_) (fun c9 => absurd (nI_le (show i + 1 ≤ 16 by omega) (by omega)) c9)
      refine lv_iload hx hb dX2_encryptBlock_209 (lv_at hl 3 rfl) ?_
      refine lv_iconst (v := 1) hx hb dX2_encryptBlock_211 (by decide) ?_
      refine vp_callSi (va_Run.run (va_runS (As := [.int x6_11, .int 1]) (rest := []) ⟨hx, hb, hml, hown, hts⟩ (metX5_rotateLeft l x6_11 1) (va_cwS 2 hts (lw_S q190 q191 q17 q192) rfl rfl rfl (by decide +kernel) ⟨Nat.le_of_ble_eq_true rfl, Nat.le_of_ble_eq_true rfl⟩) ⟨fun _ _ _ _ h => h, fun _ _ _ => ⟨rfl, trivial⟩⟩ rfl rfl hl.1 rfl (lv_room (Nat.le_of_ble_eq_true rfl)) dX2_encryptBlock_212 ⟨Nat.le_of_ble_eq_true rfl, Nat.le_of_ble_eq_true rfl⟩)) (fun r9 (e9 : r9 = rol x6_11 1) => ?_)
      subst e9
      refine lv_topi (fun x6_14 ex6_14 => ?_)
      refine lv_istore (lv' := [(6, .int x6_14), (13, .int (nI (i + 1))), (8, .int x8_13), (7, .int x7_12), (5, .int x5_10), (15, .int x15_9), (14, .int x14_3), (12, .int K.2.2.2), (11, .int K.2.2.1), (10, .int K.2.1), (9, .int K.1), (4, .int 0), (3, .ref h3), (2, .int 0), (1, .ref h2), (0, .ref h0)]) hx hb dX2_encryptBlock_215 hl (by decide) rfl (fun ls hl => ?_)
      refine lv_iload hx hb dX2_encryptBlock_217 (lv_at hl 3 rfl) ?_
      refine lv_iconst (v := 5) hx hb dX2_encryptBlock_219 (by decide) ?_
      refine vp_callSi (va_Run.run (va_runS (As := [.int x7_12, .int 5]) (rest := []) ⟨hx, hb, hml, hown, hts⟩ (metX5_rotateLeft l x7_12 5) (va_cwS 2 hts (lw_S q190 q191 q17 q192) rfl rfl rfl (by decide +kernel) ⟨Nat.le_of_ble_eq_true rfl, Nat.le_of_ble_eq_true rfl⟩) ⟨fun _ _ _ _ h => h, fun _ _ _ => ⟨rfl, trivial⟩⟩ rfl rfl hl.1 rfl (lv_room (Nat.le_of_ble_eq_true rfl)) dX2_encryptBlock_220 ⟨Nat.le_of_ble_eq_true rfl, Nat.le_of_ble_eq_true rfl⟩)) (fun r9 (e9 : r9 = rol x7_12 5) => ?_)
      subst e9
      refine lv_topi (fun x7_15 ex7_15 => ?_)
      refine lv_istore (lv' := [(7, .int x7_15), (6, .int x6_14), (13, .int (nI (i + 1))), (8, .int x8_13), (5, .int x5_10), (15, .int x15_9), (14, .int x14_3), (12, .int K.2.2.2), (11, .int K.2.2.1), (10, .int K.2.1), (9, .int K.1), (4, .int 0), (3, .ref h3), (2, .int 0), (1, .ref h2), (0, .ref h0)]) hx hb dX2_encryptBlock_223 hl (by decide) rfl (fun ls hl => ?_)
      refine lv_iload hx hb dX2_encryptBlock_225 (lv_at hl 3 rfl) ?_
      refine lv_iconst (v := 2) hx hb dX2_encryptBlock_227 (by decide) ?_
      refine vp_callSi (va_Run.run (va_runS (As := [.int x8_13, .int 2]) (rest := []) ⟨hx, hb, hml, hown, hts⟩ (metX5_rotateLeft l x8_13 2) (va_cwS 2 hts (lw_S q190 q191 q17 q192) rfl rfl rfl (by decide +kernel) ⟨Nat.le_of_ble_eq_true rfl, Nat.le_of_ble_eq_true rfl⟩) ⟨fun _ _ _ _ h => h, fun _ _ _ => ⟨rfl, trivial⟩⟩ rfl rfl hl.1 rfl (lv_room (Nat.le_of_ble_eq_true rfl)) dX2_encryptBlock_228 ⟨Nat.le_of_ble_eq_true rfl, Nat.le_of_ble_eq_true rfl⟩)) (fun r9 (e9 : r9 = rol x8_13 2) => ?_)
      subst e9
      refine lv_topi (fun x8_16 ex8_16 => ?_)
      refine lv_istore (lv' := [(8, .int x8_16), (7, .int x7_15), (6, .int x6_14), (13, .int (nI (i + 1))), (5, .int x5_10), (15, .int x15_9), (14, .int x14_3), (12, .int K.2.2.2), (11, .int K.2.2.1), (10, .int K.2.1), (9, .int K.1), (4, .int 0), (3, .ref h3), (2, .int 0), (1, .ref h2), (0, .ref h0)]) hx hb dX2_encryptBlock_231 hl (by decide) rfl (fun ls hl => ?_)
      refine lv_iload hx hb dX2_encryptBlock_233 (lv_at hl 0 rfl) ?_
      refine lv_istore (lv' := [(14, .int x8_16), (8, .int x8_16), (7, .int x7_15), (6, .int x6_14), (13, .int (nI (i + 1))), (5, .int x5_10), (15, .int x15_9), (12, .int K.2.2.2), (11, .int K.2.2.1), (10, .int K.2.1), (9, .int K.1), (4, .int 0), (3, .ref h3), (2, .int 0), (1, .ref h2), (0, .ref h0)]) hx hb dX2_encryptBlock_235 hl (by decide) rfl (fun ls hl => ?_)
      refine lv_iload hx hb dX2_encryptBlock_237 (lv_at hl 3 rfl) ?_
      refine lv_iload hx hb dX2_encryptBlock_239 (lv_at hl 1 rfl) ?_
      refine lv_iload hx hb dX2_encryptBlock_241 (lv_at hl 2 rfl) ?_
      refine lv_ior hx hb dX2_encryptBlock_243 ?_
      refine lv_ixor hx hb dX2_encryptBlock_244 ?_
      refine lv_topi (fun x6_17 ex6_17 => ?_)
      refine lv_istore (lv' := [(6, .int x6_17), (14, .int x8_16), (8, .int x8_16), (7, .int x7_15), (13, .int (nI (i + 1))), (5, .int x5_10), (15, .int x15_9), (12, .int K.2.2.2), (11, .int K.2.2.1), (10, .int K.2.1), (9, .int K.1), (4, .int 0), (3, .ref h3), (2, .int 0), (1, .ref h2), (0, .ref h0)]) hx hb dX2_encryptBlock_245 hl (by decide) rfl (fun ls hl => ?_)
      refine lv_iload hx hb dX2_encryptBlock_247 (lv_at hl 5 rfl) ?_
      refine lv_iload hx hb dX2_encryptBlock_249 (lv_at hl 3 rfl) ?_
      refine lv_iload hx hb dX2_encryptBlock_251 (lv_at hl 0 rfl) ?_
      refine lv_iconst (v := -1) hx hb dX2_encryptBlock_253 (by decide) ?_
      refine lv_ixor hx hb dX2_encryptBlock_254 ?_
      refine lv_iand hx hb dX2_encryptBlock_255 ?_
      refine lv_ixor hx hb dX2_encryptBlock_256 ?_
      refine lv_topi (fun x8_18 ex8_18 => ?_)
      refine lv_istore (lv' := [(8, .int x8_18), (6, .int x6_17), (14, .int x8_16), (7, .int x7_15), (13, .int (nI (i + 1))), (5, .int x5_10), (15, .int x15_9), (12, .int K.2.2.2), (11, .int K.2.2.1), (10, .int K.2.1), (9, .int K.1), (4, .int 0), (3, .ref h3), (2, .int 0), (1, .ref h2), (0, .ref h0)]) hx hb dX2_encryptBlock_257 hl (by decide) rfl (fun ls hl => ?_)
      refine lv_iload hx hb dX2_encryptBlock_259 (lv_at hl 2 rfl) ?_
      refine lv_iload hx hb dX2_encryptBlock_261 (lv_at hl 1 rfl) ?_
      refine lv_iconst (v := -1) hx hb dX2_encryptBlock_263 (by decide) ?_
      refine lv_ixor hx hb dX2_encryptBlock_264 ?_
      refine lv_ixor hx hb dX2_encryptBlock_265 ?_
      refine lv_iload hx hb dX2_encryptBlock_266 (lv_at hl 3 rfl) ?_
      refine lv_ixor hx hb dX2_encryptBlock_268 ?_
      refine lv_iload hx hb dX2_encryptBlock_269 (lv_at hl 0 rfl) ?_
      refine lv_ixor hx hb dX2_encryptBlock_271 ?_
      refine lv_topi (fun x7_19 ex7_19 => ?_)
      refine lv_istore (lv' := [(7, .int x7_19), (8, .int x8_18), (6, .int x6_17), (14, .int x8_16), (13, .int (nI (i + 1))), (5, .int x5_10), (15, .int x15_9), (12, .int K.2.2.2), (11, .int K.2.2.1), (10, .int K.2.1), (9, .int K.1), (4, .int 0), (3, .ref h3), (2, .int 0), (1, .ref h2), (0, .ref h0)]) hx hb dX2_encryptBlock_272 hl (by decide) rfl (fun ls hl => ?_)
      refine lv_iload hx hb dX2_encryptBlock_274 (lv_at hl 2 rfl) ?_
      refine lv_iload hx hb dX2_encryptBlock_276 (lv_at hl 1 rfl) ?_
      refine lv_iload hx hb dX2_encryptBlock_278 (lv_at hl 0 rfl) ?_
      refine lv_ior hx hb dX2_encryptBlock_280 ?_
      refine lv_ixor hx hb dX2_encryptBlock_281 ?_
      refine lv_topi (fun x6_20 ex6_20 => ?_)
      refine lv_istore (lv' := [(6, .int x6_20), (7, .int x7_19), (8, .int x8_18), (14, .int x8_16), (13, .int (nI (i + 1))), (5, .int x5_10), (15, .int x15_9), (12, .int K.2.2.2), (11, .int K.2.2.1), (10, .int K.2.1), (9, .int K.1), (4, .int 0), (3, .ref h3), (2, .int 0), (1, .ref h2), (0, .ref h0)]) hx hb dX2_encryptBlock_282 hl (by decide) rfl (fun ls hl => ?_)
      refine lv_iload hx hb dX2_encryptBlock_284 (lv_at hl 3 rfl) ?_
      refine lv_iload hx hb dX2_encryptBlock_286 (lv_at hl 1 rfl) ?_
      refine lv_iload hx hb dX2_encryptBlock_288 (lv_at hl 0 rfl) ?_
      refine lv_iand hx hb dX2_encryptBlock_290 ?_
      refine lv_ixor hx hb dX2_encryptBlock_291 ?_
      refine lv_topi (fun x5_21 ex5_21 => ?_)
      refine lv_istore (lv' := [(5, .int x5_21), (6, .int x6_20), (7, .int x7_19), (8, .int x8_18), (14, .int x8_16), (13, .int (nI (i + 1))), (15, .int x15_9), (12, .int K.2.2.2), (11, .int K.2.2.1), (10, .int K.2.1), (9, .int K.1), (4, .int 0), (3, .ref h3), (2, .int 0), (1, .ref h2), (0, .ref h0)]) hx hb dX2_encryptBlock_292 hl (by decide) rfl (fun ls hl => ?_)
      refine lv_iload hx hb dX2_encryptBlock_294 (lv_at hl 1 rfl) ?_
      refine lv_bipush (v := 31) hx hb dX2_encryptBlock_296 (by decide) ?_
      refine vp_callSi (va_Run.run (va_runS (As := [.int x6_20, .int 31]) (rest := []) ⟨hx, hb, hml, hown, hts⟩ (metX5_rotateLeft l x6_20 31) (va_cwS 2 hts (lw_S q190 q191 q17 q192) rfl rfl rfl (by decide +kernel) ⟨Nat.le_of_ble_eq_true rfl, Nat.le_of_ble_eq_true rfl⟩) ⟨fun _ _ _ _ h => h, fun _ _ _ => ⟨rfl, trivial⟩⟩ rfl rfl hl.1 rfl (lv_room (Nat.le_of_ble_eq_true rfl)) dX2_encryptBlock_298 ⟨Nat.le_of_ble_eq_true rfl, Nat.le_of_ble_eq_true rfl⟩)) (fun r9 (e9 : r9 = rol x6_20 31) => ?_)
      subst e9
      refine lv_topi (fun x6_22 ex6_22 => ?_)
      refine lv_istore (lv' := [(6, .int x6_22), (5, .int x5_21), (7, .int x7_19), (8, .int x8_18), (14, .int x8_16), (13, .int (nI (i + 1))), (15, .int x15_9), (12, .int K.2.2.2), (11, .int K.2.2.1), (10, .int K.2.1), (9, .int K.1), (4, .int 0), (3, .ref h3), (2, .int 0), (1, .ref h2), (0, .ref h0)]) hx hb dX2_encryptBlock_301 hl (by decide) rfl (fun ls hl => ?_)
      refine lv_iload hx hb dX2_encryptBlock_303 (lv_at hl 2 rfl) ?_
      refine lv_bipush (v := 27) hx hb dX2_encryptBlock_305 (by decide) ?_
      refine vp_callSi (va_Run.run (va_runS (As := [.int x7_19, .int 27]) (rest := []) ⟨hx, hb, hml, hown, hts⟩ (metX5_rotateLeft l x7_19 27) (va_cwS 2 hts (lw_S q190 q191 q17 q192) rfl rfl rfl (by decide +kernel) ⟨Nat.le_of_ble_eq_true rfl, Nat.le_of_ble_eq_true rfl⟩) ⟨fun _ _ _ _ h => h, fun _ _ _ => ⟨rfl, trivial⟩⟩ rfl rfl hl.1 rfl (lv_room (Nat.le_of_ble_eq_true rfl)) dX2_encryptBlock_307 ⟨Nat.le_of_ble_eq_true rfl, Nat.le_of_ble_eq_true rfl⟩)) (fun r9 (e9 : r9 = rol x7_19 27) => ?_)
      subst e9
      refine lv_topi (fun x7_23 ex7_23 => ?_)
      refine lv_istore (lv' := [(7, .int x7_23), (6, .int x6_22), (5, .int x5_21), (8, .int x8_18), (14, .int x8_16), (13, .int (nI (i + 1))), (15, .int x15_9), (12, .int K.2.2.2), (11, .int K.2.2.1), (10, .int K.2.1), (9, .int K.1), (4, .int 0), (3, .ref h3), (2, .int 0), (1, .ref h2), (0, .ref h0)]) hx hb dX2_encryptBlock_310 hl (by decide) rfl (fun ls hl => ?_)
      refine lv_iload hx hb dX2_encryptBlock_312 (lv_at hl 3 rfl) ?_
      refine lv_bipush (v := 30) hx hb dX2_encryptBlock_314 (by decide) ?_
      refine vp_callSi (va_Run.run (va_runS (As := [.int x8_18, .int 30]) (rest := []) ⟨hx, hb, hml, hown, hts⟩ (metX5_rotateLeft l x8_18 30) (va_cwS 2 hts (lw_S q190 q191 q17 q192) rfl rfl rfl (by decide +kernel) ⟨Nat.le_of_ble_eq_true rfl, Nat.le_of_ble_eq_true rfl⟩) ⟨fun _ _ _ _ h => h, fun _ _ _ => ⟨rfl, trivial⟩⟩ rfl rfl hl.1 rfl (lv_room (Nat.le_of_ble_eq_true rfl)) dX2_encryptBlock_316 ⟨Nat.le_of_ble_eq_true rfl, Nat.le_of_ble_eq_true rfl⟩)) (fun r9 (e9 : r9 = rol x8_18 30) => ?_)
      subst e9
      refine lv_topi (fun x8_24 ex8_24 => ?_)
      refine lv_istore (lv' := [(8, .int x8_24), (7, .int x7_23), (6, .int x6_22), (5, .int x5_21), (14, .int x8_16), (13, .int (nI (i + 1))), (15, .int x15_9), (12, .int K.2.2.2), (11, .int K.2.2.1), (10, .int K.2.1), (9, .int K.1), (4, .int 0), (3, .ref h3), (2, .int 0), (1, .ref h2), (0, .ref h0)]) hx hb dX2_encryptBlock_319 hl (by decide) rfl (fun ls hl => ?_)
      refine lv_goto (tgt := 71) hx hb dX2_encryptBlock_321 (by decide) ?_
      have hq : (x5_21, x6_22, x7_23, x8_24) = enI K (beQ fi) (i + 1) := by
        show _ = miE (thE K (adc (enI K (beQ fi) i) (rcE i)))
        rw [← he]
        subst ex8_24 ex7_23 ex6_22 ex5_21 ex6_20 ex7_19 ex8_18 ex6_17 ex8_16 ex7_15 ex6_14 ex8_13 ex7_12 ex6_11 ex5_10 ex15_9 ex15_8 ex8_7 ex7_6 ex6_5 ex5_4 ex14_3 ex14_2 ex5_1
        rfl
      exact ih (i + 1) (by omega) x5_21 x6_22 x7_23 x8_24 hq ls (lv_sub hl [5, 7, 8, 9, 10, 0, 1, 2, 3, 11, 12, 13, 14, 15] rfl)
  exact loop 16 0 (by omega) _ _ _ _ rfl ls (lv_sub hl [0, 1, 2, 3, 4, 5, 6, 7, 8, 13, 12, 11, 10, 9] rfl)
end
section
set_option maxHeartbeats 4000000 in
set_option maxRecDepth 100000 in
theorem metX2_decryptBlock (l : Launch) (D : va_G) (cB cI : ClassId) (sz : Nat) (h0 h1 h2 h3 : Nat) (K : Q4) (fi fo : Nat → Int32) : Met l yX2_decryptBlock (ws_ yX2_decryptBlock cX2_decryptBlock 16 (some .int)) ({ frames := 2, cells := 0, slots := 0, locals := 120 } : Room) (PreE D cB cI [.ref h0, .ref h2, .int 0, .ref h3, .int 0] sz [(h0, .inr (2, [.ref h1, .int 1, .int 0])), (h1, .inl (cI, 4, .inl (qf K))), (h2, .inl (cB, 16, .inl fi)), (h3, .inl (cB, 16, .inl fo))]) (PostI D (va_A [(h0, .inr (2, [.ref h1, .int 1, .int 0])), (h1, .inl (cI, 4, .inl (qf K))), (h2, .inl (cB, 16, .inl fi)), (h3, .inl (cB, 16, .inl fo))] sz) 16 (fun _ : Unit => [(h0, .inr (2, [.ref h1, .int 1, .int 0])), (h1, .inl (cI, 4, .inl (qf K))), (h2, .inl (cB, 16, .inl fi)), (h3, .inl (cB, 16, .inl (itQ fo (deF K (beQ fi)))))])) 0 0 (va_A [(h0, .inr (2, [.ref h1, .int 1, .int 0])), (h1, .inl (cI, 4, .inl (qf K))), (h2, .inl (cB, 16, .inl fi)), (h3, .inl (cB, 16, .inl fo))] sz) := by
  refine Met.ofW (cc := cX2_decryptBlock) (maxL := 16) (ret := (some .int)) (by decide) rfl ?_
  intro p e s m args below meth c s₁ B hml hv
  obtain ⟨rfl, hsz, hP, hD0, hE⟩ := hv
  have hx := B.exec
  have hb := B.bytes
  have hr := B.returns
  have hts := atoms_spec (ws := ws_ yX2_decryptBlock cX2_decryptBlock 16 (some .int)) B.pre
  have hts : ∀ w ∈ lw_all, w.before _ s = true := fun w h => hts w (List.mem_cons_of_mem _ h)
  have hown : s.vm.findClass RX2 = some m.cls := findClass_of_methodNamed B.named
  have hlocks := B.notSynchronized
  subst hsz
  have hD := hD0.self (sz := s.heap.size)
  generalize hAe : va_A [(h0, .inr (2, [.ref h1, .int 1, .int 0])), (h1, .inl (cI, 4, .inl (qf K))), (h2, .inl (cB, 16, .inl fi)), (h3, .inl (cB, 16, .inl fo))] s.heap.size = A at hD hE ⊢
  have hA : ∀ q : Nat, s.heap.size ≤ q → A q := fun q h => by rw [← hAe]; exact Or.inr h
  have hS : va_S A s.heap s.heap [] := va_S.rf
  have hK := hE.1
  have hP : va_P D vwCl [(h0, .inr (2, [.ref h1, .int 1, .int 0])), (h1, .inl (cI, 4, .inl (qf K))), (h2, .inl (cB, 16, .inl fi)), (h3, .inl (cB, 16, .inl fo))] s.heap := hP
  have hl := lv_entry ([.ref h0, .ref h2, .int 0, .ref h3, .int 0]) (n := 16) (Nat.le_of_ble_eq_true rfl)
  rw [lg_entry_eq]
  generalize (lg_sl ([.ref h0, .ref h2, .int 0, .ref h3, .int 0]) ++ List.replicate (16 - (lg_sl ([.ref h0, .ref h2, .int 0, .ref h3, .int 0])).length) Slot.unset).toArray = ls at hl ⊢
  have hl : lv_has ls 16 [(0, .ref h0), (1, .ref h2), (2, .int 0), (3, .ref h3), (4, .int 0)] := hl
  obtain ⟨tr, hZ, hT⟩ := hE.2.1
  refine lv_aload_n hx hb dX2_decryptBlock_0 rfl (lv_at hl 1 rfl) ?_
  refine lv_iload_n hx hb dX2_decryptBlock_1 rfl (lv_at hl 2 rfl) ?_
  refine lv_asi (y := nI 0) rfl ?_
  refine vp_callSi (va_Run.run (va_runS (As := [.ref h2, .int (nI 0)]) (rest := []) ⟨hx, hb, hml, hown, hts⟩ (metX4_bigEndianToInt_2 l D cB cI s.heap.size h2 fi 0 (Nat.le_of_ble_eq_true rfl)) (va_cwS 2 hts (lw_S q261 q188 q16 q189) rfl rfl rfl (by decide +kernel) ⟨Nat.le_of_ble_eq_true rfl, Nat.le_of_ble_eq_true rfl⟩) ⟨PreE.blind, preE hE hP hD hS hA [2] rfl rfl⟩ rfl rfl hl.1 rfl (lv_room (Nat.le_of_ble_eq_true rfl)) dX2_decryptBlock_2 ⟨Nat.le_of_ble_eq_true rfl, Nat.le_of_ble_eq_true rfl⟩)) (fun r9 (e9 : r9 = beI fi 0) => ?_)
  subst e9
  refine lv_istore (lv' := [(5, .int (beI fi 0)), (0, .ref h0), (1, .ref h2), (2, .int 0), (3, .ref h3), (4, .int 0)]) hx hb dX2_decryptBlock_5 hl (by decide) rfl (fun ls hl => ?_)
  refine lv_aload_n hx hb dX2_decryptBlock_7 rfl (lv_at hl 2 rfl) ?_
  refine lv_iload_n hx hb dX2_decryptBlock_8 rfl (lv_at hl 3 rfl) ?_
  refine lv_iconst (v := 4) hx hb dX2_decryptBlock_9 (by decide) ?_
  refine lv_iadd hx hb dX2_decryptBlock_10 ?_
  refine lv_asi (y := 4) (by decide) ?_
  refine lv_asi (y := nI 4) rfl ?_
  refine vp_callSi (va_Run.run (va_runS (As := [.ref h2, .int (nI 4)]) (rest := []) ⟨hx, hb, hml, hown, hts⟩ (metX4_bigEndianToInt_2 l D cB cI s.heap.size h2 fi 4 (Nat.le_of_ble_eq_true rfl)) (va_cwS 2 hts (lw_S q261 q188 q16 q189) rfl rfl rfl (by decide +kernel) ⟨Nat.le_of_ble_eq_true rfl, Nat.le_of_ble_eq_true rfl⟩) ⟨PreE.blind, preE hE hP hD hS hA [2] rfl rfl⟩ rfl rfl hl.1 rfl (lv_room (Nat.le_of_ble_eq_true rfl)) dX2_decryptBlock_11 ⟨Nat.le_of_ble_eq_true rfl, Nat.le_of_ble_eq_true rfl⟩)) (fun r9 (e9 : r9 = beI fi 4) => ?_)
  subst e9
  refine lv_istore (lv' := [(6, .int (beI fi 4)), (5, .int (beI fi 0)), (0, .ref h0), (1, .ref h2), (2, .int 0), (3, .ref h3), (4, .int 0)]) hx hb dX2_decryptBlock_14 hl (by decide) rfl (fun ls hl => ?_)
  refine lv_aload_n hx hb dX2_decryptBlock_16 rfl (lv_at hl 3 rfl) ?_
  refine lv_iload_n hx hb dX2_decryptBlock_17 rfl (lv_at hl 4 rfl) ?_
  refine lv_bipush (v := 8) hx hb dX2_decryptBlock_18 (by decide) ?_
  refine lv_iadd hx hb dX2_decryptBlock_20 ?_
  refine lv_asi (y := 8) (by decide) ?_
  refine lv_asi (y := nI 8) rfl ?_
  refine vp_callSi (va_Run.run (va_runS (As := [.ref h2, .int (nI 8)]) (rest := []) ⟨hx, hb, hml, hown, hts⟩ (metX4_bigEndianToInt_2 l D cB cI s.heap.size h2 fi 8 (Nat.le_of_ble_eq_true rfl)) (va_cwS 2 hts (lw_S q261 q188 q16 q189) rfl rfl rfl (by decide +kernel) ⟨Nat.le_of_ble_eq_true rfl, Nat.le_of_ble_eq_true rfl⟩) ⟨PreE.blind, preE hE hP hD hS hA [2] rfl rfl⟩ rfl rfl hl.1 rfl (lv_room (Nat.le_of_ble_eq_true rfl)) dX2_decryptBlock_21 ⟨Nat.le_of_ble_eq_true rfl, Nat.le_of_ble_eq_true rfl⟩)) (fun r9 (e9 : r9 = beI fi 8) => ?_)
  subst e9
  refine lv_istore (lv' := [(7, .int (beI fi 8)), (6, .int (beI fi 4)), (5, .int (beI fi 0)), (0, .ref h0), (1, .ref h2), (2, .int 0), (3, .ref h3), (4, .int 0)]) hx hb dX2_decryptBlock_24 hl (by decide) rfl (fun ls hl => ?_)
  refine lv_aload_n hx hb dX2_decryptBlock_26 rfl (lv_at hl 4 rfl) ?_
  refine lv_iload_n hx hb dX2_decryptBlock_27 rfl (lv_at hl 5 rfl) ?_
  refine lv_bipush (v := 12) hx hb dX2_decryptBlock_28 (by decide) ?_
  refine lv_iadd hx hb dX2_decryptBlock_30 ?_
  refine lv_asi (y := 12) (by decide) ?_
  refine lv_asi (y := nI 12) rfl ?_
  refine vp_callSi (va_Run.run (va_runS (As := [.ref h2, .int (nI 12)]) (rest := []) ⟨hx, hb, hml, hown, hts⟩ (metX4_bigEndianToInt_2 l D cB cI s.heap.size h2 fi 12 (Nat.le_of_ble_eq_true rfl)) (va_cwS 2 hts (lw_S q261 q188 q16 q189) rfl rfl rfl (by decide +kernel) ⟨Nat.le_of_ble_eq_true rfl, Nat.le_of_ble_eq_true rfl⟩) ⟨PreE.blind, preE hE hP hD hS hA [2] rfl rfl⟩ rfl rfl hl.1 rfl (lv_room (Nat.le_of_ble_eq_true rfl)) dX2_decryptBlock_31 ⟨Nat.le_of_ble_eq_true rfl, Nat.le_of_ble_eq_true rfl⟩)) (fun r9 (e9 : r9 = beI fi 12) => ?_)
  subst e9
  refine lv_istore (lv' := [(8, .int (beI fi 12)), (7, .int (beI fi 8)), (6, .int (beI fi 4)), (5, .int (beI fi 0)), (0, .ref h0), (1, .ref h2), (2, .int 0), (3, .ref h3), (4, .int 0)]) hx hb dX2_decryptBlock_34 hl (by decide) rfl (fun ls hl => ?_)
  refine lv_aload_n hx hb dX2_decryptBlock_36 rfl (lv_at hl 4 rfl) ?_
  refine va_get (D := D) (ci := 2) (v := .ref h1) (C := RX2) (T := TX2) (N := 3) hx hb hts in_X2 hown hK hP 0 rfl rfl 0 (by decide) (hts _ q70) (fun _ h9 => h9) rfl dX2_decryptBlock_37 ?_
  refine lv_iconst (v := 0) hx hb dX2_decryptBlock_40 (by decide) ?_
  refine k_iald (v := K.1) hx hb hK hP 1 rfl 0 rfl (Nat.le_of_ble_eq_true rfl) (Nat.le_of_ble_eq_true rfl) rfl dX2_decryptBlock_41 ?_
  refine lv_istore (lv' := [(9, .int K.1), (8, .int (beI fi 12)), (7, .int (beI fi 8)), (6, .int (beI fi 4)), (5, .int (beI fi 0)), (0, .ref h0), (1, .ref h2), (2, .int 0), (3, .ref h3), (4, .int 0)]) hx hb dX2_decryptBlock_42 hl (by decide) rfl (fun ls hl => ?_)
  refine lv_aload_n hx hb dX2_decryptBlock_44 rfl (lv_at hl 5 rfl) ?_
  refine va_get (D := D) (ci := 2) (v := .ref h1) (C := RX2) (T := TX2) (N := 3) hx hb hts in_X2 hown hK hP 0 rfl rfl 0 (by decide) (hts _ q70) (fun _ h9 => h9) rfl dX2_decryptBlock_45 ?_
  refine lv_iconst (v := 1) hx hb dX2_decryptBlock_48 (by decide) ?_
  refine k_iald (v := K.2.1) hx hb hK hP 1 rfl 1 rfl (Nat.le_of_ble_eq_true rfl) (Nat.le_of_ble_eq_true rfl) rfl dX2_decryptBlock_49 ?_
  refine lv_istore (lv' := [(10, .int K.2.1), (9, .int K.1), (8, .int (beI fi 12)), (7, .int (beI fi 8)), (6, .int (beI fi 4)), (5, .int (beI fi 0)), (0, .ref h0), (1, .ref h2), (2, .int 0), (3, .ref h3), (4, .int 0)]) hx hb dX2_decryptBlock_50 hl (by decide) rfl (fun ls hl => ?_)
  refine lv_aload_n hx hb dX2_decryptBlock_52 rfl (lv_at hl 6 rfl) ?_
  refine va_get (D := D) (ci := 2) (v := .ref h1) (C := RX2) (T := TX2) (N := 3) hx hb hts in_X2 hown hK hP 0 rfl rfl 0 (by decide) (hts _ q70) (fun _ h9 => h9) rfl dX2_decryptBlock_53 ?_
  refine lv_iconst (v := 2) hx hb dX2_decryptBlock_56 (by decide) ?_
  refine k_iald (v := K.2.2.1) hx hb hK hP 1 rfl 2 rfl (Nat.le_of_ble_eq_true rfl) (Nat.le_of_ble_eq_true rfl) rfl dX2_decryptBlock_57 ?_
  refine lv_istore (lv' := [(11, .int K.2.2.1), (10, .int K.2.1), (9, .int K.1), (8, .int (beI fi 12)), (7, .int (beI fi 8)), (6, .int (beI fi 4)), (5, .int (beI fi 0)), (0, .ref h0), (1, .ref h2), (2, .int 0), (3, .ref h3), (4, .int 0)]) hx hb dX2_decryptBlock_58 hl (by decide) rfl (fun ls hl => ?_)
  refine lv_aload_n hx hb dX2_decryptBlock_60 rfl (lv_at hl 7 rfl) ?_
  refine va_get (D := D) (ci := 2) (v := .ref h1) (C := RX2) (T := TX2) (N := 3) hx hb hts in_X2 hown hK hP 0 rfl rfl 0 (by decide) (hts _ q70) (fun _ h9 => h9) rfl dX2_decryptBlock_61 ?_
  refine lv_iconst (v := 3) hx hb dX2_decryptBlock_64 (by decide) ?_
  refine k_iald (v := K.2.2.2) hx hb hK hP 1 rfl 3 rfl (Nat.le_of_ble_eq_true rfl) (Nat.le_of_ble_eq_true rfl) rfl dX2_decryptBlock_65 ?_
  refine lv_istore (lv' := [(12, .int K.2.2.2), (11, .int K.2.2.1), (10, .int K.2.1), (9, .int K.1), (8, .int (beI fi 12)), (7, .int (beI fi 8)), (6, .int (beI fi 4)), (5, .int (beI fi 0)), (0, .ref h0), (1, .ref h2), (2, .int 0), (3, .ref h3), (4, .int 0)]) hx hb dX2_decryptBlock_66 hl (by decide) rfl (fun ls hl => ?_)
  refine lv_bipush (v := 16) hx hb dX2_decryptBlock_68 (by decide) ?_
  refine lv_istore (lv' := [(13, .int 16), (12, .int K.2.2.2), (11, .int K.2.2.1), (10, .int K.2.1), (9, .int K.1), (8, .int (beI fi 12)), (7, .int (beI fi 8)), (6, .int (beI fi 4)), (5, .int (beI fi 0)), (0, .ref h0), (1, .ref h2), (2, .int 0), (3, .ref h3), (4, .int 0)]) hx hb dX2_decryptBlock_70 hl (by decide) rfl (fun ls hl => ?_)
  have loop : ∀ (r i : Nat), i + r = 16 → ∀ (a0 a1 a2 a3 : Int32), (a0, a1, a2, a3) = deI K (beQ fi) i → ∀ (ls : Array Slot), lv_has ls 16 [(13, .int (nI r)), (12, .int K.2.2.2), (11, .int K.2.2.1), (10, .int K.2.1), (9, .int K.1), (8, .int a3), (7, .int a2), (6, .int a1), (5, .int a0), (4, .int 0), (3, .ref h3), (2, .int 0), (1, .ref h2), (0, .ref h0)] → W p l e (headSpec (ws_ yX2_decryptBlock cX2_decryptBlock 16 (some .int)) ({ frames := 2, cells := 0, slots := 0, locals := 120 } : Room)).room s m ([.ref h0, .ref h2, .int 0, .ref h3, .int 0] : List Value).toArray below meth c s.heap [] 0 0 (MQ below (PostI D A 16 (fun _ : Unit => [(h0, .inr (2, [.ref h1, .int 1, .int 0])), (h1, .inl (cI, 4, .inl (qf K))), (h2, .inl (cB, 16, .inl fi)), (h3, .inl (cB, 16, .inl (itQ fo (deF K (beQ fi)))))])) ([.ref h0, .ref h2, .int 0, .ref h3, .int 0] : List Value).toArray s 0 0 A) (F0 m 72 ls []) := by
    intro r
    induction r with
    | zero =>
      intro i hi a0 a1 a2 a3 he ls hl
      have hi6 : i = 16 := by omega
      subst hi6
      refine lv_iload hx hb dX2_decryptBlock_72 (lv_at hl 8 rfl) ?_
      refine lv_iload hx hb dX2_decryptBlock_74 (lv_at hl 6 rfl) ?_
      refine lv_ixor hx hb dX2_decryptBlock_76 ?_
      refine lv_topi (fun x14_1 ex14_1 => ?_)
      refine lv_istore (lv' := [(14, .int x14_1), (13, .int (nI 0)), (12, .int K.2.2.2), (11, .int K.2.2.1), (10, .int K.2.1), (9, .int K.1), (8, .int a3), (7, .int a2), (6, .int a1), (5, .int a0), (4, .int 0), (3, .ref h3), (2, .int 0), (1, .ref h2), (0, .ref h0)]) hx hb dX2_decryptBlock_77 hl (by decide) rfl (fun ls hl => ?_)
      refine lv_iload hx hb dX2_decryptBlock_79 (lv_at hl 0 rfl) ?_
      refine lv_iload hx hb dX2_decryptBlock_81 (lv_at hl 0 rfl) ?_
      refine lv_bipush (v := 8) hx hb dX2_decryptBlock_83 (by decide) ?_
      refine vp_callSi (va_Run.run (va_runS (As := [.int x14_1, .int 8]) (rest := [.int x14_1]) ⟨hx, hb, hml, hown, hts⟩ (metX5_rotateLeft l x14_1 8) (va_cwS 2 hts (lw_S q190 q191 q17 q192) rfl rfl rfl (by decide +kernel) ⟨Nat.le_of_ble_eq_true rfl, Nat.le_of_ble_eq_true rfl⟩) ⟨fun _ _ _ _ h => h, fun _ _ _ => ⟨rfl, trivial⟩⟩ rfl rfl hl.1 rfl (lv_room (Nat.le_of_ble_eq_true rfl)) dX2_decryptBlock_85 ⟨Nat.le_of_ble_eq_true rfl, Nat.le_of_ble_eq_true rfl⟩)) (fun r9 (e9 : r9 = rol x14_1 8) => ?_)
      subst e9
      refine lv_iload hx hb dX2_decryptBlock_88 (lv_at hl 0 rfl) ?_
      refine lv_bipush (v := 24) hx hb dX2_decryptBlock_90 (by decide) ?_
      refine vp_callSi (va_Run.run (va_runS (As := [.int x14_1, .int 24]) (rest := [.int (rol x14_1 8), .int x14_1]) ⟨hx, hb, hml, hown, hts⟩ (metX5_rotateLeft l x14_1 24) (va_cwS 2 hts (lw_S q190 q191 q17 q192) rfl rfl rfl (by decide +kernel) ⟨Nat.le_of_ble_eq_true rfl, Nat.le_of_ble_eq_true rfl⟩) ⟨fun _ _ _ _ h => h, fun _ _ _ => ⟨rfl, trivial⟩⟩ rfl rfl hl.1 rfl (lv_room (Nat.le_of_ble_eq_true rfl)) dX2_decryptBlock_92 ⟨Nat.le_of_ble_eq_true rfl, Nat.le_of_ble_eq_true rfl⟩)) (fun r9 (e9 : r9 = rol x14_1 24) => ?_)
      subst e9
      refine lv_ixor hx hb dX2_decryptBlock_95 ?_
      refine lv_ixor hx hb dX2_decryptBlock_96 ?_
      refine lv_asi (y := spr x14_1) rfl ?_
      refine lv_topi (fun x14_2 ex14_2 => ?_)
      refine lv_istore (lv' := [(14, .int x14_2), (13, .int (nI 0)), (12, .int K.2.2.2), (11, .int K.2.2.1), (10, .int K.2.1), (9, .int K.1), (8, .int a3), (7, .int a2), (6, .int a1), (5, .int a0), (4, .int 0), (3, .ref h3), (2, .int 0), (1, .ref h2), (0, .ref h0)]) hx hb dX2_decryptBlock_97 hl (by decide) rfl (fun ls hl => ?_)
      refine lv_iload hx hb dX2_decryptBlock_99 (lv_at hl 9 rfl) ?_
      refine lv_iload hx hb dX2_decryptBlock_101 (lv_at hl 5 rfl) ?_
      refine lv_ixor hx hb dX2_decryptBlock_103 ?_
      refine lv_topi (fun x5_3 ex5_3 => ?_)
      refine lv_istore (lv' := [(5, .int x5_3), (14, .int x14_2), (13, .int (nI 0)), (12, .int K.2.2.2), (11, .int K.2.2.1), (10, .int K.2.1), (9, .int K.1), (8, .int a3), (7, .int a2), (6, .int a1), (4, .int 0), (3, .ref h3), (2, .int 0), (1, .ref h2), (0, .ref h0)]) hx hb dX2_decryptBlock_104 hl (by decide) rfl (fun ls hl => ?_)
      refine lv_iload hx hb dX2_decryptBlock_106 (lv_at hl 9 rfl) ?_
      refine lv_iload hx hb dX2_decryptBlock_108 (lv_at hl 5 rfl) ?_
      refine lv_ixor hx hb dX2_decryptBlock_110 ?_
      refine lv_topi (fun x6_4 ex6_4 => ?_)
      refine lv_istore (lv' := [(6, .int x6_4), (5, .int x5_3), (14, .int x14_2), (13, .int (nI 0)), (12, .int K.2.2.2), (11, .int K.2.2.1), (10, .int K.2.1), (9, .int K.1), (8, .int a3), (7, .int a2), (4, .int 0), (3, .ref h3), (2, .int 0), (1, .ref h2), (0, .ref h0)]) hx hb dX2_decryptBlock_111 hl (by decide) rfl (fun ls hl => ?_)
      refine lv_iload hx hb dX2_decryptBlock_113 (lv_at hl 9 rfl) ?_
      refine lv_iload hx hb dX2_decryptBlock_115 (lv_at hl 5 rfl) ?_
      refine lv_ixor hx hb dX2_decryptBlock_117 ?_
      refine lv_topi (fun x7_5 ex7_5 => ?_)
      refine lv_istore (lv' := [(7, .int x7_5), (6, .int x6_4), (5, .int x5_3), (14, .int x14_2), (13, .int (nI 0)), (12, .int K.2.2.2), (11, .int K.2.2.1), (10, .int K.2.1), (9, .int K.1), (8, .int a3), (4, .int 0), (3, .ref h3), (2, .int 0), (1, .ref h2), (0, .ref h0)]) hx hb dX2_decryptBlock_118 hl (by decide) rfl (fun ls hl => ?_)
      refine lv_iload hx hb dX2_decryptBlock_120 (lv_at hl 9 rfl) ?_
      refine lv_iload hx hb dX2_decryptBlock_122 (lv_at hl 5 rfl) ?_
      refine lv_ixor hx hb dX2_decryptBlock_124 ?_
      refine lv_topi (fun x8_6 ex8_6 => ?_)
      refine lv_istore (lv' := [(8, .int x8_6), (7, .int x7_5), (6, .int x6_4), (5, .int x5_3), (14, .int x14_2), (13, .int (nI 0)), (12, .int K.2.2.2), (11, .int K.2.2.1), (10, .int K.2.1), (9, .int K.1), (4, .int 0), (3, .ref h3), (2, .int 0), (1, .ref h2), (0, .ref h0)]) hx hb dX2_decryptBlock_125 hl (by decide) rfl (fun ls hl => ?_)
      refine lv_iload hx hb dX2_decryptBlock_127 (lv_at hl 2 rfl) ?_
      refine lv_iload hx hb dX2_decryptBlock_129 (lv_at hl 0 rfl) ?_
      refine lv_ixor hx hb dX2_decryptBlock_131 ?_
      refine lv_topi (fun x15_7 ex15_7 => ?_)
      refine lv_istore (lv' := [(15, .int x15_7), (8, .int x8_6), (7, .int x7_5), (6, .int x6_4), (5, .int x5_3), (14, .int x14_2), (13, .int (nI 0)), (12, .int K.2.2.2), (11, .int K.2.2.1), (10, .int K.2.1), (9, .int K.1), (4, .int 0), (3, .ref h3), (2, .int 0), (1, .ref h2), (0, .ref h0)]) hx hb dX2_decryptBlock_132 hl (by decide) rfl (fun ls hl => ?_)
      refine lv_iload hx hb dX2_decryptBlock_134 (lv_at hl 0 rfl) ?_
      refine lv_iload hx hb dX2_decryptBlock_136 (lv_at hl 0 rfl) ?_
      refine lv_bipush (v := 8) hx hb dX2_decryptBlock_138 (by decide) ?_
      refine vp_callSi (va_Run.run (va_runS (As := [.int x15_7, .int 8]) (rest := [.int x15_7]) ⟨hx, hb, hml, hown, hts⟩ (metX5_rotateLeft l x15_7 8) (va_cwS 2 hts (lw_S q190 q191 q17 q192) rfl rfl rfl (by decide +kernel) ⟨Nat.le_of_ble_eq_true rfl, Nat.le_of_ble_eq_true rfl⟩) ⟨fun _ _ _ _ h => h, fun _ _ _ => ⟨rfl, trivial⟩⟩ rfl rfl hl.1 rfl (lv_room (Nat.le_of_ble_eq_true rfl)) dX2_decryptBlock_140 ⟨Nat.le_of_ble_eq_true rfl, Nat.le_of_ble_eq_true rfl⟩)) (fun r9 (e9 : r9 = rol x15_7 8) => ?_)
      subst e9
      refine lv_iload hx hb dX2_decryptBlock_143 (lv_at hl 0 rfl) ?_
      refine lv_bipush (v := 24) hx hb dX2_decryptBlock_145 (by decide) ?_
      refine vp_callSi (va_Run.run (va_runS (As := [.int x15_7, .int 24]) (rest := [.int (rol x15_7 8), .int x15_7]) ⟨hx, hb, hml, hown, hts⟩ (metX5_rotateLeft l x15_7 24) (va_cwS 2 hts (lw_S q190 q191 q17 q192) rfl rfl rfl (by decide +kernel) ⟨Nat.le_of_ble_eq_true rfl, Nat.le_of_ble_eq_true rfl⟩) ⟨fun _ _ _ _ h => h, fun _ _ _ => ⟨rfl, trivial⟩⟩ rfl rfl hl.1 rfl (lv_room (Nat.le_of_ble_eq_true rfl)) dX2_decryptBlock_147 ⟨Nat.le_of_ble_eq_true rfl, Nat.le_of_ble_eq_true rfl⟩)) (fun r9 (e9 : r9 = rol x15_7 24) => ?_)
      subst e9
      refine lv_ixor hx hb dX2_decryptBlock_150 ?_
      refine lv_ixor hx hb dX2_decryptBlock_151 ?_
      refine lv_asi (y := spr x15_7) rfl ?_
      refine lv_topi (fun x15_8 ex15_8 => ?_)
      refine lv_istore (lv' := [(15, .int x15_8), (8, .int x8_6), (7, .int x7_5), (6, .int x6_4), (5, .int x5_3), (14, .int x14_2), (13, .int (nI 0)), (12, .int K.2.2.2), (11, .int K.2.2.1), (10, .int K.2.1), (9, .int K.1), (4, .int 0), (3, .ref h3), (2, .int 0), (1, .ref h2), (0, .ref h0)]) hx hb dX2_decryptBlock_152 hl (by decide) rfl (fun ls hl => ?_)
      refine lv_iload hx hb dX2_decryptBlock_154 (lv_at hl 4 rfl) ?_
      refine lv_iload hx hb dX2_decryptBlock_156 (lv_at hl 0 rfl) ?_
      refine lv_ixor hx hb dX2_decryptBlock_158 ?_
      refine lv_topi (fun x5_9 ex5_9 => ?_)
      refine lv_istore (lv' := [(5, .int x5_9), (15, .int x15_8), (8, .int x8_6), (7, .int x7_5), (6, .int x6_4), (14, .int x14_2), (13, .int (nI 0)), (12, .int K.2.2.2), (11, .int K.2.2.1), (10, .int K.2.1), (9, .int K.1), (4, .int 0), (3, .ref h3), (2, .int 0), (1, .ref h2), (0, .ref h0)]) hx hb dX2_decryptBlock_159 hl (by decide) rfl (fun ls hl => ?_)
      refine lv_iload hx hb dX2_decryptBlock_161 (lv_at hl 4 rfl) ?_
      refine lv_iload hx hb dX2_decryptBlock_163 (lv_at hl 5 rfl) ?_
      refine lv_ixor hx hb dX2_decryptBlock_165 ?_
      refine lv_topi (fun x6_10 ex6_10 => ?_)
      refine lv_istore (lv' := [(6, .int x6_10), (5, .int x5_9), (15, .int x15_8), (8, .int x8_6), (7, .int x7_5), (14, .int x14_2), (13, .int (nI 0)), (12, .int K.2.2.2), (11, .int K.2.2.1), (10, .int K.2.1), (9, .int K.1), (4, .int 0), (3, .ref h3), (2, .int 0), (1, .ref h2), (0, .ref h0)]) hx hb dX2_decryptBlock_166 hl (by decide) rfl (fun ls hl => ?_)
      refine lv_iload hx hb dX2_decryptBlock_168 (lv_at hl 4 rfl) ?_
      refine lv_iload hx hb dX2_decryptBlock_170 (lv_at hl 2 rfl) ?_
      refine lv_ixor hx hb dX2_decryptBlock_172 ?_
      refine lv_topi (fun x7_11 ex7_11 => ?_)
      refine lv_istore (lv' := [(7, .int x7_11), (6, .int x6_10), (5, .int x5_9), (15, .int x15_8), (8, .int x8_6), (14, .int x14_2), (13, .int (nI 0)), (12, .int K.2.2.2), (11, .int K.2.2.1), (10, .int K.2.1), (9, .int K.1), (4, .int 0), (3, .ref h3), (2, .int 0), (1, .ref h2), (0, .ref h0)]) hx hb dX2_decryptBlock_173 hl (by decide) rfl (fun ls hl => ?_)
      refine lv_iload hx hb dX2_decryptBlock_175 (lv_at hl 4 rfl) ?_
      refine lv_iload hx hb dX2_decryptBlock_177 (lv_at hl 5 rfl) ?_
      refine lv_ixor hx hb dX2_decryptBlock_179 ?_
      refine lv_topi (fun x8_12 ex8_12 => ?_)
      refine lv_istore (lv' := [(8, .int x8_12), (7, .int x7_11), (6, .int x6_10), (5, .int x5_9), (15, .int x15_8), (14, .int x14_2), (13, .int (nI 0)), (12, .int K.2.2.2), (11, .int K.2.2.1), (10, .int K.2.1), (9, .int K.1), (4, .int 0), (3, .ref h3), (2, .int 0), (1, .ref h2), (0, .ref h0)]) hx hb dX2_decryptBlock_180 hl (by decide) rfl (fun ls hl => ?_)
      refine lv_iload hx hb dX2_decryptBlock_182 (lv_at hl 3 rfl) ?_
      refine va_gets hx hb hZ hS hown (hts _ q262) (fun _ h9 => h9) dX2_decryptBlock_184 ?_
      refine lv_iload hx hb dX2_decryptBlock_187 (lv_at hl 6 rfl) ?_
      refine va_tb (v := .int (rcB 0)) hx hb hT hS (vp_in_nI (show 0 < 17 by omega) (by omega)) (by rw [nI_clamp (show 0 < 2 ^ 31 by omega)]) dX2_decryptBlock_189 ?_
      refine lv_sipush (v := 255) hx hb dX2_decryptBlock_190 (by decide) ?_
      refine lv_iand hx hb dX2_decryptBlock_193 ?_
      refine lv_ixor hx hb dX2_decryptBlock_194 ?_
      refine lv_asi (y := x5_9 ^^^ rcE 0) rfl ?_
      refine lv_topi (fun x5_13 ex5_13 => ?_)
      refine lv_istore (lv' := [(5, .int x5_13), (8, .int x8_12), (7, .int x7_11), (6, .int x6_10), (15, .int x15_8), (14, .int x14_2), (13, .int (nI 0)), (12, .int K.2.2.2), (11, .int K.2.2.1), (10, .int K.2.1), (9, .int K.1), (4, .int 0), (3, .ref h3), (2, .int 0), (1, .ref h2), (0, .ref h0)]) hx hb dX2_decryptBlock_195 hl (by decide) rfl (fun ls hl => ?_)
      refine lv_iinc (v := -1) (lv' := [(13, .int (-1)), (5, .int x5_13), (8, .int x8_12), (7, .int x7_11), (6, .int x6_10), (15, .int x15_8), (14, .int x14_2), (12, .int K.2.2.2), (11, .int K.2.2.1), (10, .int K.2.1), (9, .int K.1), (4, .int 0), (3, .ref h3), (2, .int 0), (1, .ref h2), (0, .ref h0)]) hx hb dX2_decryptBlock_197 hl (k := 6) rfl (by decide) (by decide) rfl (fun ls hl => ?_)
      refine lv_iload hx hb dX2_decryptBlock_200 (lv_at hl 0 rfl) ?_
      refine lv_if_ge (tgt := 208) hx hb dX2_decryptBlock_202 (by decide) (fun c9 => False.elim (by revert c9; decide)) (fun _ => ?_)
      refine lv_goto (tgt := 323) hx hb dX2_decryptBlock_205 (by decide) ?_
      refine lv_iload hx hb dX2_decryptBlock_323 (lv_at hl 1 rfl) ?_
      refine lv_aload_n hx hb dX2_decryptBlock_325 rfl (lv_at hl 12 rfl) ?_
      refine lv_iload hx hb dX2_decryptBlock_326 (lv_at hl 11 rfl) ?_
      refine lv_asi (y := nI 0) rfl ?_
      refine k_v (D := D) (wc := [(h3, .inl (cB, 16, .inl fo))]) (wr := [(h0, .inr (2, [.ref h1, .int 1, .int 0])), (h1, .inl (cI, 4, .inl (qf K))), (h2, .inl (cB, 16, .inl fi))]) (va_runS (As := [.int x5_13, .ref h3, .int (nI 0)]) (rest := []) ⟨hx, hb, hml, hown, hts⟩ (metX4_intToBigEndian l D cB cI s.heap.size h3 fo 0 x5_13 (Nat.le_of_ble_eq_true rfl)) (va_cwS 3 hts (lw_S q264 q265 q16 q266) rfl rfl rfl (by decide +kernel) ⟨Nat.le_of_ble_eq_true rfl, Nat.le_of_ble_eq_true rfl⟩) ⟨PreE.blind, preE hE hP hD hS hA [3] rfl rfl⟩ rfl rfl hl.1 rfl (lv_room (Nat.le_of_ble_eq_true rfl)) dX2_decryptBlock_328 ⟨Nat.le_of_ble_eq_true rfl, Nat.le_of_ble_eq_true rfl⟩) hP hD hS hA [3] [0, 1, 2] rfl rfl rfl (by decide) [0, 1, 2, 3] rfl (fun _ : Unit => [(h0, .inr (2, [.ref h1, .int 1, .int 0])), (h1, .inl (cI, 4, .inl (qf K))), (h2, .inl (cB, 16, .inl fi)), (h3, .inl (cB, 16, .inl (itb fo 0 x5_13)))]) (fun _ => rfl) (fun _ H locs hP hD hS => ?_)
      refine lv_iload hx hb dX2_decryptBlock_331 (lv_at hl 4 rfl) ?_
      refine lv_aload_n hx hb dX2_decryptBlock_333 rfl (lv_at hl 12 rfl) ?_
      refine lv_iload hx hb dX2_decryptBlock_334 (lv_at hl 11 rfl) ?_
      refine lv_iconst (v := 4) hx hb dX2_decryptBlock_336 (by decide) ?_
      refine lv_iadd hx hb dX2_decryptBlock_337 ?_
      refine lv_asi (y := 4) (by decide) ?_
      refine lv_asi (y := nI 4) rfl ?_
      refine k_v (D := D) (wc := [(h3, .inl (cB, 16, .inl (itb fo 0 x5_13)))]) (wr := [(h0, .inr (2, [.ref h1, .int 1, .int 0])), (h1, .inl (cI, 4, .inl (qf K))), (h2, .inl (cB, 16, .inl fi))]) (va_runS (As := [.int x6_10, .ref h3, .int (nI 4)]) (rest := []) ⟨hx, hb, hml, hown, hts⟩ (metX4_intToBigEndian l D cB cI H.size h3 (itb fo 0 x5_13) 4 x6_10 (Nat.le_of_ble_eq_true rfl)) (va_cwS 3 hts (lw_S q264 q265 q16 q266) rfl rfl rfl (by decide +kernel) ⟨Nat.le_of_ble_eq_true rfl, Nat.le_of_ble_eq_true rfl⟩) ⟨PreE.blind, preE hE hP hD hS hA [3] rfl rfl⟩ rfl rfl hl.1 rfl (lv_room (Nat.le_of_ble_eq_true rfl)) dX2_decryptBlock_338 ⟨Nat.le_of_ble_eq_true rfl, Nat.le_of_ble_eq_true rfl⟩) hP hD hS hA [3] [0, 1, 2] rfl rfl rfl (by decide) [0, 1, 2, 3] rfl (fun _ : Unit => [(h0, .inr (2, [.ref h1, .int 1, .int 0])), (h1, .inl (cI, 4, .inl (qf K))), (h2, .inl (cB, 16, .inl fi)), (h3, .inl (cB, 16, .inl (itb (itb fo 0 x5_13) 4 x6_10)))]) (fun _ => rfl) (fun _ H locs hP hD hS => ?_)
      refine lv_iload hx hb dX2_decryptBlock_341 (lv_at hl 3 rfl) ?_
      refine lv_aload_n hx hb dX2_decryptBlock_343 rfl (lv_at hl 12 rfl) ?_
      refine lv_iload hx hb dX2_decryptBlock_344 (lv_at hl 11 rfl) ?_
      refine lv_bipush (v := 8) hx hb dX2_decryptBlock_346 (by decide) ?_
      refine lv_iadd hx hb dX2_decryptBlock_348 ?_
      refine lv_asi (y := 8) (by decide) ?_
      refine lv_asi (y := nI 8) rfl ?_
      refine k_v (D := D) (wc := [(h3, .inl (cB, 16, .inl (itb (itb fo 0 x5_13) 4 x6_10)))]) (wr := [(h0, .inr (2, [.ref h1, .int 1, .int 0])), (h1, .inl (cI, 4, .inl (qf K))), (h2, .inl (cB, 16, .inl fi))]) (va_runS (As := [.int x7_11, .ref h3, .int (nI 8)]) (rest := []) ⟨hx, hb, hml, hown, hts⟩ (metX4_intToBigEndian l D cB cI H.size h3 (itb (itb fo 0 x5_13) 4 x6_10) 8 x7_11 (Nat.le_of_ble_eq_true rfl)) (va_cwS 3 hts (lw_S q264 q265 q16 q266) rfl rfl rfl (by decide +kernel) ⟨Nat.le_of_ble_eq_true rfl, Nat.le_of_ble_eq_true rfl⟩) ⟨PreE.blind, preE hE hP hD hS hA [3] rfl rfl⟩ rfl rfl hl.1 rfl (lv_room (Nat.le_of_ble_eq_true rfl)) dX2_decryptBlock_349 ⟨Nat.le_of_ble_eq_true rfl, Nat.le_of_ble_eq_true rfl⟩) hP hD hS hA [3] [0, 1, 2] rfl rfl rfl (by decide) [0, 1, 2, 3] rfl (fun _ : Unit => [(h0, .inr (2, [.ref h1, .int 1, .int 0])), (h1, .inl (cI, 4, .inl (qf K))), (h2, .inl (cB, 16, .inl fi)), (h3, .inl (cB, 16, .inl (itb (itb (itb fo 0 x5_13) 4 x6_10) 8 x7_11)))]) (fun _ => rfl) (fun _ H locs hP hD hS => ?_)
      refine lv_iload hx hb dX2_decryptBlock_352 (lv_at hl 2 rfl) ?_
      refine lv_aload_n hx hb dX2_decryptBlock_354 rfl (lv_at hl 12 rfl) ?_
      refine lv_iload hx hb dX2_decryptBlock_355 (lv_at hl 11 rfl) ?_
      refine lv_bipush (v := 12) hx hb dX2_decryptBlock_357 (by decide) ?_
      refine lv_iadd hx hb dX2_decryptBlock_359 ?_
      refine lv_asi (y := 12) (by decide) ?_
      refine lv_asi (y := nI 12) rfl ?_
      refine k_v (D := D) (wc := [(h3, .inl (cB, 16, .inl (itb (itb (itb fo 0 x5_13) 4 x6_10) 8 x7_11)))]) (wr := [(h0, .inr (2, [.ref h1, .int 1, .int 0])), (h1, .inl (cI, 4, .inl (qf K))), (h2, .inl (cB, 16, .inl fi))]) (va_runS (As := [.int x8_12, .ref h3, .int (nI 12)]) (rest := []) ⟨hx, hb, hml, hown, hts⟩ (metX4_intToBigEndian l D cB cI H.size h3 (itb (itb (itb fo 0 x5_13) 4 x6_10) 8 x7_11) 12 x8_12 (Nat.le_of_ble_eq_true rfl)) (va_cwS 3 hts (lw_S q264 q265 q16 q266) rfl rfl rfl (by decide +kernel) ⟨Nat.le_of_ble_eq_true rfl, Nat.le_of_ble_eq_true rfl⟩) ⟨PreE.blind, preE hE hP hD hS hA [3] rfl rfl⟩ rfl rfl hl.1 rfl (lv_room (Nat.le_of_ble_eq_true rfl)) dX2_decryptBlock_360 ⟨Nat.le_of_ble_eq_true rfl, Nat.le_of_ble_eq_true rfl⟩) hP hD hS hA [3] [0, 1, 2] rfl rfl rfl (by decide) [0, 1, 2, 3] rfl (fun _ : Unit => [(h0, .inr (2, [.ref h1, .int 1, .int 0])), (h1, .inl (cI, 4, .inl (qf K))), (h2, .inl (cB, 16, .inl fi)), (h3, .inl (cB, 16, .inl (itb (itb (itb (itb fo 0 x5_13) 4 x6_10) 8 x7_11) 12 x8_12)))]) (fun _ => rfl) (fun _ H locs hP hD hS => ?_)
      refine lv_bipush (v := 16) hx hb dX2_decryptBlock_363 (by decide) ?_
      have hq : (x5_13, x6_10, x7_11, x8_12) = deF K (beQ fi) := by
        show _ = adc (thE K (deI K (beQ fi) 16)) (rcE 0)
        rw [← he]
        subst ex5_13 ex8_12 ex7_11 ex6_10 ex5_9 ex15_8 ex15_7 ex8_6 ex7_5 ex6_4 ex5_3 ex14_2 ex14_1
        rfl
      have hf : itb (itb (itb (itb fo 0 x5_13) 4 x6_10) 8 x7_11) 12 x8_12 = itQ fo (deF K (beQ fi)) := by rw [← hq]; rfl
      rw [hf] at hP hD
      exact W.iret (v := 16) hx hb hr (fun t ht hW => ⟨⟨16, (), rfl, rfl, by rw [ht]; exact hP, hD⟩, hS.F ht⟩) hS.2.2 dX2_decryptBlock_365
    | succ r ih =>
      intro i hi a0 a1 a2 a3 he ls hl
      have hri : 16 - i = r + 1 := by omega
      refine lv_iload hx hb dX2_decryptBlock_72 (lv_at hl 8 rfl) ?_
      refine lv_iload hx hb dX2_decryptBlock_74 (lv_at hl 6 rfl) ?_
      refine lv_ixor hx hb dX2_decryptBlock_76 ?_
      refine lv_topi (fun x14_1 ex14_1 => ?_)
      refine lv_istore (lv' := [(14, .int x14_1), (13, .int (nI (r + 1))), (12, .int K.2.2.2), (11, .int K.2.2.1), (10, .int K.2.1), (9, .int K.1), (8, .int a3), (7, .int a2), (6, .int a1), (5, .int a0), (4, .int 0), (3, .ref h3), (2, .int 0), (1, .ref h2), (0, .ref h0)]) hx hb dX2_decryptBlock_77 hl (by decide) rfl (fun ls hl => ?_)
      refine lv_iload hx hb dX2_decryptBlock_79 (lv_at hl 0 rfl) ?_
      refine lv_iload hx hb dX2_decryptBlock_81 (lv_at hl 0 rfl) ?_
      refine lv_bipush (v := 8) hx hb dX2_decryptBlock_83 (by decide) ?_
      refine vp_callSi (va_Run.run (va_runS (As := [.int x14_1, .int 8]) (rest := [.int x14_1]) ⟨hx, hb, hml, hown, hts⟩ (metX5_rotateLeft l x14_1 8) (va_cwS 2 hts (lw_S q190 q191 q17 q192) rfl rfl rfl (by decide +kernel) ⟨Nat.le_of_ble_eq_true rfl, Nat.le_of_ble_eq_true rfl⟩) ⟨fun _ _ _ _ h => h, fun _ _ _ => ⟨rfl, trivial⟩⟩ rfl rfl hl.1 rfl (lv_room (Nat.le_of_ble_eq_true rfl)) dX2_decryptBlock_85 ⟨Nat.le_of_ble_eq_true rfl, Nat.le_of_ble_eq_true rfl⟩)) (fun r9 (e9 : r9 = rol x14_1 8) => ?_)
      subst e9
      refine lv_iload hx hb dX2_decryptBlock_88 (lv_at hl 0 rfl) ?_
      refine lv_bipush (v := 24) hx hb dX2_decryptBlock_90 (by decide) ?_
      refine vp_callSi (va_Run.run (va_runS (As := [.int x14_1, .int 24]) (rest := [.int (rol x14_1 8), .int x14_1]) ⟨hx, hb, hml, hown, hts⟩ (metX5_rotateLeft l x14_1 24) (va_cwS 2 hts (lw_S q190 q191 q17 q192) rfl rfl rfl (by decide +kernel) ⟨Nat.le_of_ble_eq_true rfl, Nat.le_of_ble_eq_true rfl⟩) ⟨fun _ _ _ _ h => h, fun _ _ _ => ⟨rfl, trivial⟩⟩ rfl rfl hl.1 rfl (lv_room (Nat.le_of_ble_eq_true rfl)) dX2_decryptBlock_92 ⟨Nat.le_of_ble_eq_true rfl, Nat.le_of_ble_eq_true rfl⟩)) (fun r9 (e9 : r9 = rol x14_1 24) => ?_)
      subst e9
      refine lv_ixor hx hb dX2_decryptBlock_95 ?_
      refine lv_ixor hx hb dX2_decryptBlock_96 ?_
      refine lv_asi (y := spr x14_1) rfl ?_
      refine lv_topi (fun x14_2 ex14_2 => ?_)
      refine lv_istore (lv' := [(14, .int x14_2), (13, .int (nI (r + 1))), (12, .int K.2.2.2), (11, .int K.2.2.1), (10, .int K.2.1), (9, .int K.1), (8, .int a3), (7, .int a2), (6, .int a1), (5, .int a0), (4, .int 0), (3, .ref h3), (2, .int 0), (1, .ref h2), (0, .ref h0)]) hx hb dX2_decryptBlock_97 hl (by decide) rfl (fun ls hl => ?_)
      refine lv_iload hx hb dX2_decryptBlock_99 (lv_at hl 9 rfl) ?_
      refine lv_iload hx hb dX2_decryptBlock_101 (lv_at hl 5 rfl) ?_
      refine lv_ixor hx hb dX2_decryptBlock_103 ?_
      refine lv_topi (fun x5_3 ex5_3 => ?_)
      refine lv_istore (lv' := [(5, .int x5_3), (14, .int x14_2), (13, .int (nI (r + 1))), (12, .int K.2.2.2), (11, .int K.2.2.1), (10, .int K.2.1), (9, .int K.1), (8, .int a3), (7, .int a2), (6, .int a1), (4, .int 0), (3, .ref h3), (2, .int 0), (1, .ref h2), (0, .ref h0)]) hx hb dX2_decryptBlock_104 hl (by decide) rfl (fun ls hl => ?_)
      refine lv_iload hx hb dX2_decryptBlock_106 (lv_at hl 9 rfl) ?_
      refine lv_iload hx hb dX2_decryptBlock_108 (lv_at hl 5 rfl) ?_
      refine lv_ixor hx hb dX2_decryptBlock_110 ?_
      refine lv_topi (fun x6_4 ex6_4 => ?_)
      refine lv_istore (lv' := [(6, .int x6_4), (5, .int x5_3), (14, .int x14_2), (13, .int (nI (r + 1))), (12, .int K.2.2.2), (11, .int K.2.2.1), (10, .int K.2.1), (9, .int K.1), (8, .int a3), (7, .int a2), (4, .int 0), (3, .ref h3), (2, .int 0), (1, .ref h2), (0, .ref h0)]) hx hb dX2_decryptBlock_111 hl (by decide) rfl (fun ls hl => ?_)
      refine lv_iload hx hb dX2_decryptBlock_113 (lv_at hl 9 rfl) ?_
      refine lv_iload hx hb dX2_decryptBlock_115 (lv_at hl 5 rfl) ?_
      refine lv_ixor hx hb dX2_decryptBlock_117 ?_
      refine lv_topi (fun x7_5 ex7_5 => ?_)
      refine lv_istore (lv' := [(7, .int x7_5), (6, .int x6_4), (5, .int x5_3), (14, .int x14_2), (13, .int (nI (r + 1))), (12, .int K.2.2.2), (11, .int K.2.2.1), (10, .int K.2.1), (9, .int K.1), (8, .int a3), (4, .int 0), (3, .ref h3), (2, .int 0), (1, .ref h2), (0, .ref h0)]) hx hb dX2_decryptBlock_118 hl (by decide) rfl (fun ls hl => ?_)
      refine lv_iload hx hb dX2_decryptBlock_120 (lv_at hl 9 rfl) ?_
      refine lv_iload hx hb dX2_decryptBlock_122 (lv_at hl 5 rfl) ?_
      refine lv_ixor hx hb dX2_decryptBlock_124 ?_
      refine lv_topi (fun x8_6 ex8_6 => ?_)
      refine lv_istore (lv' := [(8, .int x8_6), (7, .int x7_5), (6, .int x6_4), (5, .int x5_3), (14, .int x14_2), (13, .int (nI (r + 1))), (12, .int K.2.2.2), (11, .int K.2.2.1), (10, .int K.2.1), (9, .int K.1), (4, .int 0), (3, .ref h3), (2, .int 0), (1, .ref h2), (0, .ref h0)]) hx hb dX2_decryptBlock_125 hl (by decide) rfl (fun ls hl => ?_)
      refine lv_iload hx hb dX2_decryptBlock_127 (lv_at hl 2 rfl) ?_
      refine lv_iload hx hb dX2_decryptBlock_129 (lv_at hl 0 rfl) ?_
      refine lv_ixor hx hb dX2_decryptBlock_131 ?_
      refine lv_topi (fun x15_7 ex15_7 => ?_)
      refine lv_istore (lv' := [(15, .int x15_7), (8, .int x8_6), (7, .int x7_5), (6, .int x6_4), (5, .int x5_3), (14, .int x14_2), (13, .int (nI (r + 1))), (12, .int K.2.2.2), (11, .int K.2.2.1), (10, .int K.2.1), (9, .int K.1), (4, .int 0), (3, .ref h3), (2, .int 0), (1, .ref h2), (0, .ref h0)]) hx hb dX2_decryptBlock_132 hl (by decide) rfl (fun ls hl => ?_)
      refine lv_iload hx hb dX2_decryptBlock_134 (lv_at hl 0 rfl) ?_
      refine lv_iload hx hb dX2_decryptBlock_136 (lv_at hl 0 rfl) ?_
      refine lv_bipush (v := 8) hx hb dX2_decryptBlock_138 (by decide) ?_
      refine vp_callSi (va_Run.run (va_runS (As := [.int x15_7, .int 8]) (rest := [.int x15_7]) ⟨hx, hb, hml, hown, hts⟩ (metX5_rotateLeft l x15_7 8) (va_cwS 2 hts (lw_S q190 q191 q17 q192) rfl rfl rfl (by decide +kernel) ⟨Nat.le_of_ble_eq_true rfl, Nat.le_of_ble_eq_true rfl⟩) ⟨fun _ _ _ _ h => h, fun _ _ _ => ⟨rfl, trivial⟩⟩ rfl rfl hl.1 rfl (lv_room (Nat.le_of_ble_eq_true rfl)) dX2_decryptBlock_140 ⟨Nat.le_of_ble_eq_true rfl, Nat.le_of_ble_eq_true rfl⟩)) (fun r9 (e9 : r9 = rol x15_7 8) => ?_)
      subst e9
      refine lv_iload hx hb dX2_decryptBlock_143 (lv_at hl 0 rfl) ?_
      refine lv_bipush (v := 24) hx hb dX2_decryptBlock_145 (by decide) ?_
      refine vp_callSi (va_Run.run (va_runS (As := [.int x15_7, .int 24]) (rest := [.int (rol x15_7 8), .int x15_7]) ⟨hx, hb, hml, hown, hts⟩ (metX5_rotateLeft l x15_7 24) (va_cwS 2 hts (lw_S q190 q191 q17 q192) rfl rfl rfl (by decide +kernel) ⟨Nat.le_of_ble_eq_true rfl, Nat.le_of_ble_eq_true rfl⟩) ⟨fun _ _ _ _ h => h, fun _ _ _ => ⟨rfl, trivial⟩⟩ rfl rfl hl.1 rfl (lv_room (Nat.le_of_ble_eq_true rfl)) dX2_decryptBlock_147 ⟨Nat.le_of_ble_eq_true rfl, Nat.le_of_ble_eq_true rfl⟩)) (fun r9 (e9 : r9 = rol x15_7 24) => ?_)
      subst e9
      refine lv_ixor hx hb dX2_decryptBlock_150 ?_
      refine lv_ixor hx hb dX2_decryptBlock_151 ?_
      refine lv_asi (y := spr x15_7) rfl ?_
      refine lv_topi (fun x15_8 ex15_8 => ?_)
      refine lv_istore (lv' := [(15, .int x15_8), (8, .int x8_6), (7, .int x7_5), (6, .int x6_4), (5, .int x5_3), (14, .int x14_2), (13, .int (nI (r + 1))), (12, .int K.2.2.2), (11, .int K.2.2.1), (10, .int K.2.1), (9, .int K.1), (4, .int 0), (3, .ref h3), (2, .int 0), (1, .ref h2), (0, .ref h0)]) hx hb dX2_decryptBlock_152 hl (by decide) rfl (fun ls hl => ?_)
      refine lv_iload hx hb dX2_decryptBlock_154 (lv_at hl 4 rfl) ?_
      refine lv_iload hx hb dX2_decryptBlock_156 (lv_at hl 0 rfl) ?_
      refine lv_ixor hx hb dX2_decryptBlock_158 ?_
      refine lv_topi (fun x5_9 ex5_9 => ?_)
      refine lv_istore (lv' := [(5, .int x5_9), (15, .int x15_8), (8, .int x8_6), (7, .int x7_5), (6, .int x6_4), (14, .int x14_2), (13, .int (nI (r + 1))), (12, .int K.2.2.2), (11, .int K.2.2.1), (10, .int K.2.1), (9, .int K.1), (4, .int 0), (3, .ref h3), (2, .int 0), (1, .ref h2), (0, .ref h0)]) hx hb dX2_decryptBlock_159 hl (by decide) rfl (fun ls hl => ?_)
      refine lv_iload hx hb dX2_decryptBlock_161 (lv_at hl 4 rfl) ?_
      refine lv_iload hx hb dX2_decryptBlock_163 (lv_at hl 5 rfl) ?_
      refine lv_ixor hx hb dX2_decryptBlock_165 ?_
      refine lv_topi (fun x6_10 ex6_10 => ?_)
      refine lv_istore (lv' := [(6, .int x6_10), (5, .int x5_9), (15, .int x15_8), (8, .int x8_6), (7, .int x7_5), (14, .int x14_2), (13, .int (nI (r + 1))), (12, .int K.2.2.2), (11, .int K.2.2.1), (10, .int K.2.1), (9, .int K.1), (4, .int 0), (3, .ref h3), (2, .int 0), (1, .ref h2), (0, .ref h0)]) hx hb dX2_decryptBlock_166 hl (by decide) rfl (fun ls hl => ?_)
      refine lv_iload hx hb dX2_decryptBlock_168 (lv_at hl 4 rfl) ?_
      refine lv_iload hx hb dX2_decryptBlock_170 (lv_at hl 2 rfl) ?_
      refine lv_ixor hx hb dX2_decryptBlock_172 ?_
      refine lv_topi (fun x7_11 ex7_11 => ?_)
      refine lv_istore (lv' := [(7, .int x7_11), (6, .int x6_10), (5, .int x5_9), (15, .int x15_8), (8, .int x8_6), (14, .int x14_2), (13, .int (nI (r + 1))), (12, .int K.2.2.2), (11, .int K.2.2.1), (10, .int K.2.1), (9, .int K.1), (4, .int 0), (3, .ref h3), (2, .int 0), (1, .ref h2), (0, .ref h0)]) hx hb dX2_decryptBlock_173 hl (by decide) rfl (fun ls hl => ?_)
      refine lv_iload hx hb dX2_decryptBlock_175 (lv_at hl 4 rfl) ?_
      refine lv_iload hx hb dX2_decryptBlock_177 (lv_at hl 5 rfl) ?_
      refine lv_ixor hx hb dX2_decryptBlock_179 ?_
      refine lv_topi (fun x8_12 ex8_12 => ?_)
      refine lv_istore (lv' := [(8, .int x8_12), (7, .int x7_11), (6, .int x6_10), (5, .int x5_9), (15, .int x15_8), (14, .int x14_2), (13, .int (nI (r + 1))), (12, .int K.2.2.2), (11, .int K.2.2.1), (10, .int K.2.1), (9, .int K.1), (4, .int 0), (3, .ref h3), (2, .int 0), (1, .ref h2), (0, .ref h0)]) hx hb dX2_decryptBlock_180 hl (by decide) rfl (fun ls hl => ?_)
      refine lv_iload hx hb dX2_decryptBlock_182 (lv_at hl 3 rfl) ?_
      refine va_gets hx hb hZ hS hown (hts _ q262) (fun _ h9 => h9) dX2_decryptBlock_184 ?_
      refine lv_iload hx hb dX2_decryptBlock_187 (lv_at hl 6 rfl) ?_
      refine va_tb (v := .int (rcB (r + 1))) hx hb hT hS (vp_in_nI (show r + 1 < 17 by omega) (by omega)) (by rw [nI_clamp (show r + 1 < 2 ^ 31 by omega)]) dX2_decryptBlock_189 ?_
      refine lv_sipush (v := 255) hx hb dX2_decryptBlock_190 (by decide) ?_
      refine lv_iand hx hb dX2_decryptBlock_193 ?_
      refine lv_ixor hx hb dX2_decryptBlock_194 ?_
      refine lv_asi (y := x5_9 ^^^ rcE (r + 1)) rfl ?_
      refine lv_topi (fun x5_13 ex5_13 => ?_)
      refine lv_istore (lv' := [(5, .int x5_13), (8, .int x8_12), (7, .int x7_11), (6, .int x6_10), (15, .int x15_8), (14, .int x14_2), (13, .int (nI (r + 1))), (12, .int K.2.2.2), (11, .int K.2.2.1), (10, .int K.2.1), (9, .int K.1), (4, .int 0), (3, .ref h3), (2, .int 0), (1, .ref h2), (0, .ref h0)]) hx hb dX2_decryptBlock_195 hl (by decide) rfl (fun ls hl => ?_)
      refine lv_iinc (v := nI r) (lv' := [(13, .int (nI r)), (5, .int x5_13), (8, .int x8_12), (7, .int x7_11), (6, .int x6_10), (15, .int x15_8), (14, .int x14_2), (12, .int K.2.2.2), (11, .int K.2.2.1), (10, .int K.2.1), (9, .int K.1), (4, .int 0), (3, .ref h3), (2, .int 0), (1, .ref h2), (0, .ref h0)]) hx hb dX2_decryptBlock_197 hl (k := 6) rfl (by rw [show Int32.ofInt (-1) = (-1 : Int32) from by decide]; exact pk_m1 r) (by decide) rfl (fun ls hl => ?_)
      refine lv_iload hx hb dX2_decryptBlock_200 (lv_at hl 0 rfl) ?_
      refine lv_if_ge (tgt := 208) hx hb dX2_decryptBlock_202 (by decide) (fun _ => ?_) (fun c9 => absurd (nI_pos' (show r < 2 ^ 31 by omega)) c9)
      refine lv_iload hx hb dX2_decryptBlock_208 (lv_at hl 4 rfl) ?_
      refine lv_iconst (v := 1) hx hb dX2_decryptBlock_210 (by decide) ?_
      refine vp_callSi (va_Run.run (va_runS (As := [.int x6_10, .int 1]) (rest := []) ⟨hx, hb, hml, hown, hts⟩ (metX5_rotateLeft l x6_10 1) (va_cwS 2 hts (lw_S q190 q191 q17 q192) rfl rfl rfl (by decide +kernel) ⟨Nat.le_of_ble_eq_true rfl, Nat.le_of_ble_eq_true rfl⟩) ⟨fun _ _ _ _ h => h, fun _ _ _ => ⟨rfl, trivial⟩⟩ rfl rfl hl.1 rfl (lv_room (Nat.le_of_ble_eq_true rfl)) dX2_decryptBlock_211 ⟨Nat.le_of_ble_eq_true rfl, Nat.le_of_ble_eq_true rfl⟩)) (fun r9 (e9 : r9 = rol x6_10 1) => ?_)
      subst e9
      refine lv_topi (fun x6_14 ex6_14 => ?_)
      refine lv_istore (lv' := [(6, .int x6_14), (13, .int (nI r)), (5, .int x5_13), (8, .int x8_12), (7, .int x7_11), (15, .int x15_8), (14, .int x14_2), (12, .int K.2.2.2), (11, .int K.2.2.1), (10, .int K.2.1), (9, .int K.1), (4, .int 0), (3, .ref h3), (2, .int 0), (1, .ref h2), (0, .ref h0)]) hx hb dX2_decryptBlock_214 hl (by decide) rfl (fun ls hl => ?_)
      refine lv_iload hx hb dX2_decryptBlock_216 (lv_at hl 4 rfl) ?_
      refine lv_iconst (v := 5) hx hb dX2_decryptBlock_218 (by decide) ?_
      refine vp_callSi (va_Run.run (va_runS (As := [.int x7_11, .int 5]) (rest := []) ⟨hx, hb, hml, hown, hts⟩ (metX5_rotateLeft l x7_11 5) (va_cwS 2 hts (lw_S q190 q191 q17 q192) rfl rfl rfl (by decide +kernel) ⟨Nat.le_of_ble_eq_true rfl, Nat.le_of_ble_eq_true rfl⟩) ⟨fun _ _ _ _ h => h, fun _ _ _ => ⟨rfl, trivial⟩⟩ rfl rfl hl.1 rfl (lv_room (Nat.le_of_ble_eq_true rfl)) dX2_decryptBlock_219 ⟨Nat.le_of_ble_eq_true rfl, Nat.le_of_ble_eq_true rfl⟩)) (fun r9 (e9 : r9 = rol x7_11 5) => ?_)
      subst e9
      refine lv_topi (fun x7_15 ex7_15 => ?_)
      refine lv_istore (lv' := [(7, .int x7_15), (6, .int x6_14), (13, .int (nI r)), (5, .int x5_13), (8, .int x8_12), (15, .int x15_8), (14, .int x14_2), (12, .int K.2.2.2), (11, .int K.2.2.1), (10, .int K.2.1), (9, .int K.1), (4, .int 0), (3, .ref h3), (2, .int 0), (1, .ref h2), (0, .ref h0)]) hx hb dX2_decryptBlock_222 hl (by decide) rfl (fun ls hl => ?_)
      refine lv_iload hx hb dX2_decryptBlock_224 (lv_at hl 4 rfl) ?_
      refine lv_iconst (v := 2) hx hb dX2_decryptBlock_226 (by decide) ?_
      refine vp_callSi (va_Run.run (va_runS (As := [.int x8_12, .int 2]) (rest := []) ⟨hx, hb, hml, hown, hts⟩ (metX5_rotateLeft l x8_12 2) (va_cwS 2 hts (lw_S q190 q191 q17 q192) rfl rfl rfl (by decide +kernel) ⟨Nat.le_of_ble_eq_true rfl, Nat.le_of_ble_eq_true rfl⟩) ⟨fun _ _ _ _ h => h, fun _ _ _ => ⟨rfl, trivial⟩⟩ rfl rfl hl.1 rfl (lv_room (Nat.le_of_ble_eq_true rfl)) dX2_decryptBlock_227 ⟨Nat.le_of_ble_eq_true rfl, Nat.le_of_ble_eq_true rfl⟩)) (fun r9 (e9 : r9 = rol x8_12 2) => ?_)
      subst e9
      refine lv_topi (fun x8_16 ex8_16 => ?_)
      refine lv_istore (lv' := [(8, .int x8_16), (7, .int x7_15), (6, .int x6_14), (13, .int (nI r)), (5, .int x5_13), (15, .int x15_8), (14, .int x14_2), (12, .int K.2.2.2), (11, .int K.2.2.1), (10, .int K.2.1), (9, .int K.1), (4, .int 0), (3, .ref h3), (2, .int 0), (1, .ref h2), (0, .ref h0)]) hx hb dX2_decryptBlock_230 hl (by decide) rfl (fun ls hl => ?_)
      refine lv_iload hx hb dX2_decryptBlock_232 (lv_at hl 0 rfl) ?_
      refine lv_istore (lv' := [(14, .int x8_16), (8, .int x8_16), (7, .int x7_15), (6, .int x6_14), (13, .int (nI r)), (5, .int x5_13), (15, .int x15_8), (12, .int K.2.2.2), (11, .int K.2.2.1), (10, .int K.2.1), (9, .int K.1), (4, .int 0), (3, .ref h3), (2, .int 0), (1, .ref h2), (0, .ref h0)]) hx hb dX2_decryptBlock_234 hl (by decide) rfl (fun ls hl => ?_)
      refine lv_iload hx hb dX2_decryptBlock_236 (lv_at hl 3 rfl) ?_
      refine lv_iload hx hb dX2_decryptBlock_238 (lv_at hl 1 rfl) ?_
      refine lv_iload hx hb dX2_decryptBlock_240 (lv_at hl 2 rfl) ?_
      refine lv_ior hx hb dX2_decryptBlock_242 ?_
      refine lv_ixor hx hb dX2_decryptBlock_243 ?_
      refine lv_topi (fun x6_17 ex6_17 => ?_)
      refine lv_istore (lv' := [(6, .int x6_17), (14, .int x8_16), (8, .int x8_16), (7, .int x7_15), (13, .int (nI r)), (5, .int x5_13), (15, .int x15_8), (12, .int K.2.2.2), (11, .int K.2.2.1), (10, .int K.2.1), (9, .int K.1), (4, .int 0), (3, .ref h3), (2, .int 0), (1, .ref h2), (0, .ref h0)]) hx hb dX2_decryptBlock_244 hl (by decide) rfl (fun ls hl => ?_)
      refine lv_iload hx hb dX2_decryptBlock_246 (lv_at hl 5 rfl) ?_
      refine lv_iload hx hb dX2_decryptBlock_248 (lv_at hl 3 rfl) ?_
      refine lv_iload hx hb dX2_decryptBlock_250 (lv_at hl 0 rfl) ?_
      refine lv_iconst (v := -1) hx hb dX2_decryptBlock_252 (by decide) ?_
      refine lv_ixor hx hb dX2_decryptBlock_253 ?_
      refine lv_iand hx hb dX2_decryptBlock_254 ?_
      refine lv_ixor hx hb dX2_decryptBlock_255 ?_
      refine lv_topi (fun x8_18 ex8_18 => ?_)
      refine lv_istore (lv' := [(8, .int x8_18), (6, .int x6_17), (14, .int x8_16), (7, .int x7_15), (13, .int (nI r)), (5, .int x5_13), (15, .int x15_8), (12, .int K.2.2.2), (11, .int K.2.2.1), (10, .int K.2.1), (9, .int K.1), (4, .int 0), (3, .ref h3), (2, .int 0), (1, .ref h2), (0, .ref h0)]) hx hb dX2_decryptBlock_256 hl (by decide) rfl (fun ls hl => ?_)
      refine lv_iload hx hb dX2_decryptBlock_258 (lv_at hl 2 rfl) ?_
      refine lv_iload hx hb dX2_decryptBlock_260 (lv_at hl 1 rfl) ?_
      refine lv_iconst (v := -1) hx hb dX2_decryptBlock_262 (by decide) ?_
      refine lv_ixor hx hb dX2_decryptBlock_263 ?_
      refine lv_ixor hx hb dX2_decryptBlock_264 ?_
      refine lv_iload hx hb dX2_decryptBlock_265 (lv_at hl 3 rfl) ?_
      refine lv_ixor hx hb dX2_decryptBlock_267 ?_
      refine lv_iload hx hb dX2_decryptBlock_268 (lv_at hl 0 rfl) ?_
      refine lv_ixor hx hb dX2_decryptBlock_270 ?_
      refine lv_topi (fun x7_19 ex7_19 => ?_)
      refine lv_istore (lv' := [(7, .int x7_19), (8, .int x8_18), (6, .int x6_17), (14, .int x8_16), (13, .int (nI r)), (5, .int x5_13), (15, .int x15_8), (12, .int K.2.2.2), (11, .int K.2.2.1), (10, .int K.2.1), (9, .int K.1), (4, .int 0), (3, .ref h3), (2, .int 0), (1, .ref h2), (0, .ref h0)]) hx hb dX2_decryptBlock_271 hl (by decide) rfl (fun ls hl => ?_)
      refine lv_iload hx hb dX2_decryptBlock_273 (lv_at hl 2 rfl) ?_
      refine lv_iload hx hb dX2_decryptBlock_275 (lv_at hl 1 rfl) ?_
      refine lv_iload hx hb dX2_decryptBlock_277 (lv_at hl 0 rfl) ?_
      refine lv_ior hx hb dX2_decryptBlock_279 ?_
      refine lv_ixor hx hb dX2_decryptBlock_280 ?_
      refine lv_topi (fun x6_20 ex6_20 => ?_)
      refine lv_istore (lv' := [(6, .int x6_20), (7, .int x7_19), (8, .int x8_18), (14, .int x8_16), (13, .int (nI r)), (5, .int x5_13), (15, .int x15_8), (12, .int K.2.2.2), (11, .int K.2.2.1), (10, .int K.2.1), (9, .int K.1), (4, .int 0), (3, .ref h3), (2, .int 0), (1, .ref h2), (0, .ref h0)]) hx hb dX2_decryptBlock_281 hl (by decide) rfl (fun ls hl => ?_)
      refine lv_iload hx hb dX2_decryptBlock_283 (lv_at hl 3 rfl) ?_
      refine lv_iload hx hb dX2_decryptBlock_285 (lv_at hl 1 rfl) ?_
      refine lv_iload hx hb dX2_decryptBlock_287 (lv_at hl 0 rfl) ?_
      refine lv_iand hx hb dX2_decryptBlock_289 ?_
      refine lv_ixor hx hb dX2_decryptBlock_290 ?_
      refine lv_topi (fun x5_21 ex5_21 => ?_)
      refine lv_istore (lv' := [(5, .int x5_21), (6, .int x6_20), (7, .int x7_19), (8, .int x8_18), (14, .int x8_16), (13, .int (nI r)), (15, .int x15_8), (12, .int K.2.2.2), (11, .int K.2.2.1), (10, .int K.2.1), (9, .int K.1), (4, .int 0), (3, .ref h3), (2, .int 0), (1, .ref h2), (0, .ref h0)]) hx hb dX2_decryptBlock_291 hl (by decide) rfl (fun ls hl => ?_)
      refine lv_iload hx hb dX2_decryptBlock_293 (lv_at hl 1 rfl) ?_
      refine lv_bipush (v := 31) hx hb dX2_decryptBlock_295 (by decide) ?_
      refine vp_callSi (va_Run.run (va_runS (As := [.int x6_20, .int 31]) (rest := []) ⟨hx, hb, hml, hown, hts⟩ (metX5_rotateLeft l x6_20 31) (va_cwS 2 hts (lw_S q190 q191 q17 q192) rfl rfl rfl (by decide +kernel) ⟨Nat.le_of_ble_eq_true rfl, Nat.le_of_ble_eq_true rfl⟩) ⟨fun _ _ _ _ h => h, fun _ _ _ => ⟨rfl, trivial⟩⟩ rfl rfl hl.1 rfl (lv_room (Nat.le_of_ble_eq_true rfl)) dX2_decryptBlock_297 ⟨Nat.le_of_ble_eq_true rfl, Nat.le_of_ble_eq_true rfl⟩)) (fun r9 (e9 : r9 = rol x6_20 31) => ?_)
      subst e9
      refine lv_topi (fun x6_22 ex6_22 => ?_)
      refine lv_istore (lv' := [(6, .int x6_22), (5, .int x5_21), (7, .int x7_19), (8, .int x8_18), (14, .int x8_16), (13, .int (nI r)), (15, .int x15_8), (12, .int K.2.2.2), (11, .int K.2.2.1), (10, .int K.2.1), (9, .int K.1), (4, .int 0), (3, .ref h3), (2, .int 0), (1, .ref h2), (0, .ref h0)]) hx hb dX2_decryptBlock_300 hl (by decide) rfl (fun ls hl => ?_)
      refine lv_iload hx hb dX2_decryptBlock_302 (lv_at hl 2 rfl) ?_
      refine lv_bipush (v := 27) hx hb dX2_decryptBlock_304 (by decide) ?_
      refine vp_callSi (va_Run.run (va_runS (As := [.int x7_19, .int 27]) (rest := []) ⟨hx, hb, hml, hown, hts⟩ (metX5_rotateLeft l x7_19 27) (va_cwS 2 hts (lw_S q190 q191 q17 q192) rfl rfl rfl (by decide +kernel) ⟨Nat.le_of_ble_eq_true rfl, Nat.le_of_ble_eq_true rfl⟩) ⟨fun _ _ _ _ h => h, fun _ _ _ => ⟨rfl, trivial⟩⟩ rfl rfl hl.1 rfl (lv_room (Nat.le_of_ble_eq_true rfl)) dX2_decryptBlock_306 ⟨Nat.le_of_ble_eq_true rfl, Nat.le_of_ble_eq_true rfl⟩)) (fun r9 (e9 : r9 = rol x7_19 27) => ?_)
      subst e9
      refine lv_topi (fun x7_23 ex7_23 => ?_)
      refine lv_istore (lv' := [(7, .int x7_23), (6, .int x6_22), (5, .int x5_21), (8, .int x8_18), (14, .int x8_16), (13, .int (nI r)), (15, .int x15_8), (12, .int K.2.2.2), (11, .int K.2.2.1), (10, .int K.2.1), (9, .int K.1), (4, .int 0), (3, .ref h3), (2, .int 0), (1, .ref h2), (0, .ref h0)]) hx hb dX2_decryptBlock_309 hl (by decide) rfl (fun ls hl => ?_)
      refine lv_iload hx hb dX2_decryptBlock_311 (lv_at hl 3 rfl) ?_
      refine lv_bipush (v := 30) hx hb dX2_decryptBlock_313 (by decide) ?_
      refine vp_callSi (va_Run.run (va_runS (As := [.int x8_18, .int 30]) (rest := []) ⟨hx, hb, hml, hown, hts⟩ (metX5_rotateLeft l x8_18 30) (va_cwS 2 hts (lw_S q190 q191 q17 q192) rfl rfl rfl (by decide +kernel) ⟨Nat.le_of_ble_eq_true rfl, Nat.le_of_ble_eq_true rfl⟩) ⟨fun _ _ _ _ h => h, fun _ _ _ => ⟨rfl, trivial⟩⟩ rfl rfl hl.1 rfl (lv_room (Nat.le_of_ble_eq_true rfl)) dX2_decryptBlock_315 ⟨Nat.le_of_ble_eq_true rfl, Nat.le_of_ble_eq_true rfl⟩)) (fun r9 (e9 : r9 = rol x8_18 30) => ?_)
      subst e9
      refine lv_topi (fun x8_24 ex8_24 => ?_)
      refine lv_istore (lv' := [(8, .int x8_24), (7, .int x7_23), (6, .int x6_22), (5, .int x5_21), (14, .int x8_16), (13, .int (nI r)), (15, .int x15_8), (12, .int K.2.2.2), (11, .int K.2.2.1), (10, .int K.2.1), (9, .int K.1), (4, .int 0), (3, .ref h3), (2, .int 0), (1, .ref h2), (0, .ref h0)]) hx hb dX2_decryptBlock_318 hl (by decide) rfl (fun ls hl => ?_)
      refine lv_goto (tgt := 72) hx hb dX2_decryptBlock_320 (by decide) ?_
      have hq : (x5_21, x6_22, x7_23, x8_24) = deI K (beQ fi) (i + 1) := by
        show _ = miE (adc (thE K (deI K (beQ fi) i)) (rcE (16 - i)))
        rw [← he, hri]
        subst ex8_24 ex7_23 ex6_22 ex5_21 ex6_20 ex7_19 ex8_18 ex6_17 ex8_16 ex7_15 ex6_14 ex5_13 ex8_12 ex7_11 ex6_10 ex5_9 ex15_8 ex15_7 ex8_6 ex7_5 ex6_4 ex5_3 ex14_2 ex14_1
        rfl
      exact ih (i + 1) (by omega) x5_21 x6_22 x7_23 x8_24 hq ls (lv_sub hl [5, 7, 8, 9, 10, 0, 1, 2, 3, 11, 12, 13, 14, 15] rfl)
  exact loop 16 0 (by omega) _ _ _ _ rfl ls (lv_sub hl [0, 1, 2, 3, 4, 5, 6, 7, 8, 13, 12, 11, 10, 9] rfl)
end
section
set_option maxHeartbeats 4000000 in
set_option maxRecDepth 100000 in
theorem metX2_processBlock_1 (l : Launch) (D : va_G) (cB cI : ClassId) (sz : Nat) (h0 h1 h2 h3 : Nat) (K : Q4) (fi fo : Nat → Int32) : Met l yX2_processBlock (ws_ yX2_processBlock cX2_processBlock 5 (some .int)) ({ frames := 3, cells := 0, slots := 0, locals := 180 } : Room) (PreE D cB cI [.ref h0, .ref h2, .int 0, .ref h3, .int 0] sz [(h0, .inr (2, [.ref h1, .int 1, .int 1])), (h1, .inl (cI, 4, .inl (qf K))), (h2, .inl (cB, 16, .inl fi)), (h3, .inl (cB, 16, .inl fo))]) (PostI D (va_A [(h0, .inr (2, [.ref h1, .int 1, .int 1])), (h1, .inl (cI, 4, .inl (qf K))), (h2, .inl (cB, 16, .inl fi)), (h3, .inl (cB, 16, .inl fo))] sz) 16 (fun _ : Unit => [(h0, .inr (2, [.ref h1, .int 1, .int 1])), (h1, .inl (cI, 4, .inl (qf K))), (h2, .inl (cB, 16, .inl fi)), (h3, .inl (cB, 16, .inl (itQ fo (enF K (beQ fi)))))])) 0 0 (va_A [(h0, .inr (2, [.ref h1, .int 1, .int 1])), (h1, .inl (cI, 4, .inl (qf K))), (h2, .inl (cB, 16, .inl fi)), (h3, .inl (cB, 16, .inl fo))] sz) := by
  refine Met.ofW (cc := cX2_processBlock) (maxL := 5) (ret := (some .int)) (by decide) rfl ?_
  intro p e s m args below meth c s₁ B hml hv
  obtain ⟨rfl, hsz, hP, hD0, hE⟩ := hv
  have hx := B.exec
  have hb := B.bytes
  have hr := B.returns
  have hts := atoms_spec (ws := ws_ yX2_processBlock cX2_processBlock 5 (some .int)) B.pre
  have hts : ∀ w ∈ lw_all, w.before _ s = true := fun w h => hts w (List.mem_cons_of_mem _ h)
  have hown : s.vm.findClass RX2 = some m.cls := findClass_of_methodNamed B.named
  have hlocks := B.notSynchronized
  subst hsz
  have hD := hD0.self (sz := s.heap.size)
  generalize hAe : va_A [(h0, .inr (2, [.ref h1, .int 1, .int 1])), (h1, .inl (cI, 4, .inl (qf K))), (h2, .inl (cB, 16, .inl fi)), (h3, .inl (cB, 16, .inl fo))] s.heap.size = A at hD hE ⊢
  have hA : ∀ q : Nat, s.heap.size ≤ q → A q := fun q h => by rw [← hAe]; exact Or.inr h
  have hS : va_S A s.heap s.heap [] := va_S.rf
  have hK := hE.1
  have hP : va_P D vwCl [(h0, .inr (2, [.ref h1, .int 1, .int 1])), (h1, .inl (cI, 4, .inl (qf K))), (h2, .inl (cB, 16, .inl fi)), (h3, .inl (cB, 16, .inl fo))] s.heap := hP
  have hl := lv_entry ([.ref h0, .ref h2, .int 0, .ref h3, .int 0]) (n := 5) (Nat.le_of_ble_eq_true rfl)
  rw [lg_entry_eq]
  generalize (lg_sl ([.ref h0, .ref h2, .int 0, .ref h3, .int 0]) ++ List.replicate (5 - (lg_sl ([.ref h0, .ref h2, .int 0, .ref h3, .int 0])).length) Slot.unset).toArray = ls at hl ⊢
  have hl : lv_has ls 5 [(0, .ref h0), (1, .ref h2), (2, .int 0), (3, .ref h3), (4, .int 0)] := hl
  refine lv_aload_n hx hb dX2_processBlock_0 rfl (lv_at hl 0 rfl) ?_
  refine va_get (D := D) (ci := 2) (v := .int 1) (C := RX2) (T := TX2) (N := 3) hx hb hts in_X2 hown hK hP 0 rfl rfl 1 (by decide) (hts _ q71) (fun _ h9 => h9) rfl dX2_processBlock_1 ?_
  refine lv_if_ne (tgt := 17) hx hb dX2_processBlock_4 (by decide) (fun _ => ?_) (fun c9 => False.elim (by revert c9; decide))
  refine lv_iload_n hx hb dX2_processBlock_17 rfl (lv_at hl 2 rfl) ?_
  refine lv_aload_n hx hb dX2_processBlock_18 rfl (lv_at hl 1 rfl) ?_
  refine va_alen (v := 16) hx hb hK hP 2 0 rfl rfl rfl dX2_processBlock_19 ?_
  refine lv_bipush (v := 16) hx hb dX2_processBlock_20 (by decide) ?_
  refine lv_isub hx hb dX2_processBlock_22 ?_
  refine lv_asi (y := 0) (by decide) ?_
  refine lv_icmp_le (tgt := 36) hx hb dX2_processBlock_23 (by decide) (fun _ => ?_) (fun c9 => False.elim (by revert c9; decide))
  refine lv_iload hx hb dX2_processBlock_36 (lv_at hl 4 rfl) ?_
  refine lv_aload_n hx hb dX2_processBlock_38 rfl (lv_at hl 3 rfl) ?_
  refine va_alen (v := 16) hx hb hK hP 3 0 rfl rfl rfl dX2_processBlock_39 ?_
  refine lv_bipush (v := 16) hx hb dX2_processBlock_40 (by decide) ?_
  refine lv_isub hx hb dX2_processBlock_42 ?_
  refine lv_asi (y := 0) (by decide) ?_
  refine lv_icmp_le (tgt := 56) hx hb dX2_processBlock_43 (by decide) (fun _ => ?_) (fun c9 => False.elim (by revert c9; decide))
  refine lv_aload_n hx hb dX2_processBlock_56 rfl (lv_at hl 0 rfl) ?_
  refine va_get (D := D) (ci := 2) (v := .int 1) (C := RX2) (T := TX2) (N := 3) hx hb hts in_X2 hown hK hP 0 rfl rfl 2 (by decide) (hts _ q72) (fun _ h9 => h9) rfl dX2_processBlock_57 ?_
  refine lv_if_eq (tgt := 75) hx hb dX2_processBlock_60 (by decide) (fun c9 => False.elim (by revert c9; decide)) (fun _ => ?_)
  refine lv_aload_n hx hb dX2_processBlock_63 rfl (lv_at hl 0 rfl) ?_
  refine lv_aload_n hx hb dX2_processBlock_64 rfl (lv_at hl 1 rfl) ?_
  refine lv_iload_n hx hb dX2_processBlock_65 rfl (lv_at hl 2 rfl) ?_
  refine lv_aload_n hx hb dX2_processBlock_66 rfl (lv_at hl 3 rfl) ?_
  refine lv_iload hx hb dX2_processBlock_67 (lv_at hl 4 rfl) ?_
  refine k_i (D := D) (wc := [(h0, .inr (2, [.ref h1, .int 1, .int 1])), (h1, .inl (cI, 4, .inl (qf K))), (h2, .inl (cB, 16, .inl fi)), (h3, .inl (cB, 16, .inl fo))]) (wr := []) (va_runV (As := [.ref h2, .int 0, .ref h3, .int 0]) (rest := []) ⟨hx, hb, hml, hown, hts⟩ (metX2_encryptBlock l D cB cI s.heap.size h0 h1 h2 h3 K fi fo) (cwV 4 hts (lw_V q257 q259 qs2 q9 q260) rfl rfl rfl (by decide +kernel) ⟨Nat.le_of_ble_eq_true rfl, Nat.le_of_ble_eq_true rfl⟩) ⟨PreE.blind, va_recv hK hP (ci := 2) (q0 := 0) rfl rfl, preE hE hP hD hS hA [0, 1, 2, 3] rfl rfl⟩ rfl rfl hl.1 rfl (lv_room (Nat.le_of_ble_eq_true rfl)) dX2_processBlock_69 ⟨Nat.le_of_ble_eq_true rfl, Nat.le_of_ble_eq_true rfl⟩) hP hD hS hA [0, 1, 2, 3] [] rfl rfl rfl (by decide) [0, 1, 2, 3] rfl (fun _ : Unit => [(h0, .inr (2, [.ref h1, .int 1, .int 1])), (h1, .inl (cI, 4, .inl (qf K))), (h2, .inl (cB, 16, .inl fi)), (h3, .inl (cB, 16, .inl (itQ fo (enF K (beQ fi)))))]) (fun _ => rfl) (fun _ H locs hP hD hS => ?_)
  refine lv_goto (tgt := 84) hx hb dX2_processBlock_72 (by decide) ?_
  exact W.iret (v := 16) hx hb hr (fun t ht hW => ⟨⟨16, (), rfl, rfl, by rw [ht]; exact hP, hD⟩, hS.F ht⟩) hS.2.2 dX2_processBlock_84
set_option maxHeartbeats 4000000 in
set_option maxRecDepth 100000 in
theorem metX2_processBlock_0 (l : Launch) (D : va_G) (cB cI : ClassId) (sz : Nat) (h0 h1 h2 h3 : Nat) (K : Q4) (fi fo : Nat → Int32) : Met l yX2_processBlock (ws_ yX2_processBlock cX2_processBlock 5 (some .int)) ({ frames := 3, cells := 0, slots := 0, locals := 180 } : Room) (PreE D cB cI [.ref h0, .ref h2, .int 0, .ref h3, .int 0] sz [(h0, .inr (2, [.ref h1, .int 1, .int 0])), (h1, .inl (cI, 4, .inl (qf K))), (h2, .inl (cB, 16, .inl fi)), (h3, .inl (cB, 16, .inl fo))]) (PostI D (va_A [(h0, .inr (2, [.ref h1, .int 1, .int 0])), (h1, .inl (cI, 4, .inl (qf K))), (h2, .inl (cB, 16, .inl fi)), (h3, .inl (cB, 16, .inl fo))] sz) 16 (fun _ : Unit => [(h0, .inr (2, [.ref h1, .int 1, .int 0])), (h1, .inl (cI, 4, .inl (qf K))), (h2, .inl (cB, 16, .inl fi)), (h3, .inl (cB, 16, .inl (itQ fo (deF K (beQ fi)))))])) 0 0 (va_A [(h0, .inr (2, [.ref h1, .int 1, .int 0])), (h1, .inl (cI, 4, .inl (qf K))), (h2, .inl (cB, 16, .inl fi)), (h3, .inl (cB, 16, .inl fo))] sz) := by
  refine Met.ofW (cc := cX2_processBlock) (maxL := 5) (ret := (some .int)) (by decide) rfl ?_
  intro p e s m args below meth c s₁ B hml hv
  obtain ⟨rfl, hsz, hP, hD0, hE⟩ := hv
  have hx := B.exec
  have hb := B.bytes
  have hr := B.returns
  have hts := atoms_spec (ws := ws_ yX2_processBlock cX2_processBlock 5 (some .int)) B.pre
  have hts : ∀ w ∈ lw_all, w.before _ s = true := fun w h => hts w (List.mem_cons_of_mem _ h)
  have hown : s.vm.findClass RX2 = some m.cls := findClass_of_methodNamed B.named
  have hlocks := B.notSynchronized
  subst hsz
  have hD := hD0.self (sz := s.heap.size)
  generalize hAe : va_A [(h0, .inr (2, [.ref h1, .int 1, .int 0])), (h1, .inl (cI, 4, .inl (qf K))), (h2, .inl (cB, 16, .inl fi)), (h3, .inl (cB, 16, .inl fo))] s.heap.size = A at hD hE ⊢
  have hA : ∀ q : Nat, s.heap.size ≤ q → A q := fun q h => by rw [← hAe]; exact Or.inr h
  have hS : va_S A s.heap s.heap [] := va_S.rf
  have hK := hE.1
  have hP : va_P D vwCl [(h0, .inr (2, [.ref h1, .int 1, .int 0])), (h1, .inl (cI, 4, .inl (qf K))), (h2, .inl (cB, 16, .inl fi)), (h3, .inl (cB, 16, .inl fo))] s.heap := hP
  have hl := lv_entry ([.ref h0, .ref h2, .int 0, .ref h3, .int 0]) (n := 5) (Nat.le_of_ble_eq_true rfl)
  rw [lg_entry_eq]
  generalize (lg_sl ([.ref h0, .ref h2, .int 0, .ref h3, .int 0]) ++ List.replicate (5 - (lg_sl ([.ref h0, .ref h2, .int 0, .ref h3, .int 0])).length) Slot.unset).toArray = ls at hl ⊢
  have hl : lv_has ls 5 [(0, .ref h0), (1, .ref h2), (2, .int 0), (3, .ref h3), (4, .int 0)] := hl
  refine lv_aload_n hx hb dX2_processBlock_0 rfl (lv_at hl 0 rfl) ?_
  refine va_get (D := D) (ci := 2) (v := .int 1) (C := RX2) (T := TX2) (N := 3) hx hb hts in_X2 hown hK hP 0 rfl rfl 1 (by decide) (hts _ q71) (fun _ h9 => h9) rfl dX2_processBlock_1 ?_
  refine lv_if_ne (tgt := 17) hx hb dX2_processBlock_4 (by decide) (fun _ => ?_) (fun c9 => False.elim (by revert c9; decide))
  refine lv_iload_n hx hb dX2_processBlock_17 rfl (lv_at hl 2 rfl) ?_
  refine lv_aload_n hx hb dX2_processBlock_18 rfl (lv_at hl 1 rfl) ?_
  refine va_alen (v := 16) hx hb hK hP 2 0 rfl rfl rfl dX2_processBlock_19 ?_
  refine lv_bipush (v := 16) hx hb dX2_processBlock_20 (by decide) ?_
  refine lv_isub hx hb dX2_processBlock_22 ?_
  refine lv_asi (y := 0) (by decide) ?_
  refine lv_icmp_le (tgt := 36) hx hb dX2_processBlock_23 (by decide) (fun _ => ?_) (fun c9 => False.elim (by revert c9; decide))
  refine lv_iload hx hb dX2_processBlock_36 (lv_at hl 4 rfl) ?_
  refine lv_aload_n hx hb dX2_processBlock_38 rfl (lv_at hl 3 rfl) ?_
  refine va_alen (v := 16) hx hb hK hP 3 0 rfl rfl rfl dX2_processBlock_39 ?_
  refine lv_bipush (v := 16) hx hb dX2_processBlock_40 (by decide) ?_
  refine lv_isub hx hb dX2_processBlock_42 ?_
  refine lv_asi (y := 0) (by decide) ?_
  refine lv_icmp_le (tgt := 56) hx hb dX2_processBlock_43 (by decide) (fun _ => ?_) (fun c9 => False.elim (by revert c9; decide))
  refine lv_aload_n hx hb dX2_processBlock_56 rfl (lv_at hl 0 rfl) ?_
  refine va_get (D := D) (ci := 2) (v := .int 0) (C := RX2) (T := TX2) (N := 3) hx hb hts in_X2 hown hK hP 0 rfl rfl 2 (by decide) (hts _ q72) (fun _ h9 => h9) rfl dX2_processBlock_57 ?_
  refine lv_if_eq (tgt := 75) hx hb dX2_processBlock_60 (by decide) (fun _ => ?_) (fun c9 => False.elim (by revert c9; decide))
  refine lv_aload_n hx hb dX2_processBlock_75 rfl (lv_at hl 0 rfl) ?_
  refine lv_aload_n hx hb dX2_processBlock_76 rfl (lv_at hl 1 rfl) ?_
  refine lv_iload_n hx hb dX2_processBlock_77 rfl (lv_at hl 2 rfl) ?_
  refine lv_aload_n hx hb dX2_processBlock_78 rfl (lv_at hl 3 rfl) ?_
  refine lv_iload hx hb dX2_processBlock_79 (lv_at hl 4 rfl) ?_
  refine k_i (D := D) (wc := [(h0, .inr (2, [.ref h1, .int 1, .int 0])), (h1, .inl (cI, 4, .inl (qf K))), (h2, .inl (cB, 16, .inl fi)), (h3, .inl (cB, 16, .inl fo))]) (wr := []) (va_runV (As := [.ref h2, .int 0, .ref h3, .int 0]) (rest := []) ⟨hx, hb, hml, hown, hts⟩ (metX2_decryptBlock l D cB cI s.heap.size h0 h1 h2 h3 K fi fo) (cwV 4 hts (lw_V q267 q269 qs3 q9 q270) rfl rfl rfl (by decide +kernel) ⟨Nat.le_of_ble_eq_true rfl, Nat.le_of_ble_eq_true rfl⟩) ⟨PreE.blind, va_recv hK hP (ci := 2) (q0 := 0) rfl rfl, preE hE hP hD hS hA [0, 1, 2, 3] rfl rfl⟩ rfl rfl hl.1 rfl (lv_room (Nat.le_of_ble_eq_true rfl)) dX2_processBlock_81 ⟨Nat.le_of_ble_eq_true rfl, Nat.le_of_ble_eq_true rfl⟩) hP hD hS hA [0, 1, 2, 3] [] rfl rfl rfl (by decide) [0, 1, 2, 3] rfl (fun _ : Unit => [(h0, .inr (2, [.ref h1, .int 1, .int 0])), (h1, .inl (cI, 4, .inl (qf K))), (h2, .inl (cB, 16, .inl fi)), (h3, .inl (cB, 16, .inl (itQ fo (deF K (beQ fi)))))]) (fun _ => rfl) (fun _ H locs hP hD hS => ?_)
  exact W.iret (v := 16) hx hb hr (fun t ht hW => ⟨⟨16, (), rfl, rfl, by rw [ht]; exact hP, hD⟩, hS.F ht⟩) hS.2.2 dX2_processBlock_84
end
section
set_option maxHeartbeats 4000000 in
set_option maxRecDepth 100000 in
theorem metX0_init (l : Launch) (D : va_G) (cB cI : ClassId) (sz : Nat) (h0 : Nat) : Met l yX0_init (ws_ yX0_init cX0_init 1 none) ({ frames := 1, cells := 3, slots := 64, locals := 60 } : Room) (PreE D cB cI [.ref h0] sz [(h0, .inr (0, [.null, .null, .null]))]) (PostV D (va_A [(h0, .inr (0, [.null, .null, .null]))] sz) (fun u : (Nat × Nat × Nat) => [(h0, .inr (0, [.ref u.1, .ref u.2.1, .ref u.2.2])), (u.1, .inl (cB, 32, .inl (fun _ => 0))), (u.2.1, .inl (cB, 16, .inl (fun _ => 0))), (u.2.2, .inl (cB, 16, .inl (fun _ => 0)))])) 3 64 (va_A [(h0, .inr (0, [.null, .null, .null]))] sz) := by
  refine Met.ofW (cc := cX0_init) (maxL := 1) (ret := none) (by decide) rfl ?_
  intro p e s m args below meth c s₁ B hml hv
  obtain ⟨rfl, hsz, hP, hD0, hE⟩ := hv
  have hx := B.exec
  have hb := B.bytes
  have hr := B.returns
  have hts := atoms_spec (ws := ws_ yX0_init cX0_init 1 none) B.pre
  have hts : ∀ w ∈ lw_all, w.before _ s = true := fun w h => hts w (List.mem_cons_of_mem _ h)
  have hown : s.vm.findClass RX0 = some m.cls := findClass_of_methodNamed B.named
  have hlocks := B.notSynchronized
  have hin : meth.name = "<init>" := (name_of_methodNamed B.named B.method).1
  subst hsz
  have hD := hD0.self (sz := s.heap.size)
  generalize hAe : va_A [(h0, .inr (0, [.null, .null, .null]))] s.heap.size = A at hD hE ⊢
  have hA : ∀ q : Nat, s.heap.size ≤ q → A q := fun q h => by rw [← hAe]; exact Or.inr h
  have hS : va_S A s.heap s.heap [] := va_S.rf
  have hK := hE.1
  have hP : va_P D vwCl [(h0, .inr (0, [.null, .null, .null]))] s.heap := hP
  have hl := lv_entry ([.ref h0]) (n := 1) (Nat.le_of_ble_eq_true rfl)
  rw [lg_entry_eq]
  generalize (lg_sl ([.ref h0]) ++ List.replicate (1 - (lg_sl ([.ref h0])).length) Slot.unset).toArray = ls at hl ⊢
  have hl : lv_has ls 1 [(0, .ref h0)] := hl
  refine lv_aload_n hx hb dX0_init_0 rfl (lv_at hl 0 rfl) ?_
  refine W.objInit hx hb hown (hts _ q28) (hts _ q29) (hts _ q30) rfl (by rw [hml]; exact hl.1) rfl dX0_init_1 (Nat.le_of_ble_eq_true rfl) (Nat.le_of_ble_eq_true rfl) ?_
  refine W.eq (g2 := F0 m 4 ls []) rfl ?_
  refine lv_aload_n hx hb dX0_init_4 rfl (lv_at hl 0 rfl) ?_
  refine lv_bipush (v := 32) hx hb dX0_init_5 (by decide) ?_
  refine k_newb hx hb (hts _ q41) hK hP hD hS hA 32 rfl (Nat.le_of_ble_eq_true rfl) (Nat.le_of_ble_eq_true rfl) (Nat.le_of_ble_eq_true rfl) dX0_init_7 (fun n1 H hP hD hS => ?_)
  have hP : va_P D vwCl [(h0, .inr (0, [.null, .null, .null])), (n1, .inl (cB, 32, .inl (fun _ => 0)))] H := hP
  have hD : va_D A [(h0, .inr (0, [.null, .null, .null])), (n1, .inl (cB, 32, .inl (fun _ => 0)))] := hD
  refine W.widen (k := 1) (n := 32) (Nat.le_refl _) (Nat.le_refl _) ?_
  refine va_putF (D := D) (ci := 0) (v := .ref n1) (ty := .array .byte) (C := RX0) (T := TX0) (N := 3) hx hb hts in_X0 tyX0 tyX0_ok nmX0 hown hK hP hD hS 0 rfl rfl 0 (by decide) (hts _ q31) (fun _ h9 => h9) rfl hin rfl (by decide +kernel) rfl rfl (Nat.le_of_ble_eq_true rfl) dX0_init_9 (fun H locs hP hD hS => ?_)
  have hP : va_P D vwCl [(h0, .inr (0, [.ref n1, .null, .null])), (n1, .inl (cB, 32, .inl (fun _ => 0)))] H := hP
  have hD : va_D A [(h0, .inr (0, [.ref n1, .null, .null])), (n1, .inl (cB, 32, .inl (fun _ => 0)))] := hD
  refine lv_aload_n hx hb dX0_init_12 rfl (lv_at hl 0 rfl) ?_
  refine lv_bipush (v := 16) hx hb dX0_init_13 (by decide) ?_
  refine k_newb hx hb (hts _ q41) hK hP hD hS hA 16 rfl (Nat.le_of_ble_eq_true rfl) (Nat.le_of_ble_eq_true rfl) (Nat.le_of_ble_eq_true rfl) dX0_init_15 (fun n2 H hP hD hS => ?_)
  have hP : va_P D vwCl [(h0, .inr (0, [.ref n1, .null, .null])), (n1, .inl (cB, 32, .inl (fun _ => 0))), (n2, .inl (cB, 16, .inl (fun _ => 0)))] H := hP
  have hD : va_D A [(h0, .inr (0, [.ref n1, .null, .null])), (n1, .inl (cB, 32, .inl (fun _ => 0))), (n2, .inl (cB, 16, .inl (fun _ => 0)))] := hD
  refine W.widen (k := 2) (n := 48) (Nat.le_refl _) (Nat.le_refl _) ?_
  refine va_putF (D := D) (ci := 0) (v := .ref n2) (ty := .array .byte) (C := RX0) (T := TX0) (N := 3) hx hb hts in_X0 tyX0 tyX0_ok nmX0 hown hK hP hD hS 0 rfl rfl 1 (by decide) (hts _ q32) (fun _ h9 => h9) rfl hin rfl (by decide +kernel) rfl rfl (Nat.le_of_ble_eq_true rfl) dX0_init_17 (fun H locs hP hD hS => ?_)
  have hP : va_P D vwCl [(h0, .inr (0, [.ref n1, .ref n2, .null])), (n1, .inl (cB, 32, .inl (fun _ => 0))), (n2, .inl (cB, 16, .inl (fun _ => 0)))] H := hP
  have hD : va_D A [(h0, .inr (0, [.ref n1, .ref n2, .null])), (n1, .inl (cB, 32, .inl (fun _ => 0))), (n2, .inl (cB, 16, .inl (fun _ => 0)))] := hD
  refine lv_aload_n hx hb dX0_init_20 rfl (lv_at hl 0 rfl) ?_
  refine lv_bipush (v := 16) hx hb dX0_init_21 (by decide) ?_
  refine k_newb hx hb (hts _ q41) hK hP hD hS hA 16 rfl (Nat.le_of_ble_eq_true rfl) (Nat.le_of_ble_eq_true rfl) (Nat.le_of_ble_eq_true rfl) dX0_init_23 (fun n3 H hP hD hS => ?_)
  have hP : va_P D vwCl [(h0, .inr (0, [.ref n1, .ref n2, .null])), (n1, .inl (cB, 32, .inl (fun _ => 0))), (n2, .inl (cB, 16, .inl (fun _ => 0))), (n3, .inl (cB, 16, .inl (fun _ => 0)))] H := hP
  have hD : va_D A [(h0, .inr (0, [.ref n1, .ref n2, .null])), (n1, .inl (cB, 32, .inl (fun _ => 0))), (n2, .inl (cB, 16, .inl (fun _ => 0))), (n3, .inl (cB, 16, .inl (fun _ => 0)))] := hD
  refine W.widen (k := 3) (n := 64) (Nat.le_refl _) (Nat.le_refl _) ?_
  refine va_putF (D := D) (ci := 0) (v := .ref n3) (ty := .array .byte) (C := RX0) (T := TX0) (N := 3) hx hb hts in_X0 tyX0 tyX0_ok nmX0 hown hK hP hD hS 0 rfl rfl 2 (by decide) (hts _ q33) (fun _ h9 => h9) rfl hin rfl (by decide +kernel) rfl rfl (Nat.le_of_ble_eq_true rfl) dX0_init_25 (fun H locs hP hD hS => ?_)
  have hP : va_P D vwCl [(h0, .inr (0, [.ref n1, .ref n2, .ref n3])), (n1, .inl (cB, 32, .inl (fun _ => 0))), (n2, .inl (cB, 16, .inl (fun _ => 0))), (n3, .inl (cB, 16, .inl (fun _ => 0)))] H := hP
  have hD : va_D A [(h0, .inr (0, [.ref n1, .ref n2, .ref n3])), (n1, .inl (cB, 32, .inl (fun _ => 0))), (n2, .inl (cB, 16, .inl (fun _ => 0))), (n3, .inl (cB, 16, .inl (fun _ => 0)))] := hD
  exact W.vret hx hb hr (fun t ht hW => ⟨⟨(n1, n2, n3), rfl, trivial, by rw [ht]; exact hP, hD⟩, hS.F ht⟩) hS.2.2 dX0_init_28
set_option maxHeartbeats 4000000 in
set_option maxRecDepth 100000 in
theorem metX0_word (l : Launch) (D : va_G) (cB cI : ClassId) (sz : Nat) (h0 n : Nat) (f : Nat → Int32) (o : Nat) (w : Int32) (ho : o + 3 < n) (hn : n ≤ 1000) : Met l yX0_word (ws_ yX0_word cX0_word 3 none) ({ frames := 0, cells := 0, slots := 0, locals := 0 } : Room) (PreE D cB cI [.ref h0, .int (nI o), .int w] sz [(h0, .inl (cB, n, .inl f))]) (PostV D (va_A [(h0, .inl (cB, n, .inl f))] sz) (fun _ : Unit => [(h0, .inl (cB, n, .inl (wrB f o w)))])) 0 0 (va_A [(h0, .inl (cB, n, .inl f))] sz) := by
  refine Met.ofW (cc := cX0_word) (maxL := 3) (ret := none) (by decide) rfl ?_
  intro p e s m args below meth c s₁ B hml hv
  obtain ⟨rfl, hsz, hP, hD0, hE⟩ := hv
  have hx := B.exec
  have hb := B.bytes
  have hr := B.returns
  have hts := atoms_spec (ws := ws_ yX0_word cX0_word 3 none) B.pre
  have hts : ∀ w ∈ lw_all, w.before _ s = true := fun w h => hts w (List.mem_cons_of_mem _ h)
  have hown : s.vm.findClass RX0 = some m.cls := findClass_of_methodNamed B.named
  have hlocks := B.notSynchronized
  subst hsz
  have hD := hD0.self (sz := s.heap.size)
  generalize hAe : va_A [(h0, .inl (cB, n, .inl f))] s.heap.size = A at hD hE ⊢
  have hA : ∀ q : Nat, s.heap.size ≤ q → A q := fun q h => by rw [← hAe]; exact Or.inr h
  have hS : va_S A s.heap s.heap [] := va_S.rf
  have hK := hE.1
  have hP : va_P D vwCl [(h0, .inl (cB, n, .inl f))] s.heap := hP
  have hl := lv_entry ([.ref h0, .int (nI o), .int w]) (n := 3) (Nat.le_of_ble_eq_true rfl)
  rw [lg_entry_eq]
  generalize (lg_sl ([.ref h0, .int (nI o), .int w]) ++ List.replicate (3 - (lg_sl ([.ref h0, .int (nI o), .int w])).length) Slot.unset).toArray = ls at hl ⊢
  have hl : lv_has ls 3 [(0, .ref h0), (1, .int (nI o)), (2, .int w)] := hl
  refine lv_aload_n hx hb dX0_word_0 rfl (lv_at hl 0 rfl) ?_
  refine lv_iload_n hx hb dX0_word_1 rfl (lv_at hl 1 rfl) ?_
  refine lv_iload_n hx hb dX0_word_2 rfl (lv_at hl 2 rfl) ?_
  refine lv_bipush (v := 24) hx hb dX0_word_3 (by decide) ?_
  refine lv_ishr hx hb dX0_word_5 ?_
  refine lv_i2b (v := (w >>> ((24 : Int32) &&& 31)).toInt8.toInt32) hx hb dX0_word_6 rfl ?_
  refine k_bast (f' := upd f o (vp_nar .byte ((w >>> ((24 : Int32) &&& 31)).toInt8.toInt32))) (w2 := [(h0, .inl (cB, n, .inl (upd f o (vp_nar .byte ((w >>> ((24 : Int32) &&& 31)).toInt8.toInt32)))))]) hx hb hK hP hD hS 0 rfl o rfl (by omega) hn rfl dX0_word_7 rfl (fun H locs hP hD hS => ?_)
  refine lv_aload_n hx hb dX0_word_8 rfl (lv_at hl 0 rfl) ?_
  refine lv_iload_n hx hb dX0_word_9 rfl (lv_at hl 1 rfl) ?_
  refine lv_iconst (v := 1) hx hb dX0_word_10 (by decide) ?_
  refine lv_iadd hx hb dX0_word_11 ?_
  refine lv_asi (y := nI (o + 1)) (nI_add _ 1) ?_
  refine lv_iload_n hx hb dX0_word_12 rfl (lv_at hl 2 rfl) ?_
  refine lv_bipush (v := 16) hx hb dX0_word_13 (by decide) ?_
  refine lv_ishr hx hb dX0_word_15 ?_
  refine lv_i2b (v := (w >>> ((16 : Int32) &&& 31)).toInt8.toInt32) hx hb dX0_word_16 rfl ?_
  refine k_bast (f' := upd (upd f o (vp_nar .byte ((w >>> ((24 : Int32) &&& 31)).toInt8.toInt32))) (o + 1) (vp_nar .byte ((w >>> ((16 : Int32) &&& 31)).toInt8.toInt32))) (w2 := [(h0, .inl (cB, n, .inl (upd (upd f o (vp_nar .byte ((w >>> ((24 : Int32) &&& 31)).toInt8.toInt32))) (o + 1) (vp_nar .byte ((w >>> ((16 : Int32) &&& 31)).toInt8.toInt32)))))]) hx hb hK hP hD hS 0 rfl (o + 1) rfl (by omega) hn rfl dX0_word_17 rfl (fun H locs hP hD hS => ?_)
  refine lv_aload_n hx hb dX0_word_18 rfl (lv_at hl 0 rfl) ?_
  refine lv_iload_n hx hb dX0_word_19 rfl (lv_at hl 1 rfl) ?_
  refine lv_iconst (v := 2) hx hb dX0_word_20 (by decide) ?_
  refine lv_iadd hx hb dX0_word_21 ?_
  refine lv_asi (y := nI (o + 2)) (nI_add _ 2) ?_
  refine lv_iload_n hx hb dX0_word_22 rfl (lv_at hl 2 rfl) ?_
  refine lv_bipush (v := 8) hx hb dX0_word_23 (by decide) ?_
  refine lv_ishr hx hb dX0_word_25 ?_
  refine lv_i2b (v := (w >>> ((8 : Int32) &&& 31)).toInt8.toInt32) hx hb dX0_word_26 rfl ?_
  refine k_bast (f' := upd (upd (upd f o (vp_nar .byte ((w >>> ((24 : Int32) &&& 31)).toInt8.toInt32))) (o + 1) (vp_nar .byte ((w >>> ((16 : Int32) &&& 31)).toInt8.toInt32))) (o + 2) (vp_nar .byte ((w >>> ((8 : Int32) &&& 31)).toInt8.toInt32))) (w2 := [(h0, .inl (cB, n, .inl (upd (upd (upd f o (vp_nar .byte ((w >>> ((24 : Int32) &&& 31)).toInt8.toInt32))) (o + 1) (vp_nar .byte ((w >>> ((16 : Int32) &&& 31)).toInt8.toInt32))) (o + 2) (vp_nar .byte ((w >>> ((8 : Int32) &&& 31)).toInt8.toInt32)))))]) hx hb hK hP hD hS 0 rfl (o + 2) rfl (by omega) hn rfl dX0_word_27 rfl (fun H locs hP hD hS => ?_)
  refine lv_aload_n hx hb dX0_word_28 rfl (lv_at hl 0 rfl) ?_
  refine lv_iload_n hx hb dX0_word_29 rfl (lv_at hl 1 rfl) ?_
  refine lv_iconst (v := 3) hx hb dX0_word_30 (by decide) ?_
  refine lv_iadd hx hb dX0_word_31 ?_
  refine lv_asi (y := nI (o + 3)) (nI_add _ 3) ?_
  refine lv_iload_n hx hb dX0_word_32 rfl (lv_at hl 2 rfl) ?_
  refine lv_i2b (v := w.toInt8.toInt32) hx hb dX0_word_33 rfl ?_
  refine k_bast (f' := wrB f o w) (w2 := [(h0, .inl (cB, n, .inl (wrB f o w)))]) hx hb hK hP hD hS 0 rfl (o + 3) rfl (by omega) hn rfl dX0_word_34 rfl (fun H locs hP hD hS => ?_)
  exact W.vret hx hb hr (fun t ht hW => ⟨⟨(), rfl, trivial, by rw [ht]; exact hP, hD⟩, hS.F ht⟩) hS.2.2 dX0_word_35
set_option maxHeartbeats 4000000 in
set_option maxRecDepth 100000 in
theorem metX0_key (l : Launch) (D : va_G) (cB cI : ClassId) (sz : Nat) (h0 h1 h2 h3 : Nat) (fk : Nat → Int32) (hf v1 v2 v3 v4 : Int32) (o : Nat) (ho : o ≤ 16) (eo : (hf &&& 1) <<< ((4 : Int32) &&& 31) = nI o) : Met l yX0_key (ws_ yX0_key cX0_key 7 none) ({ frames := 1, cells := 0, slots := 0, locals := 60 } : Room) (PreE D cB cI [.ref h0, .int hf, .int v1, .int v2, .int v3, .int v4] sz [(h0, .inr (0, [.ref h1, .ref h2, .ref h3])), (h1, .inl (cB, 32, .inl fk))]) (PostV D (va_A [(h0, .inr (0, [.ref h1, .ref h2, .ref h3])), (h1, .inl (cB, 32, .inl fk))] sz) (fun _ : Unit => [(h0, .inr (0, [.ref h1, .ref h2, .ref h3])), (h1, .inl (cB, 32, .inl (wB4 fk o v1 v2 v3 v4)))])) 0 0 (va_A [(h0, .inr (0, [.ref h1, .ref h2, .ref h3])), (h1, .inl (cB, 32, .inl fk))] sz) := by
  refine Met.ofW (cc := cX0_key) (maxL := 7) (ret := none) (by decide) rfl ?_
  intro p e s m args below meth c s₁ B hml hv
  obtain ⟨rfl, hsz, hP, hD0, hE⟩ := hv
  have hx := B.exec
  have hb := B.bytes
  have hr := B.returns
  have hts := atoms_spec (ws := ws_ yX0_key cX0_key 7 none) B.pre
  have hts : ∀ w ∈ lw_all, w.before _ s = true := fun w h => hts w (List.mem_cons_of_mem _ h)
  have hown : s.vm.findClass RX0 = some m.cls := findClass_of_methodNamed B.named
  have hlocks := B.notSynchronized
  subst hsz
  have hD := hD0.self (sz := s.heap.size)
  generalize hAe : va_A [(h0, .inr (0, [.ref h1, .ref h2, .ref h3])), (h1, .inl (cB, 32, .inl fk))] s.heap.size = A at hD hE ⊢
  have hA : ∀ q : Nat, s.heap.size ≤ q → A q := fun q h => by rw [← hAe]; exact Or.inr h
  have hS : va_S A s.heap s.heap [] := va_S.rf
  have hK := hE.1
  have hP : va_P D vwCl [(h0, .inr (0, [.ref h1, .ref h2, .ref h3])), (h1, .inl (cB, 32, .inl fk))] s.heap := hP
  have hl := lv_entry ([.ref h0, .int hf, .int v1, .int v2, .int v3, .int v4]) (n := 7) (Nat.le_of_ble_eq_true rfl)
  rw [lg_entry_eq]
  generalize (lg_sl ([.ref h0, .int hf, .int v1, .int v2, .int v3, .int v4]) ++ List.replicate (7 - (lg_sl ([.ref h0, .int hf, .int v1, .int v2, .int v3, .int v4])).length) Slot.unset).toArray = ls at hl ⊢
  have hl : lv_has ls 7 [(0, .ref h0), (1, .int hf), (2, .int v1), (3, .int v2), (4, .int v3), (5, .int v4)] := hl
  refine lv_iload_n hx hb dX0_key_0 rfl (lv_at hl 1 rfl) ?_
  refine lv_iconst (v := 1) hx hb dX0_key_1 (by decide) ?_
  refine lv_iand hx hb dX0_key_2 ?_
  refine lv_iconst (v := 4) hx hb dX0_key_3 (by decide) ?_
  refine lv_ishl hx hb dX0_key_4 ?_
  refine lv_asi (y := nI o) eo ?_
  refine lv_istore (lv' := [(6, .int (nI o)), (0, .ref h0), (1, .int hf), (2, .int v1), (3, .int v2), (4, .int v3), (5, .int v4)]) hx hb dX0_key_5 hl (by decide) rfl (fun ls hl => ?_)
  refine lv_aload_n hx hb dX0_key_7 rfl (lv_at hl 1 rfl) ?_
  refine va_get (D := D) (ci := 0) (v := .ref h1) (C := RX0) (T := TX0) (N := 3) hx hb hts in_X0 hown hK hP 0 rfl rfl 0 (by decide) (hts _ q31) (fun _ h9 => h9) rfl dX0_key_8 ?_
  refine lv_iload hx hb dX0_key_11 (lv_at hl 0 rfl) ?_
  refine lv_iload_n hx hb dX0_key_13 rfl (lv_at hl 3 rfl) ?_
  refine k_v (D := D) (wc := [(h1, .inl (cB, 32, .inl fk))]) (wr := [(h0, .inr (0, [.ref h1, .ref h2, .ref h3]))]) (va_runS (As := [.ref h1, .int (nI o), .int v1]) (rest := []) ⟨hx, hb, hml, hown, hts⟩ (metX0_word l D cB cI s.heap.size h1 32 fk o v1 (by omega) (Nat.le_of_ble_eq_true rfl)) (va_cwS 3 hts (lw_S q46 q47 q7 q48) rfl rfl rfl (by decide +kernel) ⟨Nat.le_of_ble_eq_true rfl, Nat.le_of_ble_eq_true rfl⟩) ⟨PreE.blind, preE hE hP hD hS hA [1] rfl rfl⟩ rfl rfl hl.1 rfl (lv_room (Nat.le_of_ble_eq_true rfl)) dX0_key_14 ⟨Nat.le_of_ble_eq_true rfl, Nat.le_of_ble_eq_true rfl⟩) hP hD hS hA [1] [0] rfl rfl rfl (by decide) [0, 1] rfl (fun _ : Unit => [(h0, .inr (0, [.ref h1, .ref h2, .ref h3])), (h1, .inl (cB, 32, .inl (wrB fk o v1)))]) (fun _ => rfl) (fun _ H locs hP hD hS => ?_)
  refine lv_aload_n hx hb dX0_key_17 rfl (lv_at hl 1 rfl) ?_
  refine va_get (D := D) (ci := 0) (v := .ref h1) (C := RX0) (T := TX0) (N := 3) hx hb hts in_X0 hown hK hP 0 rfl rfl 0 (by decide) (hts _ q31) (fun _ h9 => h9) rfl dX0_key_18 ?_
  refine lv_iload hx hb dX0_key_21 (lv_at hl 0 rfl) ?_
  refine lv_iconst (v := 4) hx hb dX0_key_23 (by decide) ?_
  refine lv_iadd hx hb dX0_key_24 ?_
  refine lv_asi (y := nI (o + 4)) (nI_add _ 4) ?_
  refine lv_iload_n hx hb dX0_key_25 rfl (lv_at hl 4 rfl) ?_
  refine k_v (D := D) (wc := [(h1, .inl (cB, 32, .inl (wrB fk o v1)))]) (wr := [(h0, .inr (0, [.ref h1, .ref h2, .ref h3]))]) (va_runS (As := [.ref h1, .int (nI (o + 4)), .int v2]) (rest := []) ⟨hx, hb, hml, hown, hts⟩ (metX0_word l D cB cI H.size h1 32 (wrB fk o v1) (o + 4) v2 (by omega) (Nat.le_of_ble_eq_true rfl)) (va_cwS 3 hts (lw_S q46 q47 q7 q48) rfl rfl rfl (by decide +kernel) ⟨Nat.le_of_ble_eq_true rfl, Nat.le_of_ble_eq_true rfl⟩) ⟨PreE.blind, preE hE hP hD hS hA [1] rfl rfl⟩ rfl rfl hl.1 rfl (lv_room (Nat.le_of_ble_eq_true rfl)) dX0_key_26 ⟨Nat.le_of_ble_eq_true rfl, Nat.le_of_ble_eq_true rfl⟩) hP hD hS hA [1] [0] rfl rfl rfl (by decide) [0, 1] rfl (fun _ : Unit => [(h0, .inr (0, [.ref h1, .ref h2, .ref h3])), (h1, .inl (cB, 32, .inl (wrB (wrB fk o v1) (o + 4) v2)))]) (fun _ => rfl) (fun _ H locs hP hD hS => ?_)
  refine lv_aload_n hx hb dX0_key_29 rfl (lv_at hl 1 rfl) ?_
  refine va_get (D := D) (ci := 0) (v := .ref h1) (C := RX0) (T := TX0) (N := 3) hx hb hts in_X0 hown hK hP 0 rfl rfl 0 (by decide) (hts _ q31) (fun _ h9 => h9) rfl dX0_key_30 ?_
  refine lv_iload hx hb dX0_key_33 (lv_at hl 0 rfl) ?_
  refine lv_bipush (v := 8) hx hb dX0_key_35 (by decide) ?_
  refine lv_iadd hx hb dX0_key_37 ?_
  refine lv_asi (y := nI (o + 8)) (nI_add _ 8) ?_
  refine lv_iload hx hb dX0_key_38 (lv_at hl 5 rfl) ?_
  refine k_v (D := D) (wc := [(h1, .inl (cB, 32, .inl (wrB (wrB fk o v1) (o + 4) v2)))]) (wr := [(h0, .inr (0, [.ref h1, .ref h2, .ref h3]))]) (va_runS (As := [.ref h1, .int (nI (o + 8)), .int v3]) (rest := []) ⟨hx, hb, hml, hown, hts⟩ (metX0_word l D cB cI H.size h1 32 (wrB (wrB fk o v1) (o + 4) v2) (o + 8) v3 (by omega) (Nat.le_of_ble_eq_true rfl)) (va_cwS 3 hts (lw_S q46 q47 q7 q48) rfl rfl rfl (by decide +kernel) ⟨Nat.le_of_ble_eq_true rfl, Nat.le_of_ble_eq_true rfl⟩) ⟨PreE.blind, preE hE hP hD hS hA [1] rfl rfl⟩ rfl rfl hl.1 rfl (lv_room (Nat.le_of_ble_eq_true rfl)) dX0_key_40 ⟨Nat.le_of_ble_eq_true rfl, Nat.le_of_ble_eq_true rfl⟩) hP hD hS hA [1] [0] rfl rfl rfl (by decide) [0, 1] rfl (fun _ : Unit => [(h0, .inr (0, [.ref h1, .ref h2, .ref h3])), (h1, .inl (cB, 32, .inl (wrB (wrB (wrB fk o v1) (o + 4) v2) (o + 8) v3)))]) (fun _ => rfl) (fun _ H locs hP hD hS => ?_)
  refine lv_aload_n hx hb dX0_key_43 rfl (lv_at hl 1 rfl) ?_
  refine va_get (D := D) (ci := 0) (v := .ref h1) (C := RX0) (T := TX0) (N := 3) hx hb hts in_X0 hown hK hP 0 rfl rfl 0 (by decide) (hts _ q31) (fun _ h9 => h9) rfl dX0_key_44 ?_
  refine lv_iload hx hb dX0_key_47 (lv_at hl 0 rfl) ?_
  refine lv_bipush (v := 12) hx hb dX0_key_49 (by decide) ?_
  refine lv_iadd hx hb dX0_key_51 ?_
  refine lv_asi (y := nI (o + 12)) (nI_add _ 12) ?_
  refine lv_iload hx hb dX0_key_52 (lv_at hl 6 rfl) ?_
  refine k_v (D := D) (wc := [(h1, .inl (cB, 32, .inl (wrB (wrB (wrB fk o v1) (o + 4) v2) (o + 8) v3)))]) (wr := [(h0, .inr (0, [.ref h1, .ref h2, .ref h3]))]) (va_runS (As := [.ref h1, .int (nI (o + 12)), .int v4]) (rest := []) ⟨hx, hb, hml, hown, hts⟩ (metX0_word l D cB cI H.size h1 32 (wrB (wrB (wrB fk o v1) (o + 4) v2) (o + 8) v3) (o + 12) v4 (by omega) (Nat.le_of_ble_eq_true rfl)) (va_cwS 3 hts (lw_S q46 q47 q7 q48) rfl rfl rfl (by decide +kernel) ⟨Nat.le_of_ble_eq_true rfl, Nat.le_of_ble_eq_true rfl⟩) ⟨PreE.blind, preE hE hP hD hS hA [1] rfl rfl⟩ rfl rfl hl.1 rfl (lv_room (Nat.le_of_ble_eq_true rfl)) dX0_key_54 ⟨Nat.le_of_ble_eq_true rfl, Nat.le_of_ble_eq_true rfl⟩) hP hD hS hA [1] [0] rfl rfl rfl (by decide) [0, 1] rfl (fun _ : Unit => [(h0, .inr (0, [.ref h1, .ref h2, .ref h3])), (h1, .inl (cB, 32, .inl (wrB (wrB (wrB (wrB fk o v1) (o + 4) v2) (o + 8) v3) (o + 12) v4)))]) (fun _ => rfl) (fun _ H locs hP hD hS => ?_)
  exact W.vret hx hb hr (fun t ht hW => ⟨⟨(), rfl, trivial, by rw [ht]; exact hP, hD⟩, hS.F ht⟩) hS.2.2 dX0_key_57
set_option maxHeartbeats 4000000 in
set_option maxRecDepth 100000 in
theorem metX0_block (l : Launch) (D : va_G) (cB cI : ClassId) (sz : Nat) (h0 h1 h2 h3 : Nat) (fb : Nat → Int32) (v1 v2 v3 v4 : Int32) : Met l yX0_block (ws_ yX0_block cX0_block 5 none) ({ frames := 1, cells := 0, slots := 0, locals := 60 } : Room) (PreE D cB cI [.ref h0, .int v1, .int v2, .int v3, .int v4] sz [(h0, .inr (0, [.ref h1, .ref h2, .ref h3])), (h2, .inl (cB, 16, .inl fb))]) (PostV D (va_A [(h0, .inr (0, [.ref h1, .ref h2, .ref h3])), (h2, .inl (cB, 16, .inl fb))] sz) (fun _ : Unit => [(h0, .inr (0, [.ref h1, .ref h2, .ref h3])), (h2, .inl (cB, 16, .inl (wB4 fb 0 v1 v2 v3 v4)))])) 0 0 (va_A [(h0, .inr (0, [.ref h1, .ref h2, .ref h3])), (h2, .inl (cB, 16, .inl fb))] sz) := by
  refine Met.ofW (cc := cX0_block) (maxL := 5) (ret := none) (by decide) rfl ?_
  intro p e s m args below meth c s₁ B hml hv
  obtain ⟨rfl, hsz, hP, hD0, hE⟩ := hv
  have hx := B.exec
  have hb := B.bytes
  have hr := B.returns
  have hts := atoms_spec (ws := ws_ yX0_block cX0_block 5 none) B.pre
  have hts : ∀ w ∈ lw_all, w.before _ s = true := fun w h => hts w (List.mem_cons_of_mem _ h)
  have hown : s.vm.findClass RX0 = some m.cls := findClass_of_methodNamed B.named
  have hlocks := B.notSynchronized
  subst hsz
  have hD := hD0.self (sz := s.heap.size)
  generalize hAe : va_A [(h0, .inr (0, [.ref h1, .ref h2, .ref h3])), (h2, .inl (cB, 16, .inl fb))] s.heap.size = A at hD hE ⊢
  have hA : ∀ q : Nat, s.heap.size ≤ q → A q := fun q h => by rw [← hAe]; exact Or.inr h
  have hS : va_S A s.heap s.heap [] := va_S.rf
  have hK := hE.1
  have hP : va_P D vwCl [(h0, .inr (0, [.ref h1, .ref h2, .ref h3])), (h2, .inl (cB, 16, .inl fb))] s.heap := hP
  have hl := lv_entry ([.ref h0, .int v1, .int v2, .int v3, .int v4]) (n := 5) (Nat.le_of_ble_eq_true rfl)
  rw [lg_entry_eq]
  generalize (lg_sl ([.ref h0, .int v1, .int v2, .int v3, .int v4]) ++ List.replicate (5 - (lg_sl ([.ref h0, .int v1, .int v2, .int v3, .int v4])).length) Slot.unset).toArray = ls at hl ⊢
  have hl : lv_has ls 5 [(0, .ref h0), (1, .int v1), (2, .int v2), (3, .int v3), (4, .int v4)] := hl
  refine lv_aload_n hx hb dX0_block_0 rfl (lv_at hl 0 rfl) ?_
  refine va_get (D := D) (ci := 0) (v := .ref h2) (C := RX0) (T := TX0) (N := 3) hx hb hts in_X0 hown hK hP 0 rfl rfl 1 (by decide) (hts _ q32) (fun _ h9 => h9) rfl dX0_block_1 ?_
  refine lv_iconst (v := 0) hx hb dX0_block_4 (by decide) ?_
  refine lv_asi (y := nI 0) rfl ?_
  refine lv_iload_n hx hb dX0_block_5 rfl (lv_at hl 1 rfl) ?_
  refine k_v (D := D) (wc := [(h2, .inl (cB, 16, .inl fb))]) (wr := [(h0, .inr (0, [.ref h1, .ref h2, .ref h3]))]) (va_runS (As := [.ref h2, .int (nI 0), .int v1]) (rest := []) ⟨hx, hb, hml, hown, hts⟩ (metX0_word l D cB cI s.heap.size h2 16 fb 0 v1 (by omega) (Nat.le_of_ble_eq_true rfl)) (va_cwS 3 hts (lw_S q46 q47 q7 q48) rfl rfl rfl (by decide +kernel) ⟨Nat.le_of_ble_eq_true rfl, Nat.le_of_ble_eq_true rfl⟩) ⟨PreE.blind, preE hE hP hD hS hA [1] rfl rfl⟩ rfl rfl hl.1 rfl (lv_room (Nat.le_of_ble_eq_true rfl)) dX0_block_6 ⟨Nat.le_of_ble_eq_true rfl, Nat.le_of_ble_eq_true rfl⟩) hP hD hS hA [1] [0] rfl rfl rfl (by decide) [0, 1] rfl (fun _ : Unit => [(h0, .inr (0, [.ref h1, .ref h2, .ref h3])), (h2, .inl (cB, 16, .inl (wrB fb 0 v1)))]) (fun _ => rfl) (fun _ H locs hP hD hS => ?_)
  refine lv_aload_n hx hb dX0_block_9 rfl (lv_at hl 0 rfl) ?_
  refine va_get (D := D) (ci := 0) (v := .ref h2) (C := RX0) (T := TX0) (N := 3) hx hb hts in_X0 hown hK hP 0 rfl rfl 1 (by decide) (hts _ q32) (fun _ h9 => h9) rfl dX0_block_10 ?_
  refine lv_iconst (v := 4) hx hb dX0_block_13 (by decide) ?_
  refine lv_asi (y := nI 4) rfl ?_
  refine lv_iload_n hx hb dX0_block_14 rfl (lv_at hl 2 rfl) ?_
  refine k_v (D := D) (wc := [(h2, .inl (cB, 16, .inl (wrB fb 0 v1)))]) (wr := [(h0, .inr (0, [.ref h1, .ref h2, .ref h3]))]) (va_runS (As := [.ref h2, .int (nI 4), .int v2]) (rest := []) ⟨hx, hb, hml, hown, hts⟩ (metX0_word l D cB cI H.size h2 16 (wrB fb 0 v1) 4 v2 (by omega) (Nat.le_of_ble_eq_true rfl)) (va_cwS 3 hts (lw_S q46 q47 q7 q48) rfl rfl rfl (by decide +kernel) ⟨Nat.le_of_ble_eq_true rfl, Nat.le_of_ble_eq_true rfl⟩) ⟨PreE.blind, preE hE hP hD hS hA [1] rfl rfl⟩ rfl rfl hl.1 rfl (lv_room (Nat.le_of_ble_eq_true rfl)) dX0_block_15 ⟨Nat.le_of_ble_eq_true rfl, Nat.le_of_ble_eq_true rfl⟩) hP hD hS hA [1] [0] rfl rfl rfl (by decide) [0, 1] rfl (fun _ : Unit => [(h0, .inr (0, [.ref h1, .ref h2, .ref h3])), (h2, .inl (cB, 16, .inl (wrB (wrB fb 0 v1) 4 v2)))]) (fun _ => rfl) (fun _ H locs hP hD hS => ?_)
  refine lv_aload_n hx hb dX0_block_18 rfl (lv_at hl 0 rfl) ?_
  refine va_get (D := D) (ci := 0) (v := .ref h2) (C := RX0) (T := TX0) (N := 3) hx hb hts in_X0 hown hK hP 0 rfl rfl 1 (by decide) (hts _ q32) (fun _ h9 => h9) rfl dX0_block_19 ?_
  refine lv_bipush (v := 8) hx hb dX0_block_22 (by decide) ?_
  refine lv_asi (y := nI 8) rfl ?_
  refine lv_iload_n hx hb dX0_block_24 rfl (lv_at hl 3 rfl) ?_
  refine k_v (D := D) (wc := [(h2, .inl (cB, 16, .inl (wrB (wrB fb 0 v1) 4 v2)))]) (wr := [(h0, .inr (0, [.ref h1, .ref h2, .ref h3]))]) (va_runS (As := [.ref h2, .int (nI 8), .int v3]) (rest := []) ⟨hx, hb, hml, hown, hts⟩ (metX0_word l D cB cI H.size h2 16 (wrB (wrB fb 0 v1) 4 v2) 8 v3 (by omega) (Nat.le_of_ble_eq_true rfl)) (va_cwS 3 hts (lw_S q46 q47 q7 q48) rfl rfl rfl (by decide +kernel) ⟨Nat.le_of_ble_eq_true rfl, Nat.le_of_ble_eq_true rfl⟩) ⟨PreE.blind, preE hE hP hD hS hA [1] rfl rfl⟩ rfl rfl hl.1 rfl (lv_room (Nat.le_of_ble_eq_true rfl)) dX0_block_25 ⟨Nat.le_of_ble_eq_true rfl, Nat.le_of_ble_eq_true rfl⟩) hP hD hS hA [1] [0] rfl rfl rfl (by decide) [0, 1] rfl (fun _ : Unit => [(h0, .inr (0, [.ref h1, .ref h2, .ref h3])), (h2, .inl (cB, 16, .inl (wrB (wrB (wrB fb 0 v1) 4 v2) 8 v3)))]) (fun _ => rfl) (fun _ H locs hP hD hS => ?_)
  refine lv_aload_n hx hb dX0_block_28 rfl (lv_at hl 0 rfl) ?_
  refine va_get (D := D) (ci := 0) (v := .ref h2) (C := RX0) (T := TX0) (N := 3) hx hb hts in_X0 hown hK hP 0 rfl rfl 1 (by decide) (hts _ q32) (fun _ h9 => h9) rfl dX0_block_29 ?_
  refine lv_bipush (v := 12) hx hb dX0_block_32 (by decide) ?_
  refine lv_asi (y := nI 12) rfl ?_
  refine lv_iload hx hb dX0_block_34 (lv_at hl 4 rfl) ?_
  refine k_v (D := D) (wc := [(h2, .inl (cB, 16, .inl (wrB (wrB (wrB fb 0 v1) 4 v2) 8 v3)))]) (wr := [(h0, .inr (0, [.ref h1, .ref h2, .ref h3]))]) (va_runS (As := [.ref h2, .int (nI 12), .int v4]) (rest := []) ⟨hx, hb, hml, hown, hts⟩ (metX0_word l D cB cI H.size h2 16 (wrB (wrB (wrB fb 0 v1) 4 v2) 8 v3) 12 v4 (by omega) (Nat.le_of_ble_eq_true rfl)) (va_cwS 3 hts (lw_S q46 q47 q7 q48) rfl rfl rfl (by decide +kernel) ⟨Nat.le_of_ble_eq_true rfl, Nat.le_of_ble_eq_true rfl⟩) ⟨PreE.blind, preE hE hP hD hS hA [1] rfl rfl⟩ rfl rfl hl.1 rfl (lv_room (Nat.le_of_ble_eq_true rfl)) dX0_block_36 ⟨Nat.le_of_ble_eq_true rfl, Nat.le_of_ble_eq_true rfl⟩) hP hD hS hA [1] [0] rfl rfl rfl (by decide) [0, 1] rfl (fun _ : Unit => [(h0, .inr (0, [.ref h1, .ref h2, .ref h3])), (h2, .inl (cB, 16, .inl (wrB (wrB (wrB (wrB fb 0 v1) 4 v2) 8 v3) 12 v4)))]) (fun _ => rfl) (fun _ H locs hP hD hS => ?_)
  exact W.vret hx hb hr (fun t ht hW => ⟨⟨(), rfl, trivial, by rw [ht]; exact hP, hD⟩, hS.F ht⟩) hS.2.2 dX0_block_39
set_option maxHeartbeats 4000000 in
set_option maxRecDepth 100000 in
theorem metX0_again (l : Launch) (D : va_G) (cB cI : ClassId) (sz : Nat) (h0 h1 h2 h3 : Nat) (fb fo : Nat → Int32) : Met l yX0_again (ws_ yX0_again cX0_again 2 none) ({ frames := 0, cells := 0, slots := 0, locals := 0 } : Room) (PreE D cB cI [.ref h0] sz [(h0, .inr (0, [.ref h1, .ref h2, .ref h3])), (h2, .inl (cB, 16, .inl fb)), (h3, .inl (cB, 16, .inl fo))]) (PostV D (va_A [(h0, .inr (0, [.ref h1, .ref h2, .ref h3])), (h2, .inl (cB, 16, .inl fb)), (h3, .inl (cB, 16, .inl fo))] sz) (fun _ : Unit => [(h0, .inr (0, [.ref h1, .ref h2, .ref h3])), (h2, .inl (cB, 16, .inl (cpB fo fb 16))), (h3, .inl (cB, 16, .inl fo))])) 0 0 (va_A [(h0, .inr (0, [.ref h1, .ref h2, .ref h3])), (h2, .inl (cB, 16, .inl fb)), (h3, .inl (cB, 16, .inl fo))] sz) := by
  refine Met.ofW (cc := cX0_again) (maxL := 2) (ret := none) (by decide) rfl ?_
  intro p e s m args below meth c s₁ B hml hv
  obtain ⟨rfl, hsz, hP, hD0, hE⟩ := hv
  have hx := B.exec
  have hb := B.bytes
  have hr := B.returns
  have hts := atoms_spec (ws := ws_ yX0_again cX0_again 2 none) B.pre
  have hts : ∀ w ∈ lw_all, w.before _ s = true := fun w h => hts w (List.mem_cons_of_mem _ h)
  have hown : s.vm.findClass RX0 = some m.cls := findClass_of_methodNamed B.named
  have hlocks := B.notSynchronized
  subst hsz
  have hD := hD0.self (sz := s.heap.size)
  generalize hAe : va_A [(h0, .inr (0, [.ref h1, .ref h2, .ref h3])), (h2, .inl (cB, 16, .inl fb)), (h3, .inl (cB, 16, .inl fo))] s.heap.size = A at hD hE ⊢
  have hA : ∀ q : Nat, s.heap.size ≤ q → A q := fun q h => by rw [← hAe]; exact Or.inr h
  have hS : va_S A s.heap s.heap [] := va_S.rf
  have hK := hE.1
  have hP : va_P D vwCl [(h0, .inr (0, [.ref h1, .ref h2, .ref h3])), (h2, .inl (cB, 16, .inl fb)), (h3, .inl (cB, 16, .inl fo))] s.heap := hP
  have hl := lv_entry ([.ref h0]) (n := 2) (Nat.le_of_ble_eq_true rfl)
  rw [lg_entry_eq]
  generalize (lg_sl ([.ref h0]) ++ List.replicate (2 - (lg_sl ([.ref h0])).length) Slot.unset).toArray = ls at hl ⊢
  have hl : lv_has ls 2 [(0, .ref h0)] := hl
  refine lv_iconst (v := 0) hx hb dX0_again_0 (by decide) ?_
  refine lv_istore_n (lv' := [(1, .int 0), (0, .ref h0)]) hx hb dX0_again_1 rfl hl (by decide) rfl (fun ls hl => ?_)
  have loop : ∀ (n i : Nat), i + n = 16 → ∀ (H : Heap) (locs : List Loc) (ls : Array Slot), va_P D vwCl [(h0, .inr (0, [.ref h1, .ref h2, .ref h3])), (h2, .inl (cB, 16, .inl (cpB fo fb i))), (h3, .inl (cB, 16, .inl fo))] H → va_D A [(h0, .inr (0, [.ref h1, .ref h2, .ref h3])), (h2, .inl (cB, 16, .inl (cpB fo fb i))), (h3, .inl (cB, 16, .inl fo))] → va_S A s.heap H locs → lv_has ls 2 [(1, .int (nI i)), (0, .ref h0)] → W p l e (headSpec (ws_ yX0_again cX0_again 2 none) ({ frames := 0, cells := 0, slots := 0, locals := 0 } : Room)).room s m ([.ref h0] : List Value).toArray below meth c H locs 0 0 (MQ below (PostV D A (fun _ : Unit => [(h0, .inr (0, [.ref h1, .ref h2, .ref h3])), (h2, .inl (cB, 16, .inl (cpB fo fb 16))), (h3, .inl (cB, 16, .inl fo))])) ([.ref h0] : List Value).toArray s 0 0 A) (F0 m 2 ls []) := by
    intro n
    induction n with
    | zero =>
      intro i hi H locs ls hP hD hS hl
      have hi6 : i = 16 := by omega
      subst hi6
      refine lv_iload_n hx hb dX0_again_2 rfl (lv_at hl 0 rfl) ?_
      refine lv_bipush (v := 16) hx hb dX0_again_3 (by decide) ?_
      refine lv_icmp_ge (tgt := 26) hx hb dX0_again_5 (by decide) (fun _ => ?_) (fun c9 => absurd (nI_le (Nat.le_refl 16) (by omega)) c9)
      exact W.vret hx hb hr (fun t ht hW => ⟨⟨(), rfl, trivial, by rw [ht]; exact hP, hD⟩, hS.F ht⟩) hS.2.2 dX0_again_26
    | succ n ih =>
      intro i hi H locs ls hP hD hS hl
      refine lv_iload_n hx hb dX0_again_2 rfl (lv_at hl 0 rfl) ?_
      refine lv_bipush (v := 16) hx hb dX0_again_3 (by decide) ?_
      refine lv_icmp_ge (tgt := 26) hx hb dX0_again_5 (by decide) (fun c9 => absurd c9 (nI_ge (a := i) (b := 16) (by omega) (by omega))) (fun _ => ?_)
      refine lv_aload_n hx hb dX0_again_8 rfl (lv_at hl 1 rfl) ?_
      refine va_get (D := D) (ci := 0) (v := .ref h2) (C := RX0) (T := TX0) (N := 3) hx hb hts in_X0 hown hK hP 0 rfl rfl 1 (by decide) (hts _ q32) (fun _ h9 => h9) rfl dX0_again_9 ?_
      refine lv_iload_n hx hb dX0_again_12 rfl (lv_at hl 0 rfl) ?_
      refine lv_aload_n hx hb dX0_again_13 rfl (lv_at hl 1 rfl) ?_
      refine va_get (D := D) (ci := 0) (v := .ref h3) (C := RX0) (T := TX0) (N := 3) hx hb hts in_X0 hown hK hP 0 rfl rfl 2 (by decide) (hts _ q33) (fun _ h9 => h9) rfl dX0_again_14 ?_
      refine lv_iload_n hx hb dX0_again_17 rfl (lv_at hl 0 rfl) ?_
      refine k_bald (v := fo i) hx hb hK hP 2 rfl i rfl (by omega) (Nat.le_of_ble_eq_true rfl) rfl dX0_again_18 ?_
      refine k_bast (f' := cpB fo fb (i + 1)) (w2 := [(h0, .inr (0, [.ref h1, .ref h2, .ref h3])), (h2, .inl (cB, 16, .inl (cpB fo fb (i + 1)))), (h3, .inl (cB, 16, .inl fo))]) hx hb hK hP hD hS 1 rfl i rfl (by omega) (Nat.le_of_ble_eq_true rfl) (cpB_s fo fb i) dX0_again_19 rfl (fun H locs hP hD hS => ?_)
      refine lv_iinc (v := nI (i + 1)) (lv' := [(1, .int (nI (i + 1))), (0, .ref h0)]) hx hb dX0_again_20 hl (k := 0) rfl (nI_add _ 1) (by decide) rfl (fun ls hl => ?_)
      refine lv_goto (tgt := 2) hx hb dX0_again_23 (by decide) ?_
      exact ih (i + 1) (by omega) H locs ls hP hD hS (lv_sub hl [0, 1] rfl)
  exact loop 16 0 (by omega) s.heap [] ls (by rw [cpB_0]; exact hP) (by rw [cpB_0]; exact hD) hS (lv_sub hl [0, 1] rfl)
set_option maxHeartbeats 4000000 in
set_option maxRecDepth 100000 in
theorem metX0_out (l : Launch) (D : va_G) (cB cI : ClassId) (sz : Nat) (h0 h1 h2 h3 : Nat) (fo : Nat → Int32) (x : Int32) (j : Nat) (hj : j < 16) (ej : x &&& 15 = nI j) : Met l yX0_out (ws_ yX0_out cX0_out 2 (some .int)) ({ frames := 0, cells := 0, slots := 0, locals := 0 } : Room) (PreE D cB cI [.ref h0, .int x] sz [(h0, .inr (0, [.ref h1, .ref h2, .ref h3])), (h3, .inl (cB, 16, .inl fo))]) (vp_Si (fun r : Int32 => r = fo j &&& 255)) 0 0 (fun _ => False) := by
  refine Met.ofW (cc := cX0_out) (maxL := 2) (ret := (some .int)) (by decide) rfl ?_
  intro p e s m args below meth c s₁ B hml hv
  obtain ⟨rfl, hsz, hP, hD0, hE⟩ := hv
  have hx := B.exec
  have hb := B.bytes
  have hr := B.returns
  have hts := atoms_spec (ws := ws_ yX0_out cX0_out 2 (some .int)) B.pre
  have hts : ∀ w ∈ lw_all, w.before _ s = true := fun w h => hts w (List.mem_cons_of_mem _ h)
  have hown : s.vm.findClass RX0 = some m.cls := findClass_of_methodNamed B.named
  have hlocks := B.notSynchronized
  subst hsz
  have hD := hD0.self (sz := s.heap.size)
  generalize hAe : va_A [(h0, .inr (0, [.ref h1, .ref h2, .ref h3])), (h3, .inl (cB, 16, .inl fo))] s.heap.size = A at hD hE ⊢
  have hA : ∀ q : Nat, s.heap.size ≤ q → A q := fun q h => by rw [← hAe]; exact Or.inr h
  have hS : va_S A s.heap s.heap [] := va_S.rf
  have hK := hE.1
  have hP : va_P D vwCl [(h0, .inr (0, [.ref h1, .ref h2, .ref h3])), (h3, .inl (cB, 16, .inl fo))] s.heap := hP
  have hl := lv_entry ([.ref h0, .int x]) (n := 2) (Nat.le_of_ble_eq_true rfl)
  rw [lg_entry_eq]
  generalize (lg_sl ([.ref h0, .int x]) ++ List.replicate (2 - (lg_sl ([.ref h0, .int x])).length) Slot.unset).toArray = ls at hl ⊢
  have hl : lv_has ls 2 [(0, .ref h0), (1, .int x)] := hl
  refine lv_aload_n hx hb dX0_out_0 rfl (lv_at hl 0 rfl) ?_
  refine va_get (D := D) (ci := 0) (v := .ref h3) (C := RX0) (T := TX0) (N := 3) hx hb hts in_X0 hown hK hP 0 rfl rfl 2 (by decide) (hts _ q33) (fun _ h9 => h9) rfl dX0_out_1 ?_
  refine lv_iload_n hx hb dX0_out_4 rfl (lv_at hl 1 rfl) ?_
  refine lv_bipush (v := 15) hx hb dX0_out_5 (by decide) ?_
  refine lv_iand hx hb dX0_out_7 ?_
  refine lv_asi (y := nI j) ej ?_
  refine k_bald (v := fo j) hx hb hK hP 1 rfl j rfl (by omega) (Nat.le_of_ble_eq_true rfl) rfl dX0_out_8 ?_
  refine lv_sipush (v := 255) hx hb dX0_out_9 (by decide) ?_
  refine lv_iand hx hb dX0_out_12 ?_
  exact W.iret (v := fo j &&& 255) hx hb hr (fun t ht hW => ⟨_, rfl, rfl, ht⟩) (fun q hq => by cases hq) dX0_out_13
end
section
set_option maxHeartbeats 4000000 in
set_option maxRecDepth 100000 in
theorem metX0_run_1 (l : Launch) (D : va_G) (cB cI : ClassId) (sz : Nat) (h0 h1 h2 h3 : Nat) (fk fb fo : Nat → Int32) (kd : Int32) : Met l yX0_run (ws_ yX0_run cX0_run 6 none) ({ frames := 4, cells := 5, slots := 40, locals := 240 } : Room) (PreE D cB cI [.ref h0, .int 1, .int kd] sz [(h0, .inr (0, [.ref h1, .ref h2, .ref h3])), (h1, .inl (cB, 32, .inl fk)), (h2, .inl (cB, 16, .inl fb)), (h3, .inl (cB, 16, .inl fo))]) (PostV D (va_A [(h0, .inr (0, [.ref h1, .ref h2, .ref h3])), (h1, .inl (cB, 32, .inl fk)), (h2, .inl (cB, 16, .inl fb)), (h3, .inl (cB, 16, .inl fo))] sz) (fun _ : Unit => [(h0, .inr (0, [.ref h1, .ref h2, .ref h3])), (h1, .inl (cB, 32, .inl fk)), (h2, .inl (cB, 16, .inl fb)), (h3, .inl (cB, 16, .inl (itQ fo (enF (beQ (kcB fk)) (beQ fb)))))])) 5 40 (va_A [(h0, .inr (0, [.ref h1, .ref h2, .ref h3])), (h1, .inl (cB, 32, .inl fk)), (h2, .inl (cB, 16, .inl fb)), (h3, .inl (cB, 16, .inl fo))] sz) := by
  refine Met.ofW (cc := cX0_run) (maxL := 6) (ret := none) (by decide) rfl ?_
  intro p e s m args below meth c s₁ B hml hv
  obtain ⟨rfl, hsz, hP, hD0, hE⟩ := hv
  have hx := B.exec
  have hb := B.bytes
  have hr := B.returns
  have hts := atoms_spec (ws := ws_ yX0_run cX0_run 6 none) B.pre
  have hts : ∀ w ∈ lw_all, w.before _ s = true := fun w h => hts w (List.mem_cons_of_mem _ h)
  have hown : s.vm.findClass RX0 = some m.cls := findClass_of_methodNamed B.named
  have hlocks := B.notSynchronized
  subst hsz
  have hD := hD0.self (sz := s.heap.size)
  generalize hAe : va_A [(h0, .inr (0, [.ref h1, .ref h2, .ref h3])), (h1, .inl (cB, 32, .inl fk)), (h2, .inl (cB, 16, .inl fb)), (h3, .inl (cB, 16, .inl fo))] s.heap.size = A at hD hE ⊢
  have hA : ∀ q : Nat, s.heap.size ≤ q → A q := fun q h => by rw [← hAe]; exact Or.inr h
  have hS : va_S A s.heap s.heap [] := va_S.rf
  have hK := hE.1
  have hP : va_P D vwCl [(h0, .inr (0, [.ref h1, .ref h2, .ref h3])), (h1, .inl (cB, 32, .inl fk)), (h2, .inl (cB, 16, .inl fb)), (h3, .inl (cB, 16, .inl fo))] s.heap := hP
  have hl := lv_entry ([.ref h0, .int 1, .int kd]) (n := 6) (Nat.le_of_ble_eq_true rfl)
  rw [lg_entry_eq]
  generalize (lg_sl ([.ref h0, .int 1, .int kd]) ++ List.replicate (6 - (lg_sl ([.ref h0, .int 1, .int kd])).length) Slot.unset).toArray = ls at hl ⊢
  have hl : lv_has ls 6 [(0, .ref h0), (1, .int 1), (2, .int kd)] := hl
  refine lv_iload_n hx hb dX0_run_0 rfl (lv_at hl 2 rfl) ?_
  refine lv_iconst (v := 3) hx hb dX0_run_1 (by decide) ?_
  refine lv_iand hx hb dX0_run_2 ?_
  refine vp_callSi (va_Run.run (va_runS (As := [.int (kd &&& 3)]) (rest := []) ⟨hx, hb, hml, hown, hts⟩ (metX0_size l (kd &&& 3)) (va_cwS 1 hts (lw_S q61 q62 q7 q63) rfl rfl rfl (by decide +kernel) ⟨Nat.le_of_ble_eq_true rfl, Nat.le_of_ble_eq_true rfl⟩) ⟨fun _ _ _ _ h => h, fun _ _ _ => ⟨rfl, trivial⟩⟩ rfl rfl hl.1 rfl (lv_room (Nat.le_of_ble_eq_true rfl)) dX0_run_3 ⟨Nat.le_of_ble_eq_true rfl, Nat.le_of_ble_eq_true rfl⟩)) (fun r9 (e9 : r9 = 16) => ?_)
  subst e9
  refine lv_istore_n (lv' := [(3, .int 16), (0, .ref h0), (1, .int 1), (2, .int kd)]) hx hb dX0_run_6 rfl hl (by decide) rfl (fun ls hl => ?_)
  refine lv_iload_n hx hb dX0_run_7 rfl (lv_at hl 0 rfl) ?_
  refine k_newb hx hb (hts _ q41) hK hP hD hS hA 16 rfl (Nat.le_of_ble_eq_true rfl) (Nat.le_of_ble_eq_true rfl) (Nat.le_of_ble_eq_true rfl) dX0_run_8 (fun n1 H hP hD hS => ?_)
  have hP : va_P D vwCl [(h0, .inr (0, [.ref h1, .ref h2, .ref h3])), (h1, .inl (cB, 32, .inl fk)), (h2, .inl (cB, 16, .inl fb)), (h3, .inl (cB, 16, .inl fo)), (n1, .inl (cB, 16, .inl (fun _ => 0)))] H := hP
  have hD : va_D A [(h0, .inr (0, [.ref h1, .ref h2, .ref h3])), (h1, .inl (cB, 32, .inl fk)), (h2, .inl (cB, 16, .inl fb)), (h3, .inl (cB, 16, .inl fo)), (n1, .inl (cB, 16, .inl (fun _ => 0)))] := hD
  refine W.widen (k := 1) (n := 16) (Nat.le_refl _) (Nat.le_refl _) ?_
  refine lv_astore (lv' := [(4, .ref n1), (3, .int 16), (0, .ref h0), (1, .int 1), (2, .int kd)]) hx hb dX0_run_10 hl (by decide) rfl (fun ls hl => ?_)
  refine lv_iconst (v := 0) hx hb dX0_run_12 (by decide) ?_
  refine lv_istore (lv' := [(5, .int 0), (4, .ref n1), (3, .int 16), (0, .ref h0), (1, .int 1), (2, .int kd)]) hx hb dX0_run_13 hl (by decide) rfl (fun ls hl => ?_)
  have loop : ∀ (n i : Nat), i + n = 16 → ∀ (H : Heap) (locs : List Loc) (ls : Array Slot), va_P D vwCl [(h0, .inr (0, [.ref h1, .ref h2, .ref h3])), (h1, .inl (cB, 32, .inl fk)), (h2, .inl (cB, 16, .inl fb)), (h3, .inl (cB, 16, .inl fo)), (n1, .inl (cB, 16, .inl (cpB fk (fun _ => 0) i)))] H → va_D A [(h0, .inr (0, [.ref h1, .ref h2, .ref h3])), (h1, .inl (cB, 32, .inl fk)), (h2, .inl (cB, 16, .inl fb)), (h3, .inl (cB, 16, .inl fo)), (n1, .inl (cB, 16, .inl (cpB fk (fun _ => 0) i)))] → va_S A s.heap H locs → lv_has ls 6 [(5, .int (nI i)), (4, .ref n1), (3, .int 16), (2, .int kd), (1, .int 1), (0, .ref h0)] → W p l e (headSpec (ws_ yX0_run cX0_run 6 none) ({ frames := 4, cells := 5, slots := 40, locals := 240 } : Room)).room s m ([.ref h0, .int 1, .int kd] : List Value).toArray below meth c H locs 1 16 (MQ below (PostV D A (fun _ : Unit => [(h0, .inr (0, [.ref h1, .ref h2, .ref h3])), (h1, .inl (cB, 32, .inl fk)), (h2, .inl (cB, 16, .inl fb)), (h3, .inl (cB, 16, .inl (itQ fo (enF (beQ (kcB fk)) (beQ fb)))))])) ([.ref h0, .int 1, .int kd] : List Value).toArray s 5 40 A) (F0 m 15 ls []) := by
    intro n
    induction n with
    | zero =>
      intro i hi H locs ls hP hD hS hl
      have hi6 : i = 16 := by omega
      subst hi6
      refine lv_iload hx hb dX0_run_15 (lv_at hl 0 rfl) ?_
      refine lv_iload_n hx hb dX0_run_17 rfl (lv_at hl 2 rfl) ?_
      refine lv_icmp_ge (tgt := 39) hx hb dX0_run_18 (by decide) (fun _ => ?_) (fun c9 => absurd (nI_le (Nat.le_refl 16) (by omega)) c9)
      refine va_new (D := D) (ci := 2) (fs := [.null, .int 0, .int 0]) (C := RX2) (T := TX2) (N := 3) hx hb hts in_X2 tyX2 tyX2_ok hown (hts _ q64) (hts _ q65) (hts _ q9) hK hP hD hS hA rfl (fun j hj => by rcases (show j = 0 ∨ j = 1 ∨ j = 2 by omega) with rfl | rfl | rfl <;> rfl) (Nat.le_of_ble_eq_true rfl) (Nat.le_of_ble_eq_true rfl) dX0_run_39 (fun n2 H hP hD hS => ?_)
      have hP : va_P D vwCl [(h0, .inr (0, [.ref h1, .ref h2, .ref h3])), (h1, .inl (cB, 32, .inl fk)), (h2, .inl (cB, 16, .inl fb)), (h3, .inl (cB, 16, .inl fo)), (n1, .inl (cB, 16, .inl (cpB fk (fun _ => 0) 16))), (n2, .inr (2, [.null, .int 0, .int 0]))] H := hP
      have hD : va_D A [(h0, .inr (0, [.ref h1, .ref h2, .ref h3])), (h1, .inl (cB, 32, .inl fk)), (h2, .inl (cB, 16, .inl fb)), (h3, .inl (cB, 16, .inl fo)), (n1, .inl (cB, 16, .inl (cpB fk (fun _ => 0) 16))), (n2, .inr (2, [.null, .int 0, .int 0]))] := hD
      refine W.widen (k := 2) (n := 19) (Nat.le_refl _) (Nat.le_refl _) ?_
      refine lv_dup hx hb dX0_run_42 rfl ?_
      refine k_v (D := D) (wc := [(n2, .inr (2, [.null, .int 0, .int 0]))]) (wr := [(h0, .inr (0, [.ref h1, .ref h2, .ref h3])), (h1, .inl (cB, 32, .inl fk)), (h2, .inl (cB, 16, .inl fb)), (h3, .inl (cB, 16, .inl fo)), (n1, .inl (cB, 16, .inl (cpB fk (fun _ => 0) 16)))]) (va_runI (As := []) (rest := [.ref n2]) ⟨hx, hb, hml, hown, hts⟩ (metX2_init l D cB cI H.size n2) (cwI 0 hts (lw_meth q68) rfl rfl rfl (hts _ q9) (hts _ q66) (hts _ q67) rfl (by decide +kernel) ⟨Nat.le_of_ble_eq_true rfl, Nat.le_of_ble_eq_true rfl⟩) ⟨PreE.blind, preE hE hP hD hS hA [5] rfl rfl⟩ rfl rfl hl.1 rfl (lv_room (Nat.le_of_ble_eq_true rfl)) dX0_run_43 ⟨Nat.le_of_ble_eq_true rfl, Nat.le_of_ble_eq_true rfl⟩) hP hD hS hA [5] [0, 1, 2, 3, 4] rfl rfl rfl (by decide) [0, 1, 2, 3, 4, 5, 6] rfl (fun u : Nat => [(h0, .inr (0, [.ref h1, .ref h2, .ref h3])), (h1, .inl (cB, 32, .inl fk)), (h2, .inl (cB, 16, .inl fb)), (h3, .inl (cB, 16, .inl fo)), (n1, .inl (cB, 16, .inl (cpB fk (fun _ => 0) 16))), (n2, .inr (2, [.ref u, .int 0, .int 0])), (u, .inl (cI, 4, .inl (qf (0, 0, 0, 0))))]) (fun _ => rfl) (fun u H locs hP hD hS => ?_)
      refine W.widen (k := 3) (n := 23) (Nat.le_refl _) (Nat.le_refl _) ?_
      obtain ⟨q1, rfl⟩ : ∃ z, z = u := ⟨_, rfl⟩
      have hP : va_P D vwCl [(h0, .inr (0, [.ref h1, .ref h2, .ref h3])), (h1, .inl (cB, 32, .inl fk)), (h2, .inl (cB, 16, .inl fb)), (h3, .inl (cB, 16, .inl fo)), (n1, .inl (cB, 16, .inl (cpB fk (fun _ => 0) 16))), (n2, .inr (2, [.ref q1, .int 0, .int 0])), (q1, .inl (cI, 4, .inl (qf (0, 0, 0, 0))))] H := hP
      have hD : va_D A [(h0, .inr (0, [.ref h1, .ref h2, .ref h3])), (h1, .inl (cB, 32, .inl fk)), (h2, .inl (cB, 16, .inl fb)), (h3, .inl (cB, 16, .inl fo)), (n1, .inl (cB, 16, .inl (cpB fk (fun _ => 0) 16))), (n2, .inr (2, [.ref q1, .int 0, .int 0])), (q1, .inl (cI, 4, .inl (qf (0, 0, 0, 0))))] := hD
      refine lv_astore (lv' := [(5, .ref n2), (4, .ref n1), (3, .int 16), (2, .int kd), (1, .int 1), (0, .ref h0)]) hx hb dX0_run_46 hl (by decide) rfl (fun ls hl => ?_)
      refine lv_aload hx hb dX0_run_48 (lv_at hl 0 rfl) ?_
      refine lv_iload_n hx hb dX0_run_50 rfl (lv_at hl 4 rfl) ?_
      refine va_new (D := D) (ci := 3) (fs := [.null]) (C := RX3) (T := TX3) (N := 1) hx hb hts in_X3 tyX3 tyX3_ok hown (hts _ q81) (hts _ q82) (hts _ q10) hK hP hD hS hA rfl (fun j hj => by rcases (show j = 0 by omega) with rfl <;> rfl) (Nat.le_of_ble_eq_true rfl) (Nat.le_of_ble_eq_true rfl) dX0_run_51 (fun n3 H hP hD hS => ?_)
      have hP : va_P D vwCl [(h0, .inr (0, [.ref h1, .ref h2, .ref h3])), (h1, .inl (cB, 32, .inl fk)), (h2, .inl (cB, 16, .inl fb)), (h3, .inl (cB, 16, .inl fo)), (n1, .inl (cB, 16, .inl (cpB fk (fun _ => 0) 16))), (n2, .inr (2, [.ref q1, .int 0, .int 0])), (q1, .inl (cI, 4, .inl (qf (0, 0, 0, 0)))), (n3, .inr (3, [.null]))] H := hP
      have hD : va_D A [(h0, .inr (0, [.ref h1, .ref h2, .ref h3])), (h1, .inl (cB, 32, .inl fk)), (h2, .inl (cB, 16, .inl fb)), (h3, .inl (cB, 16, .inl fo)), (n1, .inl (cB, 16, .inl (cpB fk (fun _ => 0) 16))), (n2, .inr (2, [.ref q1, .int 0, .int 0])), (q1, .inl (cI, 4, .inl (qf (0, 0, 0, 0)))), (n3, .inr (3, [.null]))] := hD
      refine W.widen (k := 4) (n := 24) (Nat.le_refl _) (Nat.le_refl _) ?_
      refine lv_dup hx hb dX0_run_54 rfl ?_
      refine lv_aload hx hb dX0_run_55 (lv_at hl 1 rfl) ?_
      refine k_v (D := D) (wc := [(n3, .inr (3, [.null])), (n1, .inl (cB, 16, .inl (cpB fk (fun _ => 0) 16)))]) (wr := [(h0, .inr (0, [.ref h1, .ref h2, .ref h3])), (h1, .inl (cB, 32, .inl fk)), (h2, .inl (cB, 16, .inl fb)), (h3, .inl (cB, 16, .inl fo)), (n2, .inr (2, [.ref q1, .int 0, .int 0])), (q1, .inl (cI, 4, .inl (qf (0, 0, 0, 0))))]) (va_runI (As := [.ref n1]) (rest := [.ref n3, .int 1, .ref n2]) ⟨hx, hb, hml, hown, hts⟩ (metX3_init l D cB cI H.size n3 n1 (cpB fk (fun _ => 0) 16) (fun j hj => cpB_fit _ _ _ j hj)) (cwI 1 hts (lw_meth q85) rfl rfl rfl (hts _ q10) (hts _ q83) (hts _ q84) rfl (by decide +kernel) ⟨Nat.le_of_ble_eq_true rfl, Nat.le_of_ble_eq_true rfl⟩) ⟨PreE.blind, preE hE hP hD hS hA [7, 4] rfl rfl⟩ rfl rfl hl.1 rfl (lv_room (Nat.le_of_ble_eq_true rfl)) dX0_run_57 ⟨Nat.le_of_ble_eq_true rfl, Nat.le_of_ble_eq_true rfl⟩) hP hD hS hA [7, 4] [0, 1, 2, 3, 5, 6] rfl rfl rfl (by decide) [0, 1, 2, 3, 7, 4, 5, 6, 8] rfl (fun u : Nat => [(h0, .inr (0, [.ref h1, .ref h2, .ref h3])), (h1, .inl (cB, 32, .inl fk)), (h2, .inl (cB, 16, .inl fb)), (h3, .inl (cB, 16, .inl fo)), (n1, .inl (cB, 16, .inl (cpB fk (fun _ => 0) 16))), (n2, .inr (2, [.ref q1, .int 0, .int 0])), (q1, .inl (cI, 4, .inl (qf (0, 0, 0, 0)))), (n3, .inr (3, [.ref u])), (u, .inl (cB, 16, .inl (kcB fk)))]) (fun _ => rfl) (fun u H locs hP hD hS => ?_)
      refine W.widen (k := 5) (n := 40) (Nat.le_refl _) (Nat.le_refl _) ?_
      obtain ⟨q2, rfl⟩ : ∃ z, z = u := ⟨_, rfl⟩
      have hP : va_P D vwCl [(h0, .inr (0, [.ref h1, .ref h2, .ref h3])), (h1, .inl (cB, 32, .inl fk)), (h2, .inl (cB, 16, .inl fb)), (h3, .inl (cB, 16, .inl fo)), (n1, .inl (cB, 16, .inl (cpB fk (fun _ => 0) 16))), (n2, .inr (2, [.ref q1, .int 0, .int 0])), (q1, .inl (cI, 4, .inl (qf (0, 0, 0, 0)))), (n3, .inr (3, [.ref q2])), (q2, .inl (cB, 16, .inl (kcB fk)))] H := hP
      have hD : va_D A [(h0, .inr (0, [.ref h1, .ref h2, .ref h3])), (h1, .inl (cB, 32, .inl fk)), (h2, .inl (cB, 16, .inl fb)), (h3, .inl (cB, 16, .inl fo)), (n1, .inl (cB, 16, .inl (cpB fk (fun _ => 0) 16))), (n2, .inr (2, [.ref q1, .int 0, .int 0])), (q1, .inl (cI, 4, .inl (qf (0, 0, 0, 0)))), (n3, .inr (3, [.ref q2])), (q2, .inl (cB, 16, .inl (kcB fk)))] := hD
      refine k_vF (D := D) (wc := [(n2, .inr (2, [.ref q1, .int 0, .int 0])), (q1, .inl (cI, 4, .inl (qf (0, 0, 0, 0)))), (n3, .inr (3, [.ref q2])), (q2, .inl (cB, 16, .inl (kcB fk)))]) (wr := [(h0, .inr (0, [.ref h1, .ref h2, .ref h3])), (h1, .inl (cB, 32, .inl fk)), (h2, .inl (cB, 16, .inl fb)), (h3, .inl (cB, 16, .inl fo)), (n1, .inl (cB, 16, .inl (cpB fk (fun _ => 0) 16)))]) (va_runF (As := [.int 1, .ref n3]) (rest := []) (hK.1 2 _ rfl).2 ⟨hx, hb, hml, hown, hts⟩ (metX2_init_2_1 l D cB cI H.size n2 q1 n3 q2 (kcB fk)) (va_cwF 2 hts (lw_F q101 q105 q107 q9 q109) rfl rfl rfl hE.2.2.1 (by decide +kernel) ⟨Nat.le_of_ble_eq_true rfl, Nat.le_of_ble_eq_true rfl⟩) ⟨PreE.blind, va_recv hK hP (ci := 2) (q0 := 5) rfl rfl, preE hE hP hD hS hA [5, 6, 7, 8] rfl rfl⟩ rfl rfl hl.1 rfl (lv_room (Nat.le_of_ble_eq_true rfl)) dX0_run_60 ⟨Nat.le_of_ble_eq_true rfl, Nat.le_of_ble_eq_true rfl⟩) hP hD hS hA [5, 6, 7, 8] [0, 1, 2, 3, 4] rfl rfl rfl (by decide) [0, 1, 2, 3, 4, 5, 6, 7, 8] rfl (fun _ : Unit => [(h0, .inr (0, [.ref h1, .ref h2, .ref h3])), (h1, .inl (cB, 32, .inl fk)), (h2, .inl (cB, 16, .inl fb)), (h3, .inl (cB, 16, .inl fo)), (n1, .inl (cB, 16, .inl (cpB fk (fun _ => 0) 16))), (n2, .inr (2, [.ref q1, .int 1, .int 1])), (q1, .inl (cI, 4, .inl (qf (beQ (kcB fk))))), (n3, .inr (3, [.ref q2])), (q2, .inl (cB, 16, .inl (kcB fk)))]) (fun _ => rfl) (fun _ H locs hP hD hS => ?_)
      refine lv_aload hx hb dX0_run_65 (lv_at hl 0 rfl) ?_
      refine lv_aload_n hx hb dX0_run_67 rfl (lv_at hl 5 rfl) ?_
      refine va_get (D := D) (ci := 0) (v := .ref h2) (C := RX0) (T := TX0) (N := 3) hx hb hts in_X0 hown hK hP 0 rfl rfl 1 (by decide) (hts _ q32) (fun _ h9 => h9) rfl dX0_run_68 ?_
      refine lv_iconst (v := 0) hx hb dX0_run_71 (by decide) ?_
      refine lv_aload_n hx hb dX0_run_72 rfl (lv_at hl 5 rfl) ?_
      refine va_get (D := D) (ci := 0) (v := .ref h3) (C := RX0) (T := TX0) (N := 3) hx hb hts in_X0 hown hK hP 0 rfl rfl 2 (by decide) (hts _ q33) (fun _ h9 => h9) rfl dX0_run_73 ?_
      refine lv_iconst (v := 0) hx hb dX0_run_76 (by decide) ?_
      refine k_iF (D := D) (wc := [(n2, .inr (2, [.ref q1, .int 1, .int 1])), (q1, .inl (cI, 4, .inl (qf (beQ (kcB fk))))), (h2, .inl (cB, 16, .inl fb)), (h3, .inl (cB, 16, .inl fo))]) (wr := [(h0, .inr (0, [.ref h1, .ref h2, .ref h3])), (h1, .inl (cB, 32, .inl fk)), (n1, .inl (cB, 16, .inl (cpB fk (fun _ => 0) 16))), (n3, .inr (3, [.ref q2])), (q2, .inl (cB, 16, .inl (kcB fk)))]) (va_runF (As := [.ref h2, .int 0, .ref h3, .int 0]) (rest := []) (hK.1 2 _ rfl).2 ⟨hx, hb, hml, hown, hts⟩ (metX2_processBlock_1 l D cB cI H.size n2 q1 h2 h3 (beQ (kcB fk)) fb fo) (va_cwF 4 hts (lw_F q197 q200 q202 q9 q204) rfl rfl rfl hE.2.2.2 (by decide +kernel) ⟨Nat.le_of_ble_eq_true rfl, Nat.le_of_ble_eq_true rfl⟩) ⟨PreE.blind, va_recv hK hP (ci := 2) (q0 := 5) rfl rfl, preE hE hP hD hS hA [5, 6, 2, 3] rfl rfl⟩ rfl rfl hl.1 rfl (lv_room (Nat.le_of_ble_eq_true rfl)) dX0_run_77 ⟨Nat.le_of_ble_eq_true rfl, Nat.le_of_ble_eq_true rfl⟩) hP hD hS hA [5, 6, 2, 3] [0, 1, 4, 7, 8] rfl rfl rfl (by decide) [0, 1, 7, 8, 2, 5, 6, 3, 4] rfl (fun _ : Unit => [(h0, .inr (0, [.ref h1, .ref h2, .ref h3])), (h1, .inl (cB, 32, .inl fk)), (h2, .inl (cB, 16, .inl fb)), (h3, .inl (cB, 16, .inl (itQ fo (enF (beQ (kcB fk)) (beQ fb))))), (n1, .inl (cB, 16, .inl (cpB fk (fun _ => 0) 16))), (n2, .inr (2, [.ref q1, .int 1, .int 1])), (q1, .inl (cI, 4, .inl (qf (beQ (kcB fk))))), (n3, .inr (3, [.ref q2])), (q2, .inl (cB, 16, .inl (kcB fk)))]) (fun _ => rfl) (fun _ H locs hP hD hS => ?_)
      refine lv_pop hx hb dX0_run_82 rfl ?_
      have hP := hP.sub (ws' := [(h0, .inr (0, [.ref h1, .ref h2, .ref h3])), (h1, .inl (cB, 32, .inl fk)), (h2, .inl (cB, 16, .inl fb)), (h3, .inl (cB, 16, .inl (itQ fo (enF (beQ (kcB fk)) (beQ fb)))))]) [0, 1, 2, 3] rfl
      have hD := hD.sub (ws' := [(h0, .inr (0, [.ref h1, .ref h2, .ref h3])), (h1, .inl (cB, 32, .inl fk)), (h2, .inl (cB, 16, .inl fb)), (h3, .inl (cB, 16, .inl (itQ fo (enF (beQ (kcB fk)) (beQ fb)))))]) [0, 1, 2, 3] rfl rfl
      exact W.vret hx hb hr (fun t ht hW => ⟨⟨(), rfl, trivial, by rw [ht]; exact hP, hD⟩, hS.F ht⟩) hS.2.2 dX0_run_83
    | succ n ih =>
      intro i hi H locs ls hP hD hS hl
      refine lv_iload hx hb dX0_run_15 (lv_at hl 0 rfl) ?_
      refine lv_iload_n hx hb dX0_run_17 rfl (lv_at hl 2 rfl) ?_
      refine lv_icmp_ge (tgt := 39) hx hb dX0_run_18 (by decide) (fun c9 => absurd c9 (nI_ge (a := i) (b := 16) (by omega) (by omega))) (fun _ => ?_)
      refine lv_aload hx hb dX0_run_21 (lv_at hl 1 rfl) ?_
      refine lv_iload hx hb dX0_run_23 (lv_at hl 0 rfl) ?_
      refine lv_aload_n hx hb dX0_run_25 rfl (lv_at hl 5 rfl) ?_
      refine va_get (D := D) (ci := 0) (v := .ref h1) (C := RX0) (T := TX0) (N := 3) hx hb hts in_X0 hown hK hP 0 rfl rfl 0 (by decide) (hts _ q31) (fun _ h9 => h9) rfl dX0_run_26 ?_
      refine lv_iload hx hb dX0_run_29 (lv_at hl 0 rfl) ?_
      refine k_bald (v := fk i) hx hb hK hP 1 rfl i rfl (by omega) (Nat.le_of_ble_eq_true rfl) rfl dX0_run_31 ?_
      refine k_bast (f' := cpB fk (fun _ => 0) (i + 1)) (w2 := [(h0, .inr (0, [.ref h1, .ref h2, .ref h3])), (h1, .inl (cB, 32, .inl fk)), (h2, .inl (cB, 16, .inl fb)), (h3, .inl (cB, 16, .inl fo)), (n1, .inl (cB, 16, .inl (cpB fk (fun _ => 0) (i + 1))))]) hx hb hK hP hD hS 4 rfl i rfl (by omega) (Nat.le_of_ble_eq_true rfl) (cpB_s fk (fun _ => 0) i) dX0_run_32 rfl (fun H locs hP hD hS => ?_)
      refine lv_iinc (v := nI (i + 1)) (lv' := [(5, .int (nI (i + 1))), (4, .ref n1), (3, .int 16), (2, .int kd), (1, .int 1), (0, .ref h0)]) hx hb dX0_run_33 hl (k := 0) rfl (nI_add _ 1) (by decide) rfl (fun ls hl => ?_)
      refine lv_goto (tgt := 15) hx hb dX0_run_36 (by decide) ?_
      exact ih (i + 1) (by omega) H locs ls hP hD hS (lv_sub hl [0, 1, 2, 3, 4, 5] rfl)
  exact loop 16 0 (by omega) H [] ls (by rw [cpB_0]; exact hP) (by rw [cpB_0]; exact hD) hS (lv_sub hl [0, 1, 2, 5, 4, 3] rfl)
set_option maxHeartbeats 4000000 in
set_option maxRecDepth 100000 in
theorem metX0_run_0 (l : Launch) (D : va_G) (cB cI : ClassId) (sz : Nat) (h0 h1 h2 h3 : Nat) (fk fb fo : Nat → Int32) (kd : Int32) : Met l yX0_run (ws_ yX0_run cX0_run 6 none) ({ frames := 4, cells := 5, slots := 40, locals := 240 } : Room) (PreE D cB cI [.ref h0, .int 0, .int kd] sz [(h0, .inr (0, [.ref h1, .ref h2, .ref h3])), (h1, .inl (cB, 32, .inl fk)), (h2, .inl (cB, 16, .inl fb)), (h3, .inl (cB, 16, .inl fo))]) (PostV D (va_A [(h0, .inr (0, [.ref h1, .ref h2, .ref h3])), (h1, .inl (cB, 32, .inl fk)), (h2, .inl (cB, 16, .inl fb)), (h3, .inl (cB, 16, .inl fo))] sz) (fun _ : Unit => [(h0, .inr (0, [.ref h1, .ref h2, .ref h3])), (h1, .inl (cB, 32, .inl fk)), (h2, .inl (cB, 16, .inl fb)), (h3, .inl (cB, 16, .inl (itQ fo (deF (thK (beQ (kcB fk))) (beQ fb)))))])) 5 40 (va_A [(h0, .inr (0, [.ref h1, .ref h2, .ref h3])), (h1, .inl (cB, 32, .inl fk)), (h2, .inl (cB, 16, .inl fb)), (h3, .inl (cB, 16, .inl fo))] sz) := by
  refine Met.ofW (cc := cX0_run) (maxL := 6) (ret := none) (by decide) rfl ?_
  intro p e s m args below meth c s₁ B hml hv
  obtain ⟨rfl, hsz, hP, hD0, hE⟩ := hv
  have hx := B.exec
  have hb := B.bytes
  have hr := B.returns
  have hts := atoms_spec (ws := ws_ yX0_run cX0_run 6 none) B.pre
  have hts : ∀ w ∈ lw_all, w.before _ s = true := fun w h => hts w (List.mem_cons_of_mem _ h)
  have hown : s.vm.findClass RX0 = some m.cls := findClass_of_methodNamed B.named
  have hlocks := B.notSynchronized
  subst hsz
  have hD := hD0.self (sz := s.heap.size)
  generalize hAe : va_A [(h0, .inr (0, [.ref h1, .ref h2, .ref h3])), (h1, .inl (cB, 32, .inl fk)), (h2, .inl (cB, 16, .inl fb)), (h3, .inl (cB, 16, .inl fo))] s.heap.size = A at hD hE ⊢
  have hA : ∀ q : Nat, s.heap.size ≤ q → A q := fun q h => by rw [← hAe]; exact Or.inr h
  have hS : va_S A s.heap s.heap [] := va_S.rf
  have hK := hE.1
  have hP : va_P D vwCl [(h0, .inr (0, [.ref h1, .ref h2, .ref h3])), (h1, .inl (cB, 32, .inl fk)), (h2, .inl (cB, 16, .inl fb)), (h3, .inl (cB, 16, .inl fo))] s.heap := hP
  have hl := lv_entry ([.ref h0, .int 0, .int kd]) (n := 6) (Nat.le_of_ble_eq_true rfl)
  rw [lg_entry_eq]
  generalize (lg_sl ([.ref h0, .int 0, .int kd]) ++ List.replicate (6 - (lg_sl ([.ref h0, .int 0, .int kd])).length) Slot.unset).toArray = ls at hl ⊢
  have hl : lv_has ls 6 [(0, .ref h0), (1, .int 0), (2, .int kd)] := hl
  refine lv_iload_n hx hb dX0_run_0 rfl (lv_at hl 2 rfl) ?_
  refine lv_iconst (v := 3) hx hb dX0_run_1 (by decide) ?_
  refine lv_iand hx hb dX0_run_2 ?_
  refine vp_callSi (va_Run.run (va_runS (As := [.int (kd &&& 3)]) (rest := []) ⟨hx, hb, hml, hown, hts⟩ (metX0_size l (kd &&& 3)) (va_cwS 1 hts (lw_S q61 q62 q7 q63) rfl rfl rfl (by decide +kernel) ⟨Nat.le_of_ble_eq_true rfl, Nat.le_of_ble_eq_true rfl⟩) ⟨fun _ _ _ _ h => h, fun _ _ _ => ⟨rfl, trivial⟩⟩ rfl rfl hl.1 rfl (lv_room (Nat.le_of_ble_eq_true rfl)) dX0_run_3 ⟨Nat.le_of_ble_eq_true rfl, Nat.le_of_ble_eq_true rfl⟩)) (fun r9 (e9 : r9 = 16) => ?_)
  subst e9
  refine lv_istore_n (lv' := [(3, .int 16), (0, .ref h0), (1, .int 0), (2, .int kd)]) hx hb dX0_run_6 rfl hl (by decide) rfl (fun ls hl => ?_)
  refine lv_iload_n hx hb dX0_run_7 rfl (lv_at hl 0 rfl) ?_
  refine k_newb hx hb (hts _ q41) hK hP hD hS hA 16 rfl (Nat.le_of_ble_eq_true rfl) (Nat.le_of_ble_eq_true rfl) (Nat.le_of_ble_eq_true rfl) dX0_run_8 (fun n1 H hP hD hS => ?_)
  have hP : va_P D vwCl [(h0, .inr (0, [.ref h1, .ref h2, .ref h3])), (h1, .inl (cB, 32, .inl fk)), (h2, .inl (cB, 16, .inl fb)), (h3, .inl (cB, 16, .inl fo)), (n1, .inl (cB, 16, .inl (fun _ => 0)))] H := hP
  have hD : va_D A [(h0, .inr (0, [.ref h1, .ref h2, .ref h3])), (h1, .inl (cB, 32, .inl fk)), (h2, .inl (cB, 16, .inl fb)), (h3, .inl (cB, 16, .inl fo)), (n1, .inl (cB, 16, .inl (fun _ => 0)))] := hD
  refine W.widen (k := 1) (n := 16) (Nat.le_refl _) (Nat.le_refl _) ?_
  refine lv_astore (lv' := [(4, .ref n1), (3, .int 16), (0, .ref h0), (1, .int 0), (2, .int kd)]) hx hb dX0_run_10 hl (by decide) rfl (fun ls hl => ?_)
  refine lv_iconst (v := 0) hx hb dX0_run_12 (by decide) ?_
  refine lv_istore (lv' := [(5, .int 0), (4, .ref n1), (3, .int 16), (0, .ref h0), (1, .int 0), (2, .int kd)]) hx hb dX0_run_13 hl (by decide) rfl (fun ls hl => ?_)
  have loop : ∀ (n i : Nat), i + n = 16 → ∀ (H : Heap) (locs : List Loc) (ls : Array Slot), va_P D vwCl [(h0, .inr (0, [.ref h1, .ref h2, .ref h3])), (h1, .inl (cB, 32, .inl fk)), (h2, .inl (cB, 16, .inl fb)), (h3, .inl (cB, 16, .inl fo)), (n1, .inl (cB, 16, .inl (cpB fk (fun _ => 0) i)))] H → va_D A [(h0, .inr (0, [.ref h1, .ref h2, .ref h3])), (h1, .inl (cB, 32, .inl fk)), (h2, .inl (cB, 16, .inl fb)), (h3, .inl (cB, 16, .inl fo)), (n1, .inl (cB, 16, .inl (cpB fk (fun _ => 0) i)))] → va_S A s.heap H locs → lv_has ls 6 [(5, .int (nI i)), (4, .ref n1), (3, .int 16), (2, .int kd), (1, .int 0), (0, .ref h0)] → W p l e (headSpec (ws_ yX0_run cX0_run 6 none) ({ frames := 4, cells := 5, slots := 40, locals := 240 } : Room)).room s m ([.ref h0, .int 0, .int kd] : List Value).toArray below meth c H locs 1 16 (MQ below (PostV D A (fun _ : Unit => [(h0, .inr (0, [.ref h1, .ref h2, .ref h3])), (h1, .inl (cB, 32, .inl fk)), (h2, .inl (cB, 16, .inl fb)), (h3, .inl (cB, 16, .inl (itQ fo (deF (thK (beQ (kcB fk))) (beQ fb)))))])) ([.ref h0, .int 0, .int kd] : List Value).toArray s 5 40 A) (F0 m 15 ls []) := by
    intro n
    induction n with
    | zero =>
      intro i hi H locs ls hP hD hS hl
      have hi6 : i = 16 := by omega
      subst hi6
      refine lv_iload hx hb dX0_run_15 (lv_at hl 0 rfl) ?_
      refine lv_iload_n hx hb dX0_run_17 rfl (lv_at hl 2 rfl) ?_
      refine lv_icmp_ge (tgt := 39) hx hb dX0_run_18 (by decide) (fun _ => ?_) (fun c9 => absurd (nI_le (Nat.le_refl 16) (by omega)) c9)
      refine va_new (D := D) (ci := 2) (fs := [.null, .int 0, .int 0]) (C := RX2) (T := TX2) (N := 3) hx hb hts in_X2 tyX2 tyX2_ok hown (hts _ q64) (hts _ q65) (hts _ q9) hK hP hD hS hA rfl (fun j hj => by rcases (show j = 0 ∨ j = 1 ∨ j = 2 by omega) with rfl | rfl | rfl <;> rfl) (Nat.le_of_ble_eq_true rfl) (Nat.le_of_ble_eq_true rfl) dX0_run_39 (fun n2 H hP hD hS => ?_)
      have hP : va_P D vwCl [(h0, .inr (0, [.ref h1, .ref h2, .ref h3])), (h1, .inl (cB, 32, .inl fk)), (h2, .inl (cB, 16, .inl fb)), (h3, .inl (cB, 16, .inl fo)), (n1, .inl (cB, 16, .inl (cpB fk (fun _ => 0) 16))), (n2, .inr (2, [.null, .int 0, .int 0]))] H := hP
      have hD : va_D A [(h0, .inr (0, [.ref h1, .ref h2, .ref h3])), (h1, .inl (cB, 32, .inl fk)), (h2, .inl (cB, 16, .inl fb)), (h3, .inl (cB, 16, .inl fo)), (n1, .inl (cB, 16, .inl (cpB fk (fun _ => 0) 16))), (n2, .inr (2, [.null, .int 0, .int 0]))] := hD
      refine W.widen (k := 2) (n := 19) (Nat.le_refl _) (Nat.le_refl _) ?_
      refine lv_dup hx hb dX0_run_42 rfl ?_
      refine k_v (D := D) (wc := [(n2, .inr (2, [.null, .int 0, .int 0]))]) (wr := [(h0, .inr (0, [.ref h1, .ref h2, .ref h3])), (h1, .inl (cB, 32, .inl fk)), (h2, .inl (cB, 16, .inl fb)), (h3, .inl (cB, 16, .inl fo)), (n1, .inl (cB, 16, .inl (cpB fk (fun _ => 0) 16)))]) (va_runI (As := []) (rest := [.ref n2]) ⟨hx, hb, hml, hown, hts⟩ (metX2_init l D cB cI H.size n2) (cwI 0 hts (lw_meth q68) rfl rfl rfl (hts _ q9) (hts _ q66) (hts _ q67) rfl (by decide +kernel) ⟨Nat.le_of_ble_eq_true rfl, Nat.le_of_ble_eq_true rfl⟩) ⟨PreE.blind, preE hE hP hD hS hA [5] rfl rfl⟩ rfl rfl hl.1 rfl (lv_room (Nat.le_of_ble_eq_true rfl)) dX0_run_43 ⟨Nat.le_of_ble_eq_true rfl, Nat.le_of_ble_eq_true rfl⟩) hP hD hS hA [5] [0, 1, 2, 3, 4] rfl rfl rfl (by decide) [0, 1, 2, 3, 4, 5, 6] rfl (fun u : Nat => [(h0, .inr (0, [.ref h1, .ref h2, .ref h3])), (h1, .inl (cB, 32, .inl fk)), (h2, .inl (cB, 16, .inl fb)), (h3, .inl (cB, 16, .inl fo)), (n1, .inl (cB, 16, .inl (cpB fk (fun _ => 0) 16))), (n2, .inr (2, [.ref u, .int 0, .int 0])), (u, .inl (cI, 4, .inl (qf (0, 0, 0, 0))))]) (fun _ => rfl) (fun u H locs hP hD hS => ?_)
      refine W.widen (k := 3) (n := 23) (Nat.le_refl _) (Nat.le_refl _) ?_
      obtain ⟨q1, rfl⟩ : ∃ z, z = u := ⟨_, rfl⟩
      have hP : va_P D vwCl [(h0, .inr (0, [.ref h1, .ref h2, .ref h3])), (h1, .inl (cB, 32, .inl fk)), (h2, .inl (cB, 16, .inl fb)), (h3, .inl (cB, 16, .inl fo)), (n1, .inl (cB, 16, .inl (cpB fk (fun _ => 0) 16))), (n2, .inr (2, [.ref q1, .int 0, .int 0])), (q1, .inl (cI, 4, .inl (qf (0, 0, 0, 0))))] H := hP
      have hD : va_D A [(h0, .inr (0, [.ref h1, .ref h2, .ref h3])), (h1, .inl (cB, 32, .inl fk)), (h2, .inl (cB, 16, .inl fb)), (h3, .inl (cB, 16, .inl fo)), (n1, .inl (cB, 16, .inl (cpB fk (fun _ => 0) 16))), (n2, .inr (2, [.ref q1, .int 0, .int 0])), (q1, .inl (cI, 4, .inl (qf (0, 0, 0, 0))))] := hD
      refine lv_astore (lv' := [(5, .ref n2), (4, .ref n1), (3, .int 16), (2, .int kd), (1, .int 0), (0, .ref h0)]) hx hb dX0_run_46 hl (by decide) rfl (fun ls hl => ?_)
      refine lv_aload hx hb dX0_run_48 (lv_at hl 0 rfl) ?_
      refine lv_iload_n hx hb dX0_run_50 rfl (lv_at hl 4 rfl) ?_
      refine va_new (D := D) (ci := 3) (fs := [.null]) (C := RX3) (T := TX3) (N := 1) hx hb hts in_X3 tyX3 tyX3_ok hown (hts _ q81) (hts _ q82) (hts _ q10) hK hP hD hS hA rfl (fun j hj => by rcases (show j = 0 by omega) with rfl <;> rfl) (Nat.le_of_ble_eq_true rfl) (Nat.le_of_ble_eq_true rfl) dX0_run_51 (fun n3 H hP hD hS => ?_)
      have hP : va_P D vwCl [(h0, .inr (0, [.ref h1, .ref h2, .ref h3])), (h1, .inl (cB, 32, .inl fk)), (h2, .inl (cB, 16, .inl fb)), (h3, .inl (cB, 16, .inl fo)), (n1, .inl (cB, 16, .inl (cpB fk (fun _ => 0) 16))), (n2, .inr (2, [.ref q1, .int 0, .int 0])), (q1, .inl (cI, 4, .inl (qf (0, 0, 0, 0)))), (n3, .inr (3, [.null]))] H := hP
      have hD : va_D A [(h0, .inr (0, [.ref h1, .ref h2, .ref h3])), (h1, .inl (cB, 32, .inl fk)), (h2, .inl (cB, 16, .inl fb)), (h3, .inl (cB, 16, .inl fo)), (n1, .inl (cB, 16, .inl (cpB fk (fun _ => 0) 16))), (n2, .inr (2, [.ref q1, .int 0, .int 0])), (q1, .inl (cI, 4, .inl (qf (0, 0, 0, 0)))), (n3, .inr (3, [.null]))] := hD
      refine W.widen (k := 4) (n := 24) (Nat.le_refl _) (Nat.le_refl _) ?_
      refine lv_dup hx hb dX0_run_54 rfl ?_
      refine lv_aload hx hb dX0_run_55 (lv_at hl 1 rfl) ?_
      refine k_v (D := D) (wc := [(n3, .inr (3, [.null])), (n1, .inl (cB, 16, .inl (cpB fk (fun _ => 0) 16)))]) (wr := [(h0, .inr (0, [.ref h1, .ref h2, .ref h3])), (h1, .inl (cB, 32, .inl fk)), (h2, .inl (cB, 16, .inl fb)), (h3, .inl (cB, 16, .inl fo)), (n2, .inr (2, [.ref q1, .int 0, .int 0])), (q1, .inl (cI, 4, .inl (qf (0, 0, 0, 0))))]) (va_runI (As := [.ref n1]) (rest := [.ref n3, .int 0, .ref n2]) ⟨hx, hb, hml, hown, hts⟩ (metX3_init l D cB cI H.size n3 n1 (cpB fk (fun _ => 0) 16) (fun j hj => cpB_fit _ _ _ j hj)) (cwI 1 hts (lw_meth q85) rfl rfl rfl (hts _ q10) (hts _ q83) (hts _ q84) rfl (by decide +kernel) ⟨Nat.le_of_ble_eq_true rfl, Nat.le_of_ble_eq_true rfl⟩) ⟨PreE.blind, preE hE hP hD hS hA [7, 4] rfl rfl⟩ rfl rfl hl.1 rfl (lv_room (Nat.le_of_ble_eq_true rfl)) dX0_run_57 ⟨Nat.le_of_ble_eq_true rfl, Nat.le_of_ble_eq_true rfl⟩) hP hD hS hA [7, 4] [0, 1, 2, 3, 5, 6] rfl rfl rfl (by decide) [0, 1, 2, 3, 7, 4, 5, 6, 8] rfl (fun u : Nat => [(h0, .inr (0, [.ref h1, .ref h2, .ref h3])), (h1, .inl (cB, 32, .inl fk)), (h2, .inl (cB, 16, .inl fb)), (h3, .inl (cB, 16, .inl fo)), (n1, .inl (cB, 16, .inl (cpB fk (fun _ => 0) 16))), (n2, .inr (2, [.ref q1, .int 0, .int 0])), (q1, .inl (cI, 4, .inl (qf (0, 0, 0, 0)))), (n3, .inr (3, [.ref u])), (u, .inl (cB, 16, .inl (kcB fk)))]) (fun _ => rfl) (fun u H locs hP hD hS => ?_)
      refine W.widen (k := 5) (n := 40) (Nat.le_refl _) (Nat.le_refl _) ?_
      obtain ⟨q2, rfl⟩ : ∃ z, z = u := ⟨_, rfl⟩
      have hP : va_P D vwCl [(h0, .inr (0, [.ref h1, .ref h2, .ref h3])), (h1, .inl (cB, 32, .inl fk)), (h2, .inl (cB, 16, .inl fb)), (h3, .inl (cB, 16, .inl fo)), (n1, .inl (cB, 16, .inl (cpB fk (fun _ => 0) 16))), (n2, .inr (2, [.ref q1, .int 0, .int 0])), (q1, .inl (cI, 4, .inl (qf (0, 0, 0, 0)))), (n3, .inr (3, [.ref q2])), (q2, .inl (cB, 16, .inl (kcB fk)))] H := hP
      have hD : va_D A [(h0, .inr (0, [.ref h1, .ref h2, .ref h3])), (h1, .inl (cB, 32, .inl fk)), (h2, .inl (cB, 16, .inl fb)), (h3, .inl (cB, 16, .inl fo)), (n1, .inl (cB, 16, .inl (cpB fk (fun _ => 0) 16))), (n2, .inr (2, [.ref q1, .int 0, .int 0])), (q1, .inl (cI, 4, .inl (qf (0, 0, 0, 0)))), (n3, .inr (3, [.ref q2])), (q2, .inl (cB, 16, .inl (kcB fk)))] := hD
      refine k_vF (D := D) (wc := [(n2, .inr (2, [.ref q1, .int 0, .int 0])), (q1, .inl (cI, 4, .inl (qf (0, 0, 0, 0)))), (n3, .inr (3, [.ref q2])), (q2, .inl (cB, 16, .inl (kcB fk)))]) (wr := [(h0, .inr (0, [.ref h1, .ref h2, .ref h3])), (h1, .inl (cB, 32, .inl fk)), (h2, .inl (cB, 16, .inl fb)), (h3, .inl (cB, 16, .inl fo)), (n1, .inl (cB, 16, .inl (cpB fk (fun _ => 0) 16)))]) (va_runF (As := [.int 0, .ref n3]) (rest := []) (hK.1 2 _ rfl).2 ⟨hx, hb, hml, hown, hts⟩ (metX2_init_2_0 l D cB cI H.size n2 q1 n3 q2 (kcB fk)) (va_cwF 2 hts (lw_F q101 q105 q107 q9 q109) rfl rfl rfl hE.2.2.1 (by decide +kernel) ⟨Nat.le_of_ble_eq_true rfl, Nat.le_of_ble_eq_true rfl⟩) ⟨PreE.blind, va_recv hK hP (ci := 2) (q0 := 5) rfl rfl, preE hE hP hD hS hA [5, 6, 7, 8] rfl rfl⟩ rfl rfl hl.1 rfl (lv_room (Nat.le_of_ble_eq_true rfl)) dX0_run_60 ⟨Nat.le_of_ble_eq_true rfl, Nat.le_of_ble_eq_true rfl⟩) hP hD hS hA [5, 6, 7, 8] [0, 1, 2, 3, 4] rfl rfl rfl (by decide) [0, 1, 2, 3, 4, 5, 6, 7, 8] rfl (fun _ : Unit => [(h0, .inr (0, [.ref h1, .ref h2, .ref h3])), (h1, .inl (cB, 32, .inl fk)), (h2, .inl (cB, 16, .inl fb)), (h3, .inl (cB, 16, .inl fo)), (n1, .inl (cB, 16, .inl (cpB fk (fun _ => 0) 16))), (n2, .inr (2, [.ref q1, .int 1, .int 0])), (q1, .inl (cI, 4, .inl (qf (thK (beQ (kcB fk)))))), (n3, .inr (3, [.ref q2])), (q2, .inl (cB, 16, .inl (kcB fk)))]) (fun _ => rfl) (fun _ H locs hP hD hS => ?_)
      refine lv_aload hx hb dX0_run_65 (lv_at hl 0 rfl) ?_
      refine lv_aload_n hx hb dX0_run_67 rfl (lv_at hl 5 rfl) ?_
      refine va_get (D := D) (ci := 0) (v := .ref h2) (C := RX0) (T := TX0) (N := 3) hx hb hts in_X0 hown hK hP 0 rfl rfl 1 (by decide) (hts _ q32) (fun _ h9 => h9) rfl dX0_run_68 ?_
      refine lv_iconst (v := 0) hx hb dX0_run_71 (by decide) ?_
      refine lv_aload_n hx hb dX0_run_72 rfl (lv_at hl 5 rfl) ?_
      refine va_get (D := D) (ci := 0) (v := .ref h3) (C := RX0) (T := TX0) (N := 3) hx hb hts in_X0 hown hK hP 0 rfl rfl 2 (by decide) (hts _ q33) (fun _ h9 => h9) rfl dX0_run_73 ?_
      refine lv_iconst (v := 0) hx hb dX0_run_76 (by decide) ?_
      refine k_iF (D := D) (wc := [(n2, .inr (2, [.ref q1, .int 1, .int 0])), (q1, .inl (cI, 4, .inl (qf (thK (beQ (kcB fk)))))), (h2, .inl (cB, 16, .inl fb)), (h3, .inl (cB, 16, .inl fo))]) (wr := [(h0, .inr (0, [.ref h1, .ref h2, .ref h3])), (h1, .inl (cB, 32, .inl fk)), (n1, .inl (cB, 16, .inl (cpB fk (fun _ => 0) 16))), (n3, .inr (3, [.ref q2])), (q2, .inl (cB, 16, .inl (kcB fk)))]) (va_runF (As := [.ref h2, .int 0, .ref h3, .int 0]) (rest := []) (hK.1 2 _ rfl).2 ⟨hx, hb, hml, hown, hts⟩ (metX2_processBlock_0 l D cB cI H.size n2 q1 h2 h3 (thK (beQ (kcB fk))) fb fo) (va_cwF 4 hts (lw_F q197 q200 q202 q9 q204) rfl rfl rfl hE.2.2.2 (by decide +kernel) ⟨Nat.le_of_ble_eq_true rfl, Nat.le_of_ble_eq_true rfl⟩) ⟨PreE.blind, va_recv hK hP (ci := 2) (q0 := 5) rfl rfl, preE hE hP hD hS hA [5, 6, 2, 3] rfl rfl⟩ rfl rfl hl.1 rfl (lv_room (Nat.le_of_ble_eq_true rfl)) dX0_run_77 ⟨Nat.le_of_ble_eq_true rfl, Nat.le_of_ble_eq_true rfl⟩) hP hD hS hA [5, 6, 2, 3] [0, 1, 4, 7, 8] rfl rfl rfl (by decide) [0, 1, 7, 8, 2, 5, 6, 3, 4] rfl (fun _ : Unit => [(h0, .inr (0, [.ref h1, .ref h2, .ref h3])), (h1, .inl (cB, 32, .inl fk)), (h2, .inl (cB, 16, .inl fb)), (h3, .inl (cB, 16, .inl (itQ fo (deF (thK (beQ (kcB fk))) (beQ fb))))), (n1, .inl (cB, 16, .inl (cpB fk (fun _ => 0) 16))), (n2, .inr (2, [.ref q1, .int 1, .int 0])), (q1, .inl (cI, 4, .inl (qf (thK (beQ (kcB fk)))))), (n3, .inr (3, [.ref q2])), (q2, .inl (cB, 16, .inl (kcB fk)))]) (fun _ => rfl) (fun _ H locs hP hD hS => ?_)
      refine lv_pop hx hb dX0_run_82 rfl ?_
      have hP := hP.sub (ws' := [(h0, .inr (0, [.ref h1, .ref h2, .ref h3])), (h1, .inl (cB, 32, .inl fk)), (h2, .inl (cB, 16, .inl fb)), (h3, .inl (cB, 16, .inl (itQ fo (deF (thK (beQ (kcB fk))) (beQ fb)))))]) [0, 1, 2, 3] rfl
      have hD := hD.sub (ws' := [(h0, .inr (0, [.ref h1, .ref h2, .ref h3])), (h1, .inl (cB, 32, .inl fk)), (h2, .inl (cB, 16, .inl fb)), (h3, .inl (cB, 16, .inl (itQ fo (deF (thK (beQ (kcB fk))) (beQ fb)))))]) [0, 1, 2, 3] rfl rfl
      exact W.vret hx hb hr (fun t ht hW => ⟨⟨(), rfl, trivial, by rw [ht]; exact hP, hD⟩, hS.F ht⟩) hS.2.2 dX0_run_83
    | succ n ih =>
      intro i hi H locs ls hP hD hS hl
      refine lv_iload hx hb dX0_run_15 (lv_at hl 0 rfl) ?_
      refine lv_iload_n hx hb dX0_run_17 rfl (lv_at hl 2 rfl) ?_
      refine lv_icmp_ge (tgt := 39) hx hb dX0_run_18 (by decide) (fun c9 => absurd c9 (nI_ge (a := i) (b := 16) (by omega) (by omega))) (fun _ => ?_)
      refine lv_aload hx hb dX0_run_21 (lv_at hl 1 rfl) ?_
      refine lv_iload hx hb dX0_run_23 (lv_at hl 0 rfl) ?_
      refine lv_aload_n hx hb dX0_run_25 rfl (lv_at hl 5 rfl) ?_
      refine va_get (D := D) (ci := 0) (v := .ref h1) (C := RX0) (T := TX0) (N := 3) hx hb hts in_X0 hown hK hP 0 rfl rfl 0 (by decide) (hts _ q31) (fun _ h9 => h9) rfl dX0_run_26 ?_
      refine lv_iload hx hb dX0_run_29 (lv_at hl 0 rfl) ?_
      refine k_bald (v := fk i) hx hb hK hP 1 rfl i rfl (by omega) (Nat.le_of_ble_eq_true rfl) rfl dX0_run_31 ?_
      refine k_bast (f' := cpB fk (fun _ => 0) (i + 1)) (w2 := [(h0, .inr (0, [.ref h1, .ref h2, .ref h3])), (h1, .inl (cB, 32, .inl fk)), (h2, .inl (cB, 16, .inl fb)), (h3, .inl (cB, 16, .inl fo)), (n1, .inl (cB, 16, .inl (cpB fk (fun _ => 0) (i + 1))))]) hx hb hK hP hD hS 4 rfl i rfl (by omega) (Nat.le_of_ble_eq_true rfl) (cpB_s fk (fun _ => 0) i) dX0_run_32 rfl (fun H locs hP hD hS => ?_)
      refine lv_iinc (v := nI (i + 1)) (lv' := [(5, .int (nI (i + 1))), (4, .ref n1), (3, .int 16), (2, .int kd), (1, .int 0), (0, .ref h0)]) hx hb dX0_run_33 hl (k := 0) rfl (nI_add _ 1) (by decide) rfl (fun ls hl => ?_)
      refine lv_goto (tgt := 15) hx hb dX0_run_36 (by decide) ?_
      exact ih (i + 1) (by omega) H locs ls hP hD hS (lv_sub hl [0, 1, 2, 3, 4, 5] rfl)
  exact loop 16 0 (by omega) H [] ls (by rw [cpB_0]; exact hP) (by rw [cpB_0]; exact hD) hS (lv_sub hl [0, 1, 2, 5, 4, 3] rfl)
set_option maxHeartbeats 4000000 in
set_option maxRecDepth 100000 in
theorem metX0_lock (l : Launch) (D : va_G) (cB cI : ClassId) (sz : Nat) (h0 h1 h2 h3 : Nat) (fk fb fo : Nat → Int32) (kd : Int32) : Met l yX0_lock (ws_ yX0_lock cX0_lock 2 none) ({ frames := 5, cells := 5, slots := 40, locals := 300 } : Room) (PreE D cB cI [.ref h0, .int kd] sz [(h0, .inr (0, [.ref h1, .ref h2, .ref h3])), (h1, .inl (cB, 32, .inl fk)), (h2, .inl (cB, 16, .inl fb)), (h3, .inl (cB, 16, .inl fo))]) (PostV D (va_A [(h0, .inr (0, [.ref h1, .ref h2, .ref h3])), (h1, .inl (cB, 32, .inl fk)), (h2, .inl (cB, 16, .inl fb)), (h3, .inl (cB, 16, .inl fo))] sz) (fun _ : Unit => [(h0, .inr (0, [.ref h1, .ref h2, .ref h3])), (h1, .inl (cB, 32, .inl fk)), (h2, .inl (cB, 16, .inl fb)), (h3, .inl (cB, 16, .inl (itQ fo (enF (beQ (kcB fk)) (beQ fb)))))])) 5 40 (va_A [(h0, .inr (0, [.ref h1, .ref h2, .ref h3])), (h1, .inl (cB, 32, .inl fk)), (h2, .inl (cB, 16, .inl fb)), (h3, .inl (cB, 16, .inl fo))] sz) := by
  refine Met.ofW (cc := cX0_lock) (maxL := 2) (ret := none) (by decide) rfl ?_
  intro p e s m args below meth c s₁ B hml hv
  obtain ⟨rfl, hsz, hP, hD0, hE⟩ := hv
  have hx := B.exec
  have hb := B.bytes
  have hr := B.returns
  have hts := atoms_spec (ws := ws_ yX0_lock cX0_lock 2 none) B.pre
  have hts : ∀ w ∈ lw_all, w.before _ s = true := fun w h => hts w (List.mem_cons_of_mem _ h)
  have hown : s.vm.findClass RX0 = some m.cls := findClass_of_methodNamed B.named
  have hlocks := B.notSynchronized
  subst hsz
  have hD := hD0.self (sz := s.heap.size)
  generalize hAe : va_A [(h0, .inr (0, [.ref h1, .ref h2, .ref h3])), (h1, .inl (cB, 32, .inl fk)), (h2, .inl (cB, 16, .inl fb)), (h3, .inl (cB, 16, .inl fo))] s.heap.size = A at hD hE ⊢
  have hA : ∀ q : Nat, s.heap.size ≤ q → A q := fun q h => by rw [← hAe]; exact Or.inr h
  have hS : va_S A s.heap s.heap [] := va_S.rf
  have hK := hE.1
  have hP : va_P D vwCl [(h0, .inr (0, [.ref h1, .ref h2, .ref h3])), (h1, .inl (cB, 32, .inl fk)), (h2, .inl (cB, 16, .inl fb)), (h3, .inl (cB, 16, .inl fo))] s.heap := hP
  have hl := lv_entry ([.ref h0, .int kd]) (n := 2) (Nat.le_of_ble_eq_true rfl)
  rw [lg_entry_eq]
  generalize (lg_sl ([.ref h0, .int kd]) ++ List.replicate (2 - (lg_sl ([.ref h0, .int kd])).length) Slot.unset).toArray = ls at hl ⊢
  have hl : lv_has ls 2 [(0, .ref h0), (1, .int kd)] := hl
  refine lv_aload_n hx hb dX0_lock_0 rfl (lv_at hl 0 rfl) ?_
  refine lv_iconst (v := 1) hx hb dX0_lock_1 (by decide) ?_
  refine lv_iload_n hx hb dX0_lock_2 rfl (lv_at hl 1 rfl) ?_
  refine k_v (D := D) (wc := [(h0, .inr (0, [.ref h1, .ref h2, .ref h3])), (h1, .inl (cB, 32, .inl fk)), (h2, .inl (cB, 16, .inl fb)), (h3, .inl (cB, 16, .inl fo))]) (wr := []) (va_runV (As := [.int 1, .int kd]) (rest := []) ⟨hx, hb, hml, hown, hts⟩ (metX0_run_1 l D cB cI s.heap.size h0 h1 h2 h3 fk fb fo kd) (cwV 2 hts (lw_V q57 q59 qs0 q7 q60) rfl rfl rfl (by decide +kernel) ⟨Nat.le_of_ble_eq_true rfl, Nat.le_of_ble_eq_true rfl⟩) ⟨PreE.blind, va_recv hK hP (ci := 0) (q0 := 0) rfl rfl, preE hE hP hD hS hA [0, 1, 2, 3] rfl rfl⟩ rfl rfl hl.1 rfl (lv_room (Nat.le_of_ble_eq_true rfl)) dX0_lock_3 ⟨Nat.le_of_ble_eq_true rfl, Nat.le_of_ble_eq_true rfl⟩) hP hD hS hA [0, 1, 2, 3] [] rfl rfl rfl (by decide) [0, 1, 2, 3] rfl (fun _ : Unit => [(h0, .inr (0, [.ref h1, .ref h2, .ref h3])), (h1, .inl (cB, 32, .inl fk)), (h2, .inl (cB, 16, .inl fb)), (h3, .inl (cB, 16, .inl (itQ fo (enF (beQ (kcB fk)) (beQ fb)))))]) (fun _ => rfl) (fun _ H locs hP hD hS => ?_)
  refine W.widen (k := 5) (n := 40) (Nat.le_refl _) (Nat.le_refl _) ?_
  exact W.vret hx hb hr (fun t ht hW => ⟨⟨(), rfl, trivial, by rw [ht]; exact hP, hD⟩, hS.F ht⟩) hS.2.2 dX0_lock_6
set_option maxHeartbeats 4000000 in
set_option maxRecDepth 100000 in
theorem metX0_open (l : Launch) (D : va_G) (cB cI : ClassId) (sz : Nat) (h0 h1 h2 h3 : Nat) (fk fb fo : Nat → Int32) (kd : Int32) : Met l yX0_open (ws_ yX0_open cX0_open 2 none) ({ frames := 5, cells := 5, slots := 40, locals := 300 } : Room) (PreE D cB cI [.ref h0, .int kd] sz [(h0, .inr (0, [.ref h1, .ref h2, .ref h3])), (h1, .inl (cB, 32, .inl fk)), (h2, .inl (cB, 16, .inl fb)), (h3, .inl (cB, 16, .inl fo))]) (PostV D (va_A [(h0, .inr (0, [.ref h1, .ref h2, .ref h3])), (h1, .inl (cB, 32, .inl fk)), (h2, .inl (cB, 16, .inl fb)), (h3, .inl (cB, 16, .inl fo))] sz) (fun _ : Unit => [(h0, .inr (0, [.ref h1, .ref h2, .ref h3])), (h1, .inl (cB, 32, .inl fk)), (h2, .inl (cB, 16, .inl fb)), (h3, .inl (cB, 16, .inl (itQ fo (deF (thK (beQ (kcB fk))) (beQ fb)))))])) 5 40 (va_A [(h0, .inr (0, [.ref h1, .ref h2, .ref h3])), (h1, .inl (cB, 32, .inl fk)), (h2, .inl (cB, 16, .inl fb)), (h3, .inl (cB, 16, .inl fo))] sz) := by
  refine Met.ofW (cc := cX0_open) (maxL := 2) (ret := none) (by decide) rfl ?_
  intro p e s m args below meth c s₁ B hml hv
  obtain ⟨rfl, hsz, hP, hD0, hE⟩ := hv
  have hx := B.exec
  have hb := B.bytes
  have hr := B.returns
  have hts := atoms_spec (ws := ws_ yX0_open cX0_open 2 none) B.pre
  have hts : ∀ w ∈ lw_all, w.before _ s = true := fun w h => hts w (List.mem_cons_of_mem _ h)
  have hown : s.vm.findClass RX0 = some m.cls := findClass_of_methodNamed B.named
  have hlocks := B.notSynchronized
  subst hsz
  have hD := hD0.self (sz := s.heap.size)
  generalize hAe : va_A [(h0, .inr (0, [.ref h1, .ref h2, .ref h3])), (h1, .inl (cB, 32, .inl fk)), (h2, .inl (cB, 16, .inl fb)), (h3, .inl (cB, 16, .inl fo))] s.heap.size = A at hD hE ⊢
  have hA : ∀ q : Nat, s.heap.size ≤ q → A q := fun q h => by rw [← hAe]; exact Or.inr h
  have hS : va_S A s.heap s.heap [] := va_S.rf
  have hK := hE.1
  have hP : va_P D vwCl [(h0, .inr (0, [.ref h1, .ref h2, .ref h3])), (h1, .inl (cB, 32, .inl fk)), (h2, .inl (cB, 16, .inl fb)), (h3, .inl (cB, 16, .inl fo))] s.heap := hP
  have hl := lv_entry ([.ref h0, .int kd]) (n := 2) (Nat.le_of_ble_eq_true rfl)
  rw [lg_entry_eq]
  generalize (lg_sl ([.ref h0, .int kd]) ++ List.replicate (2 - (lg_sl ([.ref h0, .int kd])).length) Slot.unset).toArray = ls at hl ⊢
  have hl : lv_has ls 2 [(0, .ref h0), (1, .int kd)] := hl
  refine lv_aload_n hx hb dX0_open_0 rfl (lv_at hl 0 rfl) ?_
  refine lv_iconst (v := 0) hx hb dX0_open_1 (by decide) ?_
  refine lv_iload_n hx hb dX0_open_2 rfl (lv_at hl 1 rfl) ?_
  refine k_v (D := D) (wc := [(h0, .inr (0, [.ref h1, .ref h2, .ref h3])), (h1, .inl (cB, 32, .inl fk)), (h2, .inl (cB, 16, .inl fb)), (h3, .inl (cB, 16, .inl fo))]) (wr := []) (va_runV (As := [.int 0, .int kd]) (rest := []) ⟨hx, hb, hml, hown, hts⟩ (metX0_run_0 l D cB cI s.heap.size h0 h1 h2 h3 fk fb fo kd) (cwV 2 hts (lw_V q57 q59 qs0 q7 q60) rfl rfl rfl (by decide +kernel) ⟨Nat.le_of_ble_eq_true rfl, Nat.le_of_ble_eq_true rfl⟩) ⟨PreE.blind, va_recv hK hP (ci := 0) (q0 := 0) rfl rfl, preE hE hP hD hS hA [0, 1, 2, 3] rfl rfl⟩ rfl rfl hl.1 rfl (lv_room (Nat.le_of_ble_eq_true rfl)) dX0_open_3 ⟨Nat.le_of_ble_eq_true rfl, Nat.le_of_ble_eq_true rfl⟩) hP hD hS hA [0, 1, 2, 3] [] rfl rfl rfl (by decide) [0, 1, 2, 3] rfl (fun _ : Unit => [(h0, .inr (0, [.ref h1, .ref h2, .ref h3])), (h1, .inl (cB, 32, .inl fk)), (h2, .inl (cB, 16, .inl fb)), (h3, .inl (cB, 16, .inl (itQ fo (deF (thK (beQ (kcB fk))) (beQ fb)))))]) (fun _ => rfl) (fun _ H locs hP hD hS => ?_)
  refine W.widen (k := 5) (n := 40) (Nat.le_refl _) (Nat.le_refl _) ?_
  exact W.vret hx hb hr (fun t ht hW => ⟨⟨(), rfl, trivial, by rw [ht]; exact hP, hD⟩, hS.F ht⟩) hS.2.2 dX0_open_6
end
section
set_option maxHeartbeats 4000000 in
set_option maxRecDepth 100000 in
theorem metX1_init (l : Launch) (D : va_G) (cB cI : ClassId) (sz : Nat) (h0 : Nat) : Met l yX1_init (ws_ yX1_init cX1_init 1 none) ({ frames := 1, cells := 3, slots := 64, locals := 60 } : Room) (PreE D cB cI [.ref h0] sz [(h0, .inr (1, [.null, .null, .null]))]) (PostV D (va_A [(h0, .inr (1, [.null, .null, .null]))] sz) (fun u : (Nat × Nat × Nat) => [(h0, .inr (1, [.ref u.1, .ref u.2.1, .ref u.2.2])), (u.1, .inl (cI, 32, .inl (fun _ => 0))), (u.2.1, .inl (cI, 16, .inl (fun _ => 0))), (u.2.2, .inl (cI, 16, .inl (fun _ => 0)))])) 3 64 (va_A [(h0, .inr (1, [.null, .null, .null]))] sz) := by
  refine Met.ofW (cc := cX1_init) (maxL := 1) (ret := none) (by decide) rfl ?_
  intro p e s m args below meth c s₁ B hml hv
  obtain ⟨rfl, hsz, hP, hD0, hE⟩ := hv
  have hx := B.exec
  have hb := B.bytes
  have hr := B.returns
  have hts := atoms_spec (ws := ws_ yX1_init cX1_init 1 none) B.pre
  have hts : ∀ w ∈ lw_all, w.before _ s = true := fun w h => hts w (List.mem_cons_of_mem _ h)
  have hown : s.vm.findClass RX1 = some m.cls := findClass_of_methodNamed B.named
  have hlocks := B.notSynchronized
  have hin : meth.name = "<init>" := (name_of_methodNamed B.named B.method).1
  subst hsz
  have hD := hD0.self (sz := s.heap.size)
  generalize hAe : va_A [(h0, .inr (1, [.null, .null, .null]))] s.heap.size = A at hD hE ⊢
  have hA : ∀ q : Nat, s.heap.size ≤ q → A q := fun q h => by rw [← hAe]; exact Or.inr h
  have hS : va_S A s.heap s.heap [] := va_S.rf
  have hK := hE.1
  have hP : va_P D vwCl [(h0, .inr (1, [.null, .null, .null]))] s.heap := hP
  have hl := lv_entry ([.ref h0]) (n := 1) (Nat.le_of_ble_eq_true rfl)
  rw [lg_entry_eq]
  generalize (lg_sl ([.ref h0]) ++ List.replicate (1 - (lg_sl ([.ref h0])).length) Slot.unset).toArray = ls at hl ⊢
  have hl : lv_has ls 1 [(0, .ref h0)] := hl
  refine lv_aload_n hx hb dX1_init_0 rfl (lv_at hl 0 rfl) ?_
  refine W.objInit hx hb hown (hts _ q288) (hts _ q29) (hts _ q30) rfl (by rw [hml]; exact hl.1) rfl dX1_init_1 (Nat.le_of_ble_eq_true rfl) (Nat.le_of_ble_eq_true rfl) ?_
  refine W.eq (g2 := F0 m 4 ls []) rfl ?_
  refine lv_aload_n hx hb dX1_init_4 rfl (lv_at hl 0 rfl) ?_
  refine lv_bipush (v := 32) hx hb dX1_init_5 (by decide) ?_
  refine k_newi hx hb (hts _ q80) hK hP hD hS hA 32 rfl (Nat.le_of_ble_eq_true rfl) (Nat.le_of_ble_eq_true rfl) (Nat.le_of_ble_eq_true rfl) dX1_init_7 (fun n1 H hP hD hS => ?_)
  have hP : va_P D vwCl [(h0, .inr (1, [.null, .null, .null])), (n1, .inl (cI, 32, .inl (fun _ => 0)))] H := hP
  have hD : va_D A [(h0, .inr (1, [.null, .null, .null])), (n1, .inl (cI, 32, .inl (fun _ => 0)))] := hD
  refine W.widen (k := 1) (n := 32) (Nat.le_refl _) (Nat.le_refl _) ?_
  refine va_putF (D := D) (ci := 1) (v := .ref n1) (ty := .array .int) (C := RX1) (T := TX1) (N := 3) hx hb hts in_X1 tyX1 tyX1_ok nmX1 hown hK hP hD hS 0 rfl rfl 0 (by decide) (hts _ q289) (fun _ h9 => h9) rfl hin rfl (by decide +kernel) rfl rfl (Nat.le_of_ble_eq_true rfl) dX1_init_9 (fun H locs hP hD hS => ?_)
  have hP : va_P D vwCl [(h0, .inr (1, [.ref n1, .null, .null])), (n1, .inl (cI, 32, .inl (fun _ => 0)))] H := hP
  have hD : va_D A [(h0, .inr (1, [.ref n1, .null, .null])), (n1, .inl (cI, 32, .inl (fun _ => 0)))] := hD
  refine lv_aload_n hx hb dX1_init_12 rfl (lv_at hl 0 rfl) ?_
  refine lv_bipush (v := 16) hx hb dX1_init_13 (by decide) ?_
  refine k_newi hx hb (hts _ q80) hK hP hD hS hA 16 rfl (Nat.le_of_ble_eq_true rfl) (Nat.le_of_ble_eq_true rfl) (Nat.le_of_ble_eq_true rfl) dX1_init_15 (fun n2 H hP hD hS => ?_)
  have hP : va_P D vwCl [(h0, .inr (1, [.ref n1, .null, .null])), (n1, .inl (cI, 32, .inl (fun _ => 0))), (n2, .inl (cI, 16, .inl (fun _ => 0)))] H := hP
  have hD : va_D A [(h0, .inr (1, [.ref n1, .null, .null])), (n1, .inl (cI, 32, .inl (fun _ => 0))), (n2, .inl (cI, 16, .inl (fun _ => 0)))] := hD
  refine W.widen (k := 2) (n := 48) (Nat.le_refl _) (Nat.le_refl _) ?_
  refine va_putF (D := D) (ci := 1) (v := .ref n2) (ty := .array .int) (C := RX1) (T := TX1) (N := 3) hx hb hts in_X1 tyX1 tyX1_ok nmX1 hown hK hP hD hS 0 rfl rfl 1 (by decide) (hts _ q290) (fun _ h9 => h9) rfl hin rfl (by decide +kernel) rfl rfl (Nat.le_of_ble_eq_true rfl) dX1_init_17 (fun H locs hP hD hS => ?_)
  have hP : va_P D vwCl [(h0, .inr (1, [.ref n1, .ref n2, .null])), (n1, .inl (cI, 32, .inl (fun _ => 0))), (n2, .inl (cI, 16, .inl (fun _ => 0)))] H := hP
  have hD : va_D A [(h0, .inr (1, [.ref n1, .ref n2, .null])), (n1, .inl (cI, 32, .inl (fun _ => 0))), (n2, .inl (cI, 16, .inl (fun _ => 0)))] := hD
  refine lv_aload_n hx hb dX1_init_20 rfl (lv_at hl 0 rfl) ?_
  refine lv_bipush (v := 16) hx hb dX1_init_21 (by decide) ?_
  refine k_newi hx hb (hts _ q80) hK hP hD hS hA 16 rfl (Nat.le_of_ble_eq_true rfl) (Nat.le_of_ble_eq_true rfl) (Nat.le_of_ble_eq_true rfl) dX1_init_23 (fun n3 H hP hD hS => ?_)
  have hP : va_P D vwCl [(h0, .inr (1, [.ref n1, .ref n2, .null])), (n1, .inl (cI, 32, .inl (fun _ => 0))), (n2, .inl (cI, 16, .inl (fun _ => 0))), (n3, .inl (cI, 16, .inl (fun _ => 0)))] H := hP
  have hD : va_D A [(h0, .inr (1, [.ref n1, .ref n2, .null])), (n1, .inl (cI, 32, .inl (fun _ => 0))), (n2, .inl (cI, 16, .inl (fun _ => 0))), (n3, .inl (cI, 16, .inl (fun _ => 0)))] := hD
  refine W.widen (k := 3) (n := 64) (Nat.le_refl _) (Nat.le_refl _) ?_
  refine va_putF (D := D) (ci := 1) (v := .ref n3) (ty := .array .int) (C := RX1) (T := TX1) (N := 3) hx hb hts in_X1 tyX1 tyX1_ok nmX1 hown hK hP hD hS 0 rfl rfl 2 (by decide) (hts _ q291) (fun _ h9 => h9) rfl hin rfl (by decide +kernel) rfl rfl (Nat.le_of_ble_eq_true rfl) dX1_init_25 (fun H locs hP hD hS => ?_)
  have hP : va_P D vwCl [(h0, .inr (1, [.ref n1, .ref n2, .ref n3])), (n1, .inl (cI, 32, .inl (fun _ => 0))), (n2, .inl (cI, 16, .inl (fun _ => 0))), (n3, .inl (cI, 16, .inl (fun _ => 0)))] H := hP
  have hD : va_D A [(h0, .inr (1, [.ref n1, .ref n2, .ref n3])), (n1, .inl (cI, 32, .inl (fun _ => 0))), (n2, .inl (cI, 16, .inl (fun _ => 0))), (n3, .inl (cI, 16, .inl (fun _ => 0)))] := hD
  exact W.vret hx hb hr (fun t ht hW => ⟨⟨(n1, n2, n3), rfl, trivial, by rw [ht]; exact hP, hD⟩, hS.F ht⟩) hS.2.2 dX1_init_28
set_option maxHeartbeats 4000000 in
set_option maxRecDepth 100000 in
theorem metX1_word (l : Launch) (D : va_G) (cB cI : ClassId) (sz : Nat) (h0 n : Nat) (f : Nat → Int32) (o : Nat) (w : Int32) (ho : o + 3 < n) (hn : n ≤ 1000) : Met l yX1_word (ws_ yX1_word cX1_word 4 none) ({ frames := 0, cells := 0, slots := 0, locals := 0 } : Room) (PreE D cB cI [.ref h0, .int (nI o), .int w] sz [(h0, .inl (cI, n, .inl f))]) (PostV D (va_A [(h0, .inl (cI, n, .inl f))] sz) (fun _ : Unit => [(h0, .inl (cI, n, .inl (wrI f o w)))])) 0 0 (va_A [(h0, .inl (cI, n, .inl f))] sz) := by
  refine Met.ofW (cc := cX1_word) (maxL := 4) (ret := none) (by decide) rfl ?_
  intro p e s m args below meth c s₁ B hml hv
  obtain ⟨rfl, hsz, hP, hD0, hE⟩ := hv
  have hx := B.exec
  have hb := B.bytes
  have hr := B.returns
  have hts := atoms_spec (ws := ws_ yX1_word cX1_word 4 none) B.pre
  have hts : ∀ w ∈ lw_all, w.before _ s = true := fun w h => hts w (List.mem_cons_of_mem _ h)
  have hown : s.vm.findClass RX1 = some m.cls := findClass_of_methodNamed B.named
  have hlocks := B.notSynchronized
  subst hsz
  have hD := hD0.self (sz := s.heap.size)
  generalize hAe : va_A [(h0, .inl (cI, n, .inl f))] s.heap.size = A at hD hE ⊢
  have hA : ∀ q : Nat, s.heap.size ≤ q → A q := fun q h => by rw [← hAe]; exact Or.inr h
  have hS : va_S A s.heap s.heap [] := va_S.rf
  have hK := hE.1
  have hP : va_P D vwCl [(h0, .inl (cI, n, .inl f))] s.heap := hP
  have hl := lv_entry ([.ref h0, .int (nI o), .int w]) (n := 4) (Nat.le_of_ble_eq_true rfl)
  rw [lg_entry_eq]
  generalize (lg_sl ([.ref h0, .int (nI o), .int w]) ++ List.replicate (4 - (lg_sl ([.ref h0, .int (nI o), .int w])).length) Slot.unset).toArray = ls at hl ⊢
  have hl : lv_has ls 4 [(0, .ref h0), (1, .int (nI o)), (2, .int w)] := hl
  refine lv_iconst (v := 0) hx hb dX1_word_0 (by decide) ?_
  refine lv_istore_n (lv' := [(3, .int 0), (0, .ref h0), (1, .int (nI o)), (2, .int w)]) hx hb dX1_word_1 rfl hl (by decide) rfl (fun ls hl => ?_)
  refine lv_iload_n hx hb dX1_word_2 rfl (lv_at hl 0 rfl) ?_
  refine lv_iconst (v := 4) hx hb dX1_word_3 (by decide) ?_
  refine lv_icmp_ge (tgt := 31) hx hb dX1_word_4 (by decide) (fun c9 => False.elim (by revert c9; decide)) (fun _ => ?_)
  refine lv_aload_n hx hb dX1_word_7 rfl (lv_at hl 1 rfl) ?_
  refine lv_iload_n hx hb dX1_word_8 rfl (lv_at hl 2 rfl) ?_
  refine lv_iload_n hx hb dX1_word_9 rfl (lv_at hl 0 rfl) ?_
  refine lv_iadd hx hb dX1_word_10 ?_
  refine lv_asi (y := nI o) (nI_add _ 0) ?_
  refine lv_iload_n hx hb dX1_word_11 rfl (lv_at hl 3 rfl) ?_
  refine lv_bipush (v := 24) hx hb dX1_word_12 (by decide) ?_
  refine lv_bipush (v := 8) hx hb dX1_word_14 (by decide) ?_
  refine lv_iload_n hx hb dX1_word_16 rfl (lv_at hl 0 rfl) ?_
  refine lv_imul hx hb dX1_word_17 ?_
  refine lv_asi (y := 0) (by decide) ?_
  refine lv_isub hx hb dX1_word_18 ?_
  refine lv_asi (y := 24) (by decide) ?_
  refine lv_ishr hx hb dX1_word_19 ?_
  refine lv_sipush (v := 255) hx hb dX1_word_20 (by decide) ?_
  refine lv_iand hx hb dX1_word_23 ?_
  refine k_iast (f' := upd f o ((w >>> ((24 : Int32) &&& 31)) &&& 255)) (w2 := [(h0, .inl (cI, n, .inl (upd f o ((w >>> ((24 : Int32) &&& 31)) &&& 255))))]) hx hb hK hP hD hS 0 rfl o rfl (by omega) hn rfl dX1_word_24 rfl (fun H locs hP hD hS => ?_)
  refine lv_iinc (v := 1) (lv' := [(3, .int 1), (0, .ref h0), (1, .int (nI o)), (2, .int w)]) hx hb dX1_word_25 hl (k := 0) rfl (by decide) (by decide) rfl (fun ls hl => ?_)
  refine lv_goto (tgt := 2) hx hb dX1_word_28 (by decide) ?_
  refine lv_iload_n hx hb dX1_word_2 rfl (lv_at hl 0 rfl) ?_
  refine lv_iconst (v := 4) hx hb dX1_word_3 (by decide) ?_
  refine lv_icmp_ge (tgt := 31) hx hb dX1_word_4 (by decide) (fun c9 => False.elim (by revert c9; decide)) (fun _ => ?_)
  refine lv_aload_n hx hb dX1_word_7 rfl (lv_at hl 1 rfl) ?_
  refine lv_iload_n hx hb dX1_word_8 rfl (lv_at hl 2 rfl) ?_
  refine lv_iload_n hx hb dX1_word_9 rfl (lv_at hl 0 rfl) ?_
  refine lv_iadd hx hb dX1_word_10 ?_
  refine lv_asi (y := nI (o + 1)) (nI_add _ 1) ?_
  refine lv_iload_n hx hb dX1_word_11 rfl (lv_at hl 3 rfl) ?_
  refine lv_bipush (v := 24) hx hb dX1_word_12 (by decide) ?_
  refine lv_bipush (v := 8) hx hb dX1_word_14 (by decide) ?_
  refine lv_iload_n hx hb dX1_word_16 rfl (lv_at hl 0 rfl) ?_
  refine lv_imul hx hb dX1_word_17 ?_
  refine lv_asi (y := 8) (by decide) ?_
  refine lv_isub hx hb dX1_word_18 ?_
  refine lv_asi (y := 16) (by decide) ?_
  refine lv_ishr hx hb dX1_word_19 ?_
  refine lv_sipush (v := 255) hx hb dX1_word_20 (by decide) ?_
  refine lv_iand hx hb dX1_word_23 ?_
  refine k_iast (f' := upd (upd f o ((w >>> ((24 : Int32) &&& 31)) &&& 255)) (o + 1) ((w >>> ((16 : Int32) &&& 31)) &&& 255)) (w2 := [(h0, .inl (cI, n, .inl (upd (upd f o ((w >>> ((24 : Int32) &&& 31)) &&& 255)) (o + 1) ((w >>> ((16 : Int32) &&& 31)) &&& 255))))]) hx hb hK hP hD hS 0 rfl (o + 1) rfl (by omega) hn rfl dX1_word_24 rfl (fun H locs hP hD hS => ?_)
  refine lv_iinc (v := 2) (lv' := [(3, .int 2), (0, .ref h0), (1, .int (nI o)), (2, .int w)]) hx hb dX1_word_25 hl (k := 0) rfl (by decide) (by decide) rfl (fun ls hl => ?_)
  refine lv_goto (tgt := 2) hx hb dX1_word_28 (by decide) ?_
  refine lv_iload_n hx hb dX1_word_2 rfl (lv_at hl 0 rfl) ?_
  refine lv_iconst (v := 4) hx hb dX1_word_3 (by decide) ?_
  refine lv_icmp_ge (tgt := 31) hx hb dX1_word_4 (by decide) (fun c9 => False.elim (by revert c9; decide)) (fun _ => ?_)
  refine lv_aload_n hx hb dX1_word_7 rfl (lv_at hl 1 rfl) ?_
  refine lv_iload_n hx hb dX1_word_8 rfl (lv_at hl 2 rfl) ?_
  refine lv_iload_n hx hb dX1_word_9 rfl (lv_at hl 0 rfl) ?_
  refine lv_iadd hx hb dX1_word_10 ?_
  refine lv_asi (y := nI (o + 2)) (nI_add _ 2) ?_
  refine lv_iload_n hx hb dX1_word_11 rfl (lv_at hl 3 rfl) ?_
  refine lv_bipush (v := 24) hx hb dX1_word_12 (by decide) ?_
  refine lv_bipush (v := 8) hx hb dX1_word_14 (by decide) ?_
  refine lv_iload_n hx hb dX1_word_16 rfl (lv_at hl 0 rfl) ?_
  refine lv_imul hx hb dX1_word_17 ?_
  refine lv_asi (y := 16) (by decide) ?_
  refine lv_isub hx hb dX1_word_18 ?_
  refine lv_asi (y := 8) (by decide) ?_
  refine lv_ishr hx hb dX1_word_19 ?_
  refine lv_sipush (v := 255) hx hb dX1_word_20 (by decide) ?_
  refine lv_iand hx hb dX1_word_23 ?_
  refine k_iast (f' := upd (upd (upd f o ((w >>> ((24 : Int32) &&& 31)) &&& 255)) (o + 1) ((w >>> ((16 : Int32) &&& 31)) &&& 255)) (o + 2) ((w >>> ((8 : Int32) &&& 31)) &&& 255)) (w2 := [(h0, .inl (cI, n, .inl (upd (upd (upd f o ((w >>> ((24 : Int32) &&& 31)) &&& 255)) (o + 1) ((w >>> ((16 : Int32) &&& 31)) &&& 255)) (o + 2) ((w >>> ((8 : Int32) &&& 31)) &&& 255))))]) hx hb hK hP hD hS 0 rfl (o + 2) rfl (by omega) hn rfl dX1_word_24 rfl (fun H locs hP hD hS => ?_)
  refine lv_iinc (v := 3) (lv' := [(3, .int 3), (0, .ref h0), (1, .int (nI o)), (2, .int w)]) hx hb dX1_word_25 hl (k := 0) rfl (by decide) (by decide) rfl (fun ls hl => ?_)
  refine lv_goto (tgt := 2) hx hb dX1_word_28 (by decide) ?_
  refine lv_iload_n hx hb dX1_word_2 rfl (lv_at hl 0 rfl) ?_
  refine lv_iconst (v := 4) hx hb dX1_word_3 (by decide) ?_
  refine lv_icmp_ge (tgt := 31) hx hb dX1_word_4 (by decide) (fun c9 => False.elim (by revert c9; decide)) (fun _ => ?_)
  refine lv_aload_n hx hb dX1_word_7 rfl (lv_at hl 1 rfl) ?_
  refine lv_iload_n hx hb dX1_word_8 rfl (lv_at hl 2 rfl) ?_
  refine lv_iload_n hx hb dX1_word_9 rfl (lv_at hl 0 rfl) ?_
  refine lv_iadd hx hb dX1_word_10 ?_
  refine lv_asi (y := nI (o + 3)) (nI_add _ 3) ?_
  refine lv_iload_n hx hb dX1_word_11 rfl (lv_at hl 3 rfl) ?_
  refine lv_bipush (v := 24) hx hb dX1_word_12 (by decide) ?_
  refine lv_bipush (v := 8) hx hb dX1_word_14 (by decide) ?_
  refine lv_iload_n hx hb dX1_word_16 rfl (lv_at hl 0 rfl) ?_
  refine lv_imul hx hb dX1_word_17 ?_
  refine lv_asi (y := 24) (by decide) ?_
  refine lv_isub hx hb dX1_word_18 ?_
  refine lv_asi (y := 0) (by decide) ?_
  refine lv_ishr hx hb dX1_word_19 ?_
  refine lv_sipush (v := 255) hx hb dX1_word_20 (by decide) ?_
  refine lv_iand hx hb dX1_word_23 ?_
  refine k_iast (f' := upd (upd (upd (upd f o ((w >>> ((24 : Int32) &&& 31)) &&& 255)) (o + 1) ((w >>> ((16 : Int32) &&& 31)) &&& 255)) (o + 2) ((w >>> ((8 : Int32) &&& 31)) &&& 255)) (o + 3) ((w >>> ((0 : Int32) &&& 31)) &&& 255)) (w2 := [(h0, .inl (cI, n, .inl (upd (upd (upd (upd f o ((w >>> ((24 : Int32) &&& 31)) &&& 255)) (o + 1) ((w >>> ((16 : Int32) &&& 31)) &&& 255)) (o + 2) ((w >>> ((8 : Int32) &&& 31)) &&& 255)) (o + 3) ((w >>> ((0 : Int32) &&& 31)) &&& 255))))]) hx hb hK hP hD hS 0 rfl (o + 3) rfl (by omega) hn rfl dX1_word_24 rfl (fun H locs hP hD hS => ?_)
  refine lv_iinc (v := 4) (lv' := [(3, .int 4), (0, .ref h0), (1, .int (nI o)), (2, .int w)]) hx hb dX1_word_25 hl (k := 0) rfl (by decide) (by decide) rfl (fun ls hl => ?_)
  refine lv_goto (tgt := 2) hx hb dX1_word_28 (by decide) ?_
  refine lv_iload_n hx hb dX1_word_2 rfl (lv_at hl 0 rfl) ?_
  refine lv_iconst (v := 4) hx hb dX1_word_3 (by decide) ?_
  refine lv_icmp_ge (tgt := 31) hx hb dX1_word_4 (by decide) (fun _ => ?_) (fun c9 => False.elim (by revert c9; decide))
  exact W.vret hx hb hr (fun t ht hW => ⟨⟨(), rfl, trivial, by rw [ht]; exact hP, hD⟩, hS.F ht⟩) hS.2.2 dX1_word_31
set_option maxHeartbeats 4000000 in
set_option maxRecDepth 100000 in
theorem metX1_key (l : Launch) (D : va_G) (cB cI : ClassId) (sz : Nat) (h0 h1 h2 h3 : Nat) (fk : Nat → Int32) (hf v1 v2 v3 v4 : Int32) (o : Nat) (ho : o ≤ 16) (eo : (hf &&& 1) <<< ((4 : Int32) &&& 31) = nI o) : Met l yX1_key (ws_ yX1_key cX1_key 7 none) ({ frames := 1, cells := 0, slots := 0, locals := 60 } : Room) (PreE D cB cI [.ref h0, .int hf, .int v1, .int v2, .int v3, .int v4] sz [(h0, .inr (1, [.ref h1, .ref h2, .ref h3])), (h1, .inl (cI, 32, .inl fk))]) (PostV D (va_A [(h0, .inr (1, [.ref h1, .ref h2, .ref h3])), (h1, .inl (cI, 32, .inl fk))] sz) (fun _ : Unit => [(h0, .inr (1, [.ref h1, .ref h2, .ref h3])), (h1, .inl (cI, 32, .inl (wI4 fk o v1 v2 v3 v4)))])) 0 0 (va_A [(h0, .inr (1, [.ref h1, .ref h2, .ref h3])), (h1, .inl (cI, 32, .inl fk))] sz) := by
  refine Met.ofW (cc := cX1_key) (maxL := 7) (ret := none) (by decide) rfl ?_
  intro p e s m args below meth c s₁ B hml hv
  obtain ⟨rfl, hsz, hP, hD0, hE⟩ := hv
  have hx := B.exec
  have hb := B.bytes
  have hr := B.returns
  have hts := atoms_spec (ws := ws_ yX1_key cX1_key 7 none) B.pre
  have hts : ∀ w ∈ lw_all, w.before _ s = true := fun w h => hts w (List.mem_cons_of_mem _ h)
  have hown : s.vm.findClass RX1 = some m.cls := findClass_of_methodNamed B.named
  have hlocks := B.notSynchronized
  subst hsz
  have hD := hD0.self (sz := s.heap.size)
  generalize hAe : va_A [(h0, .inr (1, [.ref h1, .ref h2, .ref h3])), (h1, .inl (cI, 32, .inl fk))] s.heap.size = A at hD hE ⊢
  have hA : ∀ q : Nat, s.heap.size ≤ q → A q := fun q h => by rw [← hAe]; exact Or.inr h
  have hS : va_S A s.heap s.heap [] := va_S.rf
  have hK := hE.1
  have hP : va_P D vwCl [(h0, .inr (1, [.ref h1, .ref h2, .ref h3])), (h1, .inl (cI, 32, .inl fk))] s.heap := hP
  have hl := lv_entry ([.ref h0, .int hf, .int v1, .int v2, .int v3, .int v4]) (n := 7) (Nat.le_of_ble_eq_true rfl)
  rw [lg_entry_eq]
  generalize (lg_sl ([.ref h0, .int hf, .int v1, .int v2, .int v3, .int v4]) ++ List.replicate (7 - (lg_sl ([.ref h0, .int hf, .int v1, .int v2, .int v3, .int v4])).length) Slot.unset).toArray = ls at hl ⊢
  have hl : lv_has ls 7 [(0, .ref h0), (1, .int hf), (2, .int v1), (3, .int v2), (4, .int v3), (5, .int v4)] := hl
  refine lv_iload_n hx hb dX1_key_0 rfl (lv_at hl 1 rfl) ?_
  refine lv_iconst (v := 1) hx hb dX1_key_1 (by decide) ?_
  refine lv_iand hx hb dX1_key_2 ?_
  refine lv_iconst (v := 4) hx hb dX1_key_3 (by decide) ?_
  refine lv_ishl hx hb dX1_key_4 ?_
  refine lv_asi (y := nI o) eo ?_
  refine lv_istore (lv' := [(6, .int (nI o)), (0, .ref h0), (1, .int hf), (2, .int v1), (3, .int v2), (4, .int v3), (5, .int v4)]) hx hb dX1_key_5 hl (by decide) rfl (fun ls hl => ?_)
  refine lv_aload_n hx hb dX1_key_7 rfl (lv_at hl 1 rfl) ?_
  refine va_get (D := D) (ci := 1) (v := .ref h1) (C := RX1) (T := TX1) (N := 3) hx hb hts in_X1 hown hK hP 0 rfl rfl 0 (by decide) (hts _ q289) (fun _ h9 => h9) rfl dX1_key_8 ?_
  refine lv_iload hx hb dX1_key_11 (lv_at hl 0 rfl) ?_
  refine lv_iload_n hx hb dX1_key_13 rfl (lv_at hl 3 rfl) ?_
  refine k_v (D := D) (wc := [(h1, .inl (cI, 32, .inl fk))]) (wr := [(h0, .inr (1, [.ref h1, .ref h2, .ref h3]))]) (va_runS (As := [.ref h1, .int (nI o), .int v1]) (rest := []) ⟨hx, hb, hml, hown, hts⟩ (metX1_word l D cB cI s.heap.size h1 32 fk o v1 (by omega) (Nat.le_of_ble_eq_true rfl)) (va_cwS 3 hts (lw_S q303 q304 q8 q305) rfl rfl rfl (by decide +kernel) ⟨Nat.le_of_ble_eq_true rfl, Nat.le_of_ble_eq_true rfl⟩) ⟨PreE.blind, preE hE hP hD hS hA [1] rfl rfl⟩ rfl rfl hl.1 rfl (lv_room (Nat.le_of_ble_eq_true rfl)) dX1_key_14 ⟨Nat.le_of_ble_eq_true rfl, Nat.le_of_ble_eq_true rfl⟩) hP hD hS hA [1] [0] rfl rfl rfl (by decide) [0, 1] rfl (fun _ : Unit => [(h0, .inr (1, [.ref h1, .ref h2, .ref h3])), (h1, .inl (cI, 32, .inl (wrI fk o v1)))]) (fun _ => rfl) (fun _ H locs hP hD hS => ?_)
  refine lv_aload_n hx hb dX1_key_17 rfl (lv_at hl 1 rfl) ?_
  refine va_get (D := D) (ci := 1) (v := .ref h1) (C := RX1) (T := TX1) (N := 3) hx hb hts in_X1 hown hK hP 0 rfl rfl 0 (by decide) (hts _ q289) (fun _ h9 => h9) rfl dX1_key_18 ?_
  refine lv_iload hx hb dX1_key_21 (lv_at hl 0 rfl) ?_
  refine lv_iconst (v := 4) hx hb dX1_key_23 (by decide) ?_
  refine lv_iadd hx hb dX1_key_24 ?_
  refine lv_asi (y := nI (o + 4)) (nI_add _ 4) ?_
  refine lv_iload_n hx hb dX1_key_25 rfl (lv_at hl 4 rfl) ?_
  refine k_v (D := D) (wc := [(h1, .inl (cI, 32, .inl (wrI fk o v1)))]) (wr := [(h0, .inr (1, [.ref h1, .ref h2, .ref h3]))]) (va_runS (As := [.ref h1, .int (nI (o + 4)), .int v2]) (rest := []) ⟨hx, hb, hml, hown, hts⟩ (metX1_word l D cB cI H.size h1 32 (wrI fk o v1) (o + 4) v2 (by omega) (Nat.le_of_ble_eq_true rfl)) (va_cwS 3 hts (lw_S q303 q304 q8 q305) rfl rfl rfl (by decide +kernel) ⟨Nat.le_of_ble_eq_true rfl, Nat.le_of_ble_eq_true rfl⟩) ⟨PreE.blind, preE hE hP hD hS hA [1] rfl rfl⟩ rfl rfl hl.1 rfl (lv_room (Nat.le_of_ble_eq_true rfl)) dX1_key_26 ⟨Nat.le_of_ble_eq_true rfl, Nat.le_of_ble_eq_true rfl⟩) hP hD hS hA [1] [0] rfl rfl rfl (by decide) [0, 1] rfl (fun _ : Unit => [(h0, .inr (1, [.ref h1, .ref h2, .ref h3])), (h1, .inl (cI, 32, .inl (wrI (wrI fk o v1) (o + 4) v2)))]) (fun _ => rfl) (fun _ H locs hP hD hS => ?_)
  refine lv_aload_n hx hb dX1_key_29 rfl (lv_at hl 1 rfl) ?_
  refine va_get (D := D) (ci := 1) (v := .ref h1) (C := RX1) (T := TX1) (N := 3) hx hb hts in_X1 hown hK hP 0 rfl rfl 0 (by decide) (hts _ q289) (fun _ h9 => h9) rfl dX1_key_30 ?_
  refine lv_iload hx hb dX1_key_33 (lv_at hl 0 rfl) ?_
  refine lv_bipush (v := 8) hx hb dX1_key_35 (by decide) ?_
  refine lv_iadd hx hb dX1_key_37 ?_
  refine lv_asi (y := nI (o + 8)) (nI_add _ 8) ?_
  refine lv_iload hx hb dX1_key_38 (lv_at hl 5 rfl) ?_
  refine k_v (D := D) (wc := [(h1, .inl (cI, 32, .inl (wrI (wrI fk o v1) (o + 4) v2)))]) (wr := [(h0, .inr (1, [.ref h1, .ref h2, .ref h3]))]) (va_runS (As := [.ref h1, .int (nI (o + 8)), .int v3]) (rest := []) ⟨hx, hb, hml, hown, hts⟩ (metX1_word l D cB cI H.size h1 32 (wrI (wrI fk o v1) (o + 4) v2) (o + 8) v3 (by omega) (Nat.le_of_ble_eq_true rfl)) (va_cwS 3 hts (lw_S q303 q304 q8 q305) rfl rfl rfl (by decide +kernel) ⟨Nat.le_of_ble_eq_true rfl, Nat.le_of_ble_eq_true rfl⟩) ⟨PreE.blind, preE hE hP hD hS hA [1] rfl rfl⟩ rfl rfl hl.1 rfl (lv_room (Nat.le_of_ble_eq_true rfl)) dX1_key_40 ⟨Nat.le_of_ble_eq_true rfl, Nat.le_of_ble_eq_true rfl⟩) hP hD hS hA [1] [0] rfl rfl rfl (by decide) [0, 1] rfl (fun _ : Unit => [(h0, .inr (1, [.ref h1, .ref h2, .ref h3])), (h1, .inl (cI, 32, .inl (wrI (wrI (wrI fk o v1) (o + 4) v2) (o + 8) v3)))]) (fun _ => rfl) (fun _ H locs hP hD hS => ?_)
  refine lv_aload_n hx hb dX1_key_43 rfl (lv_at hl 1 rfl) ?_
  refine va_get (D := D) (ci := 1) (v := .ref h1) (C := RX1) (T := TX1) (N := 3) hx hb hts in_X1 hown hK hP 0 rfl rfl 0 (by decide) (hts _ q289) (fun _ h9 => h9) rfl dX1_key_44 ?_
  refine lv_iload hx hb dX1_key_47 (lv_at hl 0 rfl) ?_
  refine lv_bipush (v := 12) hx hb dX1_key_49 (by decide) ?_
  refine lv_iadd hx hb dX1_key_51 ?_
  refine lv_asi (y := nI (o + 12)) (nI_add _ 12) ?_
  refine lv_iload hx hb dX1_key_52 (lv_at hl 6 rfl) ?_
  refine k_v (D := D) (wc := [(h1, .inl (cI, 32, .inl (wrI (wrI (wrI fk o v1) (o + 4) v2) (o + 8) v3)))]) (wr := [(h0, .inr (1, [.ref h1, .ref h2, .ref h3]))]) (va_runS (As := [.ref h1, .int (nI (o + 12)), .int v4]) (rest := []) ⟨hx, hb, hml, hown, hts⟩ (metX1_word l D cB cI H.size h1 32 (wrI (wrI (wrI fk o v1) (o + 4) v2) (o + 8) v3) (o + 12) v4 (by omega) (Nat.le_of_ble_eq_true rfl)) (va_cwS 3 hts (lw_S q303 q304 q8 q305) rfl rfl rfl (by decide +kernel) ⟨Nat.le_of_ble_eq_true rfl, Nat.le_of_ble_eq_true rfl⟩) ⟨PreE.blind, preE hE hP hD hS hA [1] rfl rfl⟩ rfl rfl hl.1 rfl (lv_room (Nat.le_of_ble_eq_true rfl)) dX1_key_54 ⟨Nat.le_of_ble_eq_true rfl, Nat.le_of_ble_eq_true rfl⟩) hP hD hS hA [1] [0] rfl rfl rfl (by decide) [0, 1] rfl (fun _ : Unit => [(h0, .inr (1, [.ref h1, .ref h2, .ref h3])), (h1, .inl (cI, 32, .inl (wrI (wrI (wrI (wrI fk o v1) (o + 4) v2) (o + 8) v3) (o + 12) v4)))]) (fun _ => rfl) (fun _ H locs hP hD hS => ?_)
  exact W.vret hx hb hr (fun t ht hW => ⟨⟨(), rfl, trivial, by rw [ht]; exact hP, hD⟩, hS.F ht⟩) hS.2.2 dX1_key_57
set_option maxHeartbeats 4000000 in
set_option maxRecDepth 100000 in
theorem metX1_block (l : Launch) (D : va_G) (cB cI : ClassId) (sz : Nat) (h0 h1 h2 h3 : Nat) (fb : Nat → Int32) (v1 v2 v3 v4 : Int32) : Met l yX1_block (ws_ yX1_block cX1_block 5 none) ({ frames := 1, cells := 0, slots := 0, locals := 60 } : Room) (PreE D cB cI [.ref h0, .int v1, .int v2, .int v3, .int v4] sz [(h0, .inr (1, [.ref h1, .ref h2, .ref h3])), (h2, .inl (cI, 16, .inl fb))]) (PostV D (va_A [(h0, .inr (1, [.ref h1, .ref h2, .ref h3])), (h2, .inl (cI, 16, .inl fb))] sz) (fun _ : Unit => [(h0, .inr (1, [.ref h1, .ref h2, .ref h3])), (h2, .inl (cI, 16, .inl (wI4 fb 0 v1 v2 v3 v4)))])) 0 0 (va_A [(h0, .inr (1, [.ref h1, .ref h2, .ref h3])), (h2, .inl (cI, 16, .inl fb))] sz) := by
  refine Met.ofW (cc := cX1_block) (maxL := 5) (ret := none) (by decide) rfl ?_
  intro p e s m args below meth c s₁ B hml hv
  obtain ⟨rfl, hsz, hP, hD0, hE⟩ := hv
  have hx := B.exec
  have hb := B.bytes
  have hr := B.returns
  have hts := atoms_spec (ws := ws_ yX1_block cX1_block 5 none) B.pre
  have hts : ∀ w ∈ lw_all, w.before _ s = true := fun w h => hts w (List.mem_cons_of_mem _ h)
  have hown : s.vm.findClass RX1 = some m.cls := findClass_of_methodNamed B.named
  have hlocks := B.notSynchronized
  subst hsz
  have hD := hD0.self (sz := s.heap.size)
  generalize hAe : va_A [(h0, .inr (1, [.ref h1, .ref h2, .ref h3])), (h2, .inl (cI, 16, .inl fb))] s.heap.size = A at hD hE ⊢
  have hA : ∀ q : Nat, s.heap.size ≤ q → A q := fun q h => by rw [← hAe]; exact Or.inr h
  have hS : va_S A s.heap s.heap [] := va_S.rf
  have hK := hE.1
  have hP : va_P D vwCl [(h0, .inr (1, [.ref h1, .ref h2, .ref h3])), (h2, .inl (cI, 16, .inl fb))] s.heap := hP
  have hl := lv_entry ([.ref h0, .int v1, .int v2, .int v3, .int v4]) (n := 5) (Nat.le_of_ble_eq_true rfl)
  rw [lg_entry_eq]
  generalize (lg_sl ([.ref h0, .int v1, .int v2, .int v3, .int v4]) ++ List.replicate (5 - (lg_sl ([.ref h0, .int v1, .int v2, .int v3, .int v4])).length) Slot.unset).toArray = ls at hl ⊢
  have hl : lv_has ls 5 [(0, .ref h0), (1, .int v1), (2, .int v2), (3, .int v3), (4, .int v4)] := hl
  refine lv_aload_n hx hb dX1_block_0 rfl (lv_at hl 0 rfl) ?_
  refine va_get (D := D) (ci := 1) (v := .ref h2) (C := RX1) (T := TX1) (N := 3) hx hb hts in_X1 hown hK hP 0 rfl rfl 1 (by decide) (hts _ q290) (fun _ h9 => h9) rfl dX1_block_1 ?_
  refine lv_iconst (v := 0) hx hb dX1_block_4 (by decide) ?_
  refine lv_asi (y := nI 0) rfl ?_
  refine lv_iload_n hx hb dX1_block_5 rfl (lv_at hl 1 rfl) ?_
  refine k_v (D := D) (wc := [(h2, .inl (cI, 16, .inl fb))]) (wr := [(h0, .inr (1, [.ref h1, .ref h2, .ref h3]))]) (va_runS (As := [.ref h2, .int (nI 0), .int v1]) (rest := []) ⟨hx, hb, hml, hown, hts⟩ (metX1_word l D cB cI s.heap.size h2 16 fb 0 v1 (by omega) (Nat.le_of_ble_eq_true rfl)) (va_cwS 3 hts (lw_S q303 q304 q8 q305) rfl rfl rfl (by decide +kernel) ⟨Nat.le_of_ble_eq_true rfl, Nat.le_of_ble_eq_true rfl⟩) ⟨PreE.blind, preE hE hP hD hS hA [1] rfl rfl⟩ rfl rfl hl.1 rfl (lv_room (Nat.le_of_ble_eq_true rfl)) dX1_block_6 ⟨Nat.le_of_ble_eq_true rfl, Nat.le_of_ble_eq_true rfl⟩) hP hD hS hA [1] [0] rfl rfl rfl (by decide) [0, 1] rfl (fun _ : Unit => [(h0, .inr (1, [.ref h1, .ref h2, .ref h3])), (h2, .inl (cI, 16, .inl (wrI fb 0 v1)))]) (fun _ => rfl) (fun _ H locs hP hD hS => ?_)
  refine lv_aload_n hx hb dX1_block_9 rfl (lv_at hl 0 rfl) ?_
  refine va_get (D := D) (ci := 1) (v := .ref h2) (C := RX1) (T := TX1) (N := 3) hx hb hts in_X1 hown hK hP 0 rfl rfl 1 (by decide) (hts _ q290) (fun _ h9 => h9) rfl dX1_block_10 ?_
  refine lv_iconst (v := 4) hx hb dX1_block_13 (by decide) ?_
  refine lv_asi (y := nI 4) rfl ?_
  refine lv_iload_n hx hb dX1_block_14 rfl (lv_at hl 2 rfl) ?_
  refine k_v (D := D) (wc := [(h2, .inl (cI, 16, .inl (wrI fb 0 v1)))]) (wr := [(h0, .inr (1, [.ref h1, .ref h2, .ref h3]))]) (va_runS (As := [.ref h2, .int (nI 4), .int v2]) (rest := []) ⟨hx, hb, hml, hown, hts⟩ (metX1_word l D cB cI H.size h2 16 (wrI fb 0 v1) 4 v2 (by omega) (Nat.le_of_ble_eq_true rfl)) (va_cwS 3 hts (lw_S q303 q304 q8 q305) rfl rfl rfl (by decide +kernel) ⟨Nat.le_of_ble_eq_true rfl, Nat.le_of_ble_eq_true rfl⟩) ⟨PreE.blind, preE hE hP hD hS hA [1] rfl rfl⟩ rfl rfl hl.1 rfl (lv_room (Nat.le_of_ble_eq_true rfl)) dX1_block_15 ⟨Nat.le_of_ble_eq_true rfl, Nat.le_of_ble_eq_true rfl⟩) hP hD hS hA [1] [0] rfl rfl rfl (by decide) [0, 1] rfl (fun _ : Unit => [(h0, .inr (1, [.ref h1, .ref h2, .ref h3])), (h2, .inl (cI, 16, .inl (wrI (wrI fb 0 v1) 4 v2)))]) (fun _ => rfl) (fun _ H locs hP hD hS => ?_)
  refine lv_aload_n hx hb dX1_block_18 rfl (lv_at hl 0 rfl) ?_
  refine va_get (D := D) (ci := 1) (v := .ref h2) (C := RX1) (T := TX1) (N := 3) hx hb hts in_X1 hown hK hP 0 rfl rfl 1 (by decide) (hts _ q290) (fun _ h9 => h9) rfl dX1_block_19 ?_
  refine lv_bipush (v := 8) hx hb dX1_block_22 (by decide) ?_
  refine lv_asi (y := nI 8) rfl ?_
  refine lv_iload_n hx hb dX1_block_24 rfl (lv_at hl 3 rfl) ?_
  refine k_v (D := D) (wc := [(h2, .inl (cI, 16, .inl (wrI (wrI fb 0 v1) 4 v2)))]) (wr := [(h0, .inr (1, [.ref h1, .ref h2, .ref h3]))]) (va_runS (As := [.ref h2, .int (nI 8), .int v3]) (rest := []) ⟨hx, hb, hml, hown, hts⟩ (metX1_word l D cB cI H.size h2 16 (wrI (wrI fb 0 v1) 4 v2) 8 v3 (by omega) (Nat.le_of_ble_eq_true rfl)) (va_cwS 3 hts (lw_S q303 q304 q8 q305) rfl rfl rfl (by decide +kernel) ⟨Nat.le_of_ble_eq_true rfl, Nat.le_of_ble_eq_true rfl⟩) ⟨PreE.blind, preE hE hP hD hS hA [1] rfl rfl⟩ rfl rfl hl.1 rfl (lv_room (Nat.le_of_ble_eq_true rfl)) dX1_block_25 ⟨Nat.le_of_ble_eq_true rfl, Nat.le_of_ble_eq_true rfl⟩) hP hD hS hA [1] [0] rfl rfl rfl (by decide) [0, 1] rfl (fun _ : Unit => [(h0, .inr (1, [.ref h1, .ref h2, .ref h3])), (h2, .inl (cI, 16, .inl (wrI (wrI (wrI fb 0 v1) 4 v2) 8 v3)))]) (fun _ => rfl) (fun _ H locs hP hD hS => ?_)
  refine lv_aload_n hx hb dX1_block_28 rfl (lv_at hl 0 rfl) ?_
  refine va_get (D := D) (ci := 1) (v := .ref h2) (C := RX1) (T := TX1) (N := 3) hx hb hts in_X1 hown hK hP 0 rfl rfl 1 (by decide) (hts _ q290) (fun _ h9 => h9) rfl dX1_block_29 ?_
  refine lv_bipush (v := 12) hx hb dX1_block_32 (by decide) ?_
  refine lv_asi (y := nI 12) rfl ?_
  refine lv_iload hx hb dX1_block_34 (lv_at hl 4 rfl) ?_
  refine k_v (D := D) (wc := [(h2, .inl (cI, 16, .inl (wrI (wrI (wrI fb 0 v1) 4 v2) 8 v3)))]) (wr := [(h0, .inr (1, [.ref h1, .ref h2, .ref h3]))]) (va_runS (As := [.ref h2, .int (nI 12), .int v4]) (rest := []) ⟨hx, hb, hml, hown, hts⟩ (metX1_word l D cB cI H.size h2 16 (wrI (wrI (wrI fb 0 v1) 4 v2) 8 v3) 12 v4 (by omega) (Nat.le_of_ble_eq_true rfl)) (va_cwS 3 hts (lw_S q303 q304 q8 q305) rfl rfl rfl (by decide +kernel) ⟨Nat.le_of_ble_eq_true rfl, Nat.le_of_ble_eq_true rfl⟩) ⟨PreE.blind, preE hE hP hD hS hA [1] rfl rfl⟩ rfl rfl hl.1 rfl (lv_room (Nat.le_of_ble_eq_true rfl)) dX1_block_36 ⟨Nat.le_of_ble_eq_true rfl, Nat.le_of_ble_eq_true rfl⟩) hP hD hS hA [1] [0] rfl rfl rfl (by decide) [0, 1] rfl (fun _ : Unit => [(h0, .inr (1, [.ref h1, .ref h2, .ref h3])), (h2, .inl (cI, 16, .inl (wrI (wrI (wrI (wrI fb 0 v1) 4 v2) 8 v3) 12 v4)))]) (fun _ => rfl) (fun _ H locs hP hD hS => ?_)
  exact W.vret hx hb hr (fun t ht hW => ⟨⟨(), rfl, trivial, by rw [ht]; exact hP, hD⟩, hS.F ht⟩) hS.2.2 dX1_block_39
set_option maxHeartbeats 4000000 in
set_option maxRecDepth 100000 in
theorem metX1_again (l : Launch) (D : va_G) (cB cI : ClassId) (sz : Nat) (h0 h1 h2 h3 : Nat) (fb fo : Nat → Int32) : Met l yX1_again (ws_ yX1_again cX1_again 2 none) ({ frames := 0, cells := 0, slots := 0, locals := 0 } : Room) (PreE D cB cI [.ref h0] sz [(h0, .inr (1, [.ref h1, .ref h2, .ref h3])), (h2, .inl (cI, 16, .inl fb)), (h3, .inl (cI, 16, .inl fo))]) (PostV D (va_A [(h0, .inr (1, [.ref h1, .ref h2, .ref h3])), (h2, .inl (cI, 16, .inl fb)), (h3, .inl (cI, 16, .inl fo))] sz) (fun _ : Unit => [(h0, .inr (1, [.ref h1, .ref h2, .ref h3])), (h2, .inl (cI, 16, .inl (cpI fo fb 16))), (h3, .inl (cI, 16, .inl fo))])) 0 0 (va_A [(h0, .inr (1, [.ref h1, .ref h2, .ref h3])), (h2, .inl (cI, 16, .inl fb)), (h3, .inl (cI, 16, .inl fo))] sz) := by
  refine Met.ofW (cc := cX1_again) (maxL := 2) (ret := none) (by decide) rfl ?_
  intro p e s m args below meth c s₁ B hml hv
  obtain ⟨rfl, hsz, hP, hD0, hE⟩ := hv
  have hx := B.exec
  have hb := B.bytes
  have hr := B.returns
  have hts := atoms_spec (ws := ws_ yX1_again cX1_again 2 none) B.pre
  have hts : ∀ w ∈ lw_all, w.before _ s = true := fun w h => hts w (List.mem_cons_of_mem _ h)
  have hown : s.vm.findClass RX1 = some m.cls := findClass_of_methodNamed B.named
  have hlocks := B.notSynchronized
  subst hsz
  have hD := hD0.self (sz := s.heap.size)
  generalize hAe : va_A [(h0, .inr (1, [.ref h1, .ref h2, .ref h3])), (h2, .inl (cI, 16, .inl fb)), (h3, .inl (cI, 16, .inl fo))] s.heap.size = A at hD hE ⊢
  have hA : ∀ q : Nat, s.heap.size ≤ q → A q := fun q h => by rw [← hAe]; exact Or.inr h
  have hS : va_S A s.heap s.heap [] := va_S.rf
  have hK := hE.1
  have hP : va_P D vwCl [(h0, .inr (1, [.ref h1, .ref h2, .ref h3])), (h2, .inl (cI, 16, .inl fb)), (h3, .inl (cI, 16, .inl fo))] s.heap := hP
  have hl := lv_entry ([.ref h0]) (n := 2) (Nat.le_of_ble_eq_true rfl)
  rw [lg_entry_eq]
  generalize (lg_sl ([.ref h0]) ++ List.replicate (2 - (lg_sl ([.ref h0])).length) Slot.unset).toArray = ls at hl ⊢
  have hl : lv_has ls 2 [(0, .ref h0)] := hl
  refine lv_iconst (v := 0) hx hb dX1_again_0 (by decide) ?_
  refine lv_istore_n (lv' := [(1, .int 0), (0, .ref h0)]) hx hb dX1_again_1 rfl hl (by decide) rfl (fun ls hl => ?_)
  have loop : ∀ (n i : Nat), i + n = 16 → ∀ (H : Heap) (locs : List Loc) (ls : Array Slot), va_P D vwCl [(h0, .inr (1, [.ref h1, .ref h2, .ref h3])), (h2, .inl (cI, 16, .inl (cpI fo fb i))), (h3, .inl (cI, 16, .inl fo))] H → va_D A [(h0, .inr (1, [.ref h1, .ref h2, .ref h3])), (h2, .inl (cI, 16, .inl (cpI fo fb i))), (h3, .inl (cI, 16, .inl fo))] → va_S A s.heap H locs → lv_has ls 2 [(1, .int (nI i)), (0, .ref h0)] → W p l e (headSpec (ws_ yX1_again cX1_again 2 none) ({ frames := 0, cells := 0, slots := 0, locals := 0 } : Room)).room s m ([.ref h0] : List Value).toArray below meth c H locs 0 0 (MQ below (PostV D A (fun _ : Unit => [(h0, .inr (1, [.ref h1, .ref h2, .ref h3])), (h2, .inl (cI, 16, .inl (cpI fo fb 16))), (h3, .inl (cI, 16, .inl fo))])) ([.ref h0] : List Value).toArray s 0 0 A) (F0 m 2 ls []) := by
    intro n
    induction n with
    | zero =>
      intro i hi H locs ls hP hD hS hl
      have hi6 : i = 16 := by omega
      subst hi6
      refine lv_iload_n hx hb dX1_again_2 rfl (lv_at hl 0 rfl) ?_
      refine lv_bipush (v := 16) hx hb dX1_again_3 (by decide) ?_
      refine lv_icmp_ge (tgt := 26) hx hb dX1_again_5 (by decide) (fun _ => ?_) (fun c9 => absurd (nI_le (Nat.le_refl 16) (by omega)) c9)
      exact W.vret hx hb hr (fun t ht hW => ⟨⟨(), rfl, trivial, by rw [ht]; exact hP, hD⟩, hS.F ht⟩) hS.2.2 dX1_again_26
    | succ n ih =>
      intro i hi H locs ls hP hD hS hl
      refine lv_iload_n hx hb dX1_again_2 rfl (lv_at hl 0 rfl) ?_
      refine lv_bipush (v := 16) hx hb dX1_again_3 (by decide) ?_
      refine lv_icmp_ge (tgt := 26) hx hb dX1_again_5 (by decide) (fun c9 => absurd c9 (nI_ge (a := i) (b := 16) (by omega) (by omega))) (fun _ => ?_)
      refine lv_aload_n hx hb dX1_again_8 rfl (lv_at hl 1 rfl) ?_
      refine va_get (D := D) (ci := 1) (v := .ref h2) (C := RX1) (T := TX1) (N := 3) hx hb hts in_X1 hown hK hP 0 rfl rfl 1 (by decide) (hts _ q290) (fun _ h9 => h9) rfl dX1_again_9 ?_
      refine lv_iload_n hx hb dX1_again_12 rfl (lv_at hl 0 rfl) ?_
      refine lv_aload_n hx hb dX1_again_13 rfl (lv_at hl 1 rfl) ?_
      refine va_get (D := D) (ci := 1) (v := .ref h3) (C := RX1) (T := TX1) (N := 3) hx hb hts in_X1 hown hK hP 0 rfl rfl 2 (by decide) (hts _ q291) (fun _ h9 => h9) rfl dX1_again_14 ?_
      refine lv_iload_n hx hb dX1_again_17 rfl (lv_at hl 0 rfl) ?_
      refine k_iald (v := fo i) hx hb hK hP 2 rfl i rfl (by omega) (Nat.le_of_ble_eq_true rfl) rfl dX1_again_18 ?_
      refine k_iast (f' := cpI fo fb (i + 1)) (w2 := [(h0, .inr (1, [.ref h1, .ref h2, .ref h3])), (h2, .inl (cI, 16, .inl (cpI fo fb (i + 1)))), (h3, .inl (cI, 16, .inl fo))]) hx hb hK hP hD hS 1 rfl i rfl (by omega) (Nat.le_of_ble_eq_true rfl) (cpI_s fo fb i) dX1_again_19 rfl (fun H locs hP hD hS => ?_)
      refine lv_iinc (v := nI (i + 1)) (lv' := [(1, .int (nI (i + 1))), (0, .ref h0)]) hx hb dX1_again_20 hl (k := 0) rfl (nI_add _ 1) (by decide) rfl (fun ls hl => ?_)
      refine lv_goto (tgt := 2) hx hb dX1_again_23 (by decide) ?_
      exact ih (i + 1) (by omega) H locs ls hP hD hS (lv_sub hl [0, 1] rfl)
  exact loop 16 0 (by omega) s.heap [] ls (by rw [cpI_0]; exact hP) (by rw [cpI_0]; exact hD) hS (lv_sub hl [0, 1] rfl)
set_option maxHeartbeats 4000000 in
set_option maxRecDepth 100000 in
theorem metX1_out (l : Launch) (D : va_G) (cB cI : ClassId) (sz : Nat) (h0 h1 h2 h3 : Nat) (fo : Nat → Int32) (x : Int32) (j : Nat) (hj : j < 16) (ej : x &&& 15 = nI j) : Met l yX1_out (ws_ yX1_out cX1_out 2 (some .int)) ({ frames := 0, cells := 0, slots := 0, locals := 0 } : Room) (PreE D cB cI [.ref h0, .int x] sz [(h0, .inr (1, [.ref h1, .ref h2, .ref h3])), (h3, .inl (cI, 16, .inl fo))]) (vp_Si (fun r : Int32 => r = fo j)) 0 0 (fun _ => False) := by
  refine Met.ofW (cc := cX1_out) (maxL := 2) (ret := (some .int)) (by decide) rfl ?_
  intro p e s m args below meth c s₁ B hml hv
  obtain ⟨rfl, hsz, hP, hD0, hE⟩ := hv
  have hx := B.exec
  have hb := B.bytes
  have hr := B.returns
  have hts := atoms_spec (ws := ws_ yX1_out cX1_out 2 (some .int)) B.pre
  have hts : ∀ w ∈ lw_all, w.before _ s = true := fun w h => hts w (List.mem_cons_of_mem _ h)
  have hown : s.vm.findClass RX1 = some m.cls := findClass_of_methodNamed B.named
  have hlocks := B.notSynchronized
  subst hsz
  have hD := hD0.self (sz := s.heap.size)
  generalize hAe : va_A [(h0, .inr (1, [.ref h1, .ref h2, .ref h3])), (h3, .inl (cI, 16, .inl fo))] s.heap.size = A at hD hE ⊢
  have hA : ∀ q : Nat, s.heap.size ≤ q → A q := fun q h => by rw [← hAe]; exact Or.inr h
  have hS : va_S A s.heap s.heap [] := va_S.rf
  have hK := hE.1
  have hP : va_P D vwCl [(h0, .inr (1, [.ref h1, .ref h2, .ref h3])), (h3, .inl (cI, 16, .inl fo))] s.heap := hP
  have hl := lv_entry ([.ref h0, .int x]) (n := 2) (Nat.le_of_ble_eq_true rfl)
  rw [lg_entry_eq]
  generalize (lg_sl ([.ref h0, .int x]) ++ List.replicate (2 - (lg_sl ([.ref h0, .int x])).length) Slot.unset).toArray = ls at hl ⊢
  have hl : lv_has ls 2 [(0, .ref h0), (1, .int x)] := hl
  refine lv_aload_n hx hb dX1_out_0 rfl (lv_at hl 0 rfl) ?_
  refine va_get (D := D) (ci := 1) (v := .ref h3) (C := RX1) (T := TX1) (N := 3) hx hb hts in_X1 hown hK hP 0 rfl rfl 2 (by decide) (hts _ q291) (fun _ h9 => h9) rfl dX1_out_1 ?_
  refine lv_iload_n hx hb dX1_out_4 rfl (lv_at hl 1 rfl) ?_
  refine lv_bipush (v := 15) hx hb dX1_out_5 (by decide) ?_
  refine lv_iand hx hb dX1_out_7 ?_
  refine lv_asi (y := nI j) ej ?_
  refine k_iald (v := fo j) hx hb hK hP 1 rfl j rfl (by omega) (Nat.le_of_ble_eq_true rfl) rfl dX1_out_8 ?_
  exact W.iret (v := fo j) hx hb hr (fun t ht hW => ⟨_, rfl, rfl, ht⟩) (fun q hq => by cases hq) dX1_out_9
end
section
set_option maxHeartbeats 4000000 in
set_option maxRecDepth 100000 in
theorem metX1_words (l : Launch) (D : va_G) (cB cI : ClassId) (sz : Nat) (h0 : Nat) (g : Nat → Int32) : Met l yX1_words (ws_ yX1_words cX1_words 3 (some (.array .int))) ({ frames := 0, cells := 1, slots := 4, locals := 0 } : Room) (PreE D cB cI [.ref h0] sz [(h0, .inl (cI, 16, .inl g))]) (PostR D (va_A [(h0, .inl (cI, 16, .inl g))] sz) (fun u : Nat => [(h0, .inl (cI, 16, .inl g)), (u, .inl (cI, 4, .inl (qf (woQ g))))])) 1 4 (va_A [(h0, .inl (cI, 16, .inl g))] sz) := by
  refine Met.ofW (cc := cX1_words) (maxL := 3) (ret := (some (.array .int))) (by decide) rfl ?_
  intro p e s m args below meth c s₁ B hml hv
  obtain ⟨rfl, hsz, hP, hD0, hE⟩ := hv
  have hx := B.exec
  have hb := B.bytes
  have hr := B.returns
  have hts := atoms_spec (ws := ws_ yX1_words cX1_words 3 (some (.array .int))) B.pre
  have hts : ∀ w ∈ lw_all, w.before _ s = true := fun w h => hts w (List.mem_cons_of_mem _ h)
  have hown : s.vm.findClass RX1 = some m.cls := findClass_of_methodNamed B.named
  have hlocks := B.notSynchronized
  subst hsz
  have hD := hD0.self (sz := s.heap.size)
  generalize hAe : va_A [(h0, .inl (cI, 16, .inl g))] s.heap.size = A at hD hE ⊢
  have hA : ∀ q : Nat, s.heap.size ≤ q → A q := fun q h => by rw [← hAe]; exact Or.inr h
  have hS : va_S A s.heap s.heap [] := va_S.rf
  have hK := hE.1
  have hP : va_P D vwCl [(h0, .inl (cI, 16, .inl g))] s.heap := hP
  have hl := lv_entry ([.ref h0]) (n := 3) (Nat.le_of_ble_eq_true rfl)
  rw [lg_entry_eq]
  generalize (lg_sl ([.ref h0]) ++ List.replicate (3 - (lg_sl ([.ref h0])).length) Slot.unset).toArray = ls at hl ⊢
  have hl : lv_has ls 3 [(0, .ref h0)] := hl
  refine lv_iconst (v := 4) hx hb dX1_words_0 (by decide) ?_
  refine k_newi hx hb (hts _ q80) hK hP hD hS hA 4 rfl (Nat.le_of_ble_eq_true rfl) (Nat.le_of_ble_eq_true rfl) (Nat.le_of_ble_eq_true rfl) dX1_words_1 (fun n1 H hP hD hS => ?_)
  have hP : va_P D vwCl [(h0, .inl (cI, 16, .inl g)), (n1, .inl (cI, 4, .inl (fun _ => 0)))] H := hP
  have hD : va_D A [(h0, .inl (cI, 16, .inl g)), (n1, .inl (cI, 4, .inl (fun _ => 0)))] := hD
  refine W.widen (k := 1) (n := 4) (Nat.le_refl _) (Nat.le_refl _) ?_
  have hP : va_P D vwCl [(h0, .inl (cI, 16, .inl g)), (n1, .inl (cI, 4, .inl (qf (0, 0, 0, 0))))] H := by rw [← qf_0]; exact hP
  have hD : va_D A [(h0, .inl (cI, 16, .inl g)), (n1, .inl (cI, 4, .inl (qf (0, 0, 0, 0))))] := by rw [← qf_0]; exact hD
  refine lv_astore_n (lv' := [(1, .ref n1), (0, .ref h0)]) hx hb dX1_words_3 rfl hl (by decide) rfl (fun ls hl => ?_)
  refine lv_iconst (v := 0) hx hb dX1_words_4 (by decide) ?_
  refine lv_istore_n (lv' := [(2, .int 0), (1, .ref n1), (0, .ref h0)]) hx hb dX1_words_5 rfl hl (by decide) rfl (fun ls hl => ?_)
  refine lv_iload_n hx hb dX1_words_6 rfl (lv_at hl 0 rfl) ?_
  refine lv_iconst (v := 4) hx hb dX1_words_7 (by decide) ?_
  refine lv_icmp_ge (tgt := 58) hx hb dX1_words_8 (by decide) (fun c9 => False.elim (by revert c9; decide)) (fun _ => ?_)
  refine lv_aload_n hx hb dX1_words_11 rfl (lv_at hl 1 rfl) ?_
  refine lv_iload_n hx hb dX1_words_12 rfl (lv_at hl 0 rfl) ?_
  refine lv_aload_n hx hb dX1_words_13 rfl (lv_at hl 2 rfl) ?_
  refine lv_iconst (v := 4) hx hb dX1_words_14 (by decide) ?_
  refine lv_iload_n hx hb dX1_words_15 rfl (lv_at hl 0 rfl) ?_
  refine lv_imul hx hb dX1_words_16 ?_
  refine lv_asi (y := 0) (by decide) ?_
  refine k_iald (v := g 0) hx hb hK hP 0 rfl 0 rfl (Nat.le_of_ble_eq_true rfl) (Nat.le_of_ble_eq_true rfl) rfl dX1_words_17 ?_
  refine lv_bipush (v := 24) hx hb dX1_words_18 (by decide) ?_
  refine lv_ishl hx hb dX1_words_20 ?_
  refine lv_aload_n hx hb dX1_words_21 rfl (lv_at hl 2 rfl) ?_
  refine lv_iconst (v := 4) hx hb dX1_words_22 (by decide) ?_
  refine lv_iload_n hx hb dX1_words_23 rfl (lv_at hl 0 rfl) ?_
  refine lv_imul hx hb dX1_words_24 ?_
  refine lv_asi (y := 0) (by decide) ?_
  refine lv_iconst (v := 1) hx hb dX1_words_25 (by decide) ?_
  refine lv_iadd hx hb dX1_words_26 ?_
  refine lv_asi (y := 1) (by decide) ?_
  refine k_iald (v := g 1) hx hb hK hP 0 rfl 1 rfl (Nat.le_of_ble_eq_true rfl) (Nat.le_of_ble_eq_true rfl) rfl dX1_words_27 ?_
  refine lv_bipush (v := 16) hx hb dX1_words_28 (by decide) ?_
  refine lv_ishl hx hb dX1_words_30 ?_
  refine lv_ior hx hb dX1_words_31 ?_
  refine lv_aload_n hx hb dX1_words_32 rfl (lv_at hl 2 rfl) ?_
  refine lv_iconst (v := 4) hx hb dX1_words_33 (by decide) ?_
  refine lv_iload_n hx hb dX1_words_34 rfl (lv_at hl 0 rfl) ?_
  refine lv_imul hx hb dX1_words_35 ?_
  refine lv_asi (y := 0) (by decide) ?_
  refine lv_iconst (v := 2) hx hb dX1_words_36 (by decide) ?_
  refine lv_iadd hx hb dX1_words_37 ?_
  refine lv_asi (y := 2) (by decide) ?_
  refine k_iald (v := g 2) hx hb hK hP 0 rfl 2 rfl (Nat.le_of_ble_eq_true rfl) (Nat.le_of_ble_eq_true rfl) rfl dX1_words_38 ?_
  refine lv_bipush (v := 8) hx hb dX1_words_39 (by decide) ?_
  refine lv_ishl hx hb dX1_words_41 ?_
  refine lv_ior hx hb dX1_words_42 ?_
  refine lv_aload_n hx hb dX1_words_43 rfl (lv_at hl 2 rfl) ?_
  refine lv_iconst (v := 4) hx hb dX1_words_44 (by decide) ?_
  refine lv_iload_n hx hb dX1_words_45 rfl (lv_at hl 0 rfl) ?_
  refine lv_imul hx hb dX1_words_46 ?_
  refine lv_asi (y := 0) (by decide) ?_
  refine lv_iconst (v := 3) hx hb dX1_words_47 (by decide) ?_
  refine lv_iadd hx hb dX1_words_48 ?_
  refine lv_asi (y := 3) (by decide) ?_
  refine k_iald (v := g 3) hx hb hK hP 0 rfl 3 rfl (Nat.le_of_ble_eq_true rfl) (Nat.le_of_ble_eq_true rfl) rfl dX1_words_49 ?_
  refine lv_ior hx hb dX1_words_50 ?_
  refine lv_asi (y := w4I g 0) rfl ?_
  refine k_iast (f' := qf (w4I g 0, 0, 0, 0)) (w2 := [(h0, .inl (cI, 16, .inl g)), (n1, .inl (cI, 4, .inl (qf (w4I g 0, 0, 0, 0))))]) hx hb hK hP hD hS 1 rfl 0 rfl (Nat.le_of_ble_eq_true rfl) (Nat.le_of_ble_eq_true rfl) (qf_u0 _ _ _ _ _) dX1_words_51 rfl (fun H locs hP hD hS => ?_)
  refine lv_iinc (v := 1) (lv' := [(2, .int 1), (1, .ref n1), (0, .ref h0)]) hx hb dX1_words_52 hl (k := 0) rfl (by decide) (by decide) rfl (fun ls hl => ?_)
  refine lv_goto (tgt := 6) hx hb dX1_words_55 (by decide) ?_
  refine lv_iload_n hx hb dX1_words_6 rfl (lv_at hl 0 rfl) ?_
  refine lv_iconst (v := 4) hx hb dX1_words_7 (by decide) ?_
  refine lv_icmp_ge (tgt := 58) hx hb dX1_words_8 (by decide) (fun c9 => False.elim (by revert c9; decide)) (fun _ => ?_)
  refine lv_aload_n hx hb dX1_words_11 rfl (lv_at hl 1 rfl) ?_
  refine lv_iload_n hx hb dX1_words_12 rfl (lv_at hl 0 rfl) ?_
  refine lv_aload_n hx hb dX1_words_13 rfl (lv_at hl 2 rfl) ?_
  refine lv_iconst (v := 4) hx hb dX1_words_14 (by decide) ?_
  refine lv_iload_n hx hb dX1_words_15 rfl (lv_at hl 0 rfl) ?_
  refine lv_imul hx hb dX1_words_16 ?_
  refine lv_asi (y := 4) (by decide) ?_
  refine k_iald (v := g 4) hx hb hK hP 0 rfl 4 rfl (Nat.le_of_ble_eq_true rfl) (Nat.le_of_ble_eq_true rfl) rfl dX1_words_17 ?_
  refine lv_bipush (v := 24) hx hb dX1_words_18 (by decide) ?_
  refine lv_ishl hx hb dX1_words_20 ?_
  refine lv_aload_n hx hb dX1_words_21 rfl (lv_at hl 2 rfl) ?_
  refine lv_iconst (v := 4) hx hb dX1_words_22 (by decide) ?_
  refine lv_iload_n hx hb dX1_words_23 rfl (lv_at hl 0 rfl) ?_
  refine lv_imul hx hb dX1_words_24 ?_
  refine lv_asi (y := 4) (by decide) ?_
  refine lv_iconst (v := 1) hx hb dX1_words_25 (by decide) ?_
  refine lv_iadd hx hb dX1_words_26 ?_
  refine lv_asi (y := 5) (by decide) ?_
  refine k_iald (v := g 5) hx hb hK hP 0 rfl 5 rfl (Nat.le_of_ble_eq_true rfl) (Nat.le_of_ble_eq_true rfl) rfl dX1_words_27 ?_
  refine lv_bipush (v := 16) hx hb dX1_words_28 (by decide) ?_
  refine lv_ishl hx hb dX1_words_30 ?_
  refine lv_ior hx hb dX1_words_31 ?_
  refine lv_aload_n hx hb dX1_words_32 rfl (lv_at hl 2 rfl) ?_
  refine lv_iconst (v := 4) hx hb dX1_words_33 (by decide) ?_
  refine lv_iload_n hx hb dX1_words_34 rfl (lv_at hl 0 rfl) ?_
  refine lv_imul hx hb dX1_words_35 ?_
  refine lv_asi (y := 4) (by decide) ?_
  refine lv_iconst (v := 2) hx hb dX1_words_36 (by decide) ?_
  refine lv_iadd hx hb dX1_words_37 ?_
  refine lv_asi (y := 6) (by decide) ?_
  refine k_iald (v := g 6) hx hb hK hP 0 rfl 6 rfl (Nat.le_of_ble_eq_true rfl) (Nat.le_of_ble_eq_true rfl) rfl dX1_words_38 ?_
  refine lv_bipush (v := 8) hx hb dX1_words_39 (by decide) ?_
  refine lv_ishl hx hb dX1_words_41 ?_
  refine lv_ior hx hb dX1_words_42 ?_
  refine lv_aload_n hx hb dX1_words_43 rfl (lv_at hl 2 rfl) ?_
  refine lv_iconst (v := 4) hx hb dX1_words_44 (by decide) ?_
  refine lv_iload_n hx hb dX1_words_45 rfl (lv_at hl 0 rfl) ?_
  refine lv_imul hx hb dX1_words_46 ?_
  refine lv_asi (y := 4) (by decide) ?_
  refine lv_iconst (v := 3) hx hb dX1_words_47 (by decide) ?_
  refine lv_iadd hx hb dX1_words_48 ?_
  refine lv_asi (y := 7) (by decide) ?_
  refine k_iald (v := g 7) hx hb hK hP 0 rfl 7 rfl (Nat.le_of_ble_eq_true rfl) (Nat.le_of_ble_eq_true rfl) rfl dX1_words_49 ?_
  refine lv_ior hx hb dX1_words_50 ?_
  refine lv_asi (y := w4I g 4) rfl ?_
  refine k_iast (f' := qf (w4I g 0, w4I g 4, 0, 0)) (w2 := [(h0, .inl (cI, 16, .inl g)), (n1, .inl (cI, 4, .inl (qf (w4I g 0, w4I g 4, 0, 0))))]) hx hb hK hP hD hS 1 rfl 1 rfl (Nat.le_of_ble_eq_true rfl) (Nat.le_of_ble_eq_true rfl) (qf_u1 _ _ _ _ _) dX1_words_51 rfl (fun H locs hP hD hS => ?_)
  refine lv_iinc (v := 2) (lv' := [(2, .int 2), (1, .ref n1), (0, .ref h0)]) hx hb dX1_words_52 hl (k := 0) rfl (by decide) (by decide) rfl (fun ls hl => ?_)
  refine lv_goto (tgt := 6) hx hb dX1_words_55 (by decide) ?_
  refine lv_iload_n hx hb dX1_words_6 rfl (lv_at hl 0 rfl) ?_
  refine lv_iconst (v := 4) hx hb dX1_words_7 (by decide) ?_
  refine lv_icmp_ge (tgt := 58) hx hb dX1_words_8 (by decide) (fun c9 => False.elim (by revert c9; decide)) (fun _ => ?_)
  refine lv_aload_n hx hb dX1_words_11 rfl (lv_at hl 1 rfl) ?_
  refine lv_iload_n hx hb dX1_words_12 rfl (lv_at hl 0 rfl) ?_
  refine lv_aload_n hx hb dX1_words_13 rfl (lv_at hl 2 rfl) ?_
  refine lv_iconst (v := 4) hx hb dX1_words_14 (by decide) ?_
  refine lv_iload_n hx hb dX1_words_15 rfl (lv_at hl 0 rfl) ?_
  refine lv_imul hx hb dX1_words_16 ?_
  refine lv_asi (y := 8) (by decide) ?_
  refine k_iald (v := g 8) hx hb hK hP 0 rfl 8 rfl (Nat.le_of_ble_eq_true rfl) (Nat.le_of_ble_eq_true rfl) rfl dX1_words_17 ?_
  refine lv_bipush (v := 24) hx hb dX1_words_18 (by decide) ?_
  refine lv_ishl hx hb dX1_words_20 ?_
  refine lv_aload_n hx hb dX1_words_21 rfl (lv_at hl 2 rfl) ?_
  refine lv_iconst (v := 4) hx hb dX1_words_22 (by decide) ?_
  refine lv_iload_n hx hb dX1_words_23 rfl (lv_at hl 0 rfl) ?_
  refine lv_imul hx hb dX1_words_24 ?_
  refine lv_asi (y := 8) (by decide) ?_
  refine lv_iconst (v := 1) hx hb dX1_words_25 (by decide) ?_
  refine lv_iadd hx hb dX1_words_26 ?_
  refine lv_asi (y := 9) (by decide) ?_
  refine k_iald (v := g 9) hx hb hK hP 0 rfl 9 rfl (Nat.le_of_ble_eq_true rfl) (Nat.le_of_ble_eq_true rfl) rfl dX1_words_27 ?_
  refine lv_bipush (v := 16) hx hb dX1_words_28 (by decide) ?_
  refine lv_ishl hx hb dX1_words_30 ?_
  refine lv_ior hx hb dX1_words_31 ?_
  refine lv_aload_n hx hb dX1_words_32 rfl (lv_at hl 2 rfl) ?_
  refine lv_iconst (v := 4) hx hb dX1_words_33 (by decide) ?_
  refine lv_iload_n hx hb dX1_words_34 rfl (lv_at hl 0 rfl) ?_
  refine lv_imul hx hb dX1_words_35 ?_
  refine lv_asi (y := 8) (by decide) ?_
  refine lv_iconst (v := 2) hx hb dX1_words_36 (by decide) ?_
  refine lv_iadd hx hb dX1_words_37 ?_
  refine lv_asi (y := 10) (by decide) ?_
  refine k_iald (v := g 10) hx hb hK hP 0 rfl 10 rfl (Nat.le_of_ble_eq_true rfl) (Nat.le_of_ble_eq_true rfl) rfl dX1_words_38 ?_
  refine lv_bipush (v := 8) hx hb dX1_words_39 (by decide) ?_
  refine lv_ishl hx hb dX1_words_41 ?_
  refine lv_ior hx hb dX1_words_42 ?_
  refine lv_aload_n hx hb dX1_words_43 rfl (lv_at hl 2 rfl) ?_
  refine lv_iconst (v := 4) hx hb dX1_words_44 (by decide) ?_
  refine lv_iload_n hx hb dX1_words_45 rfl (lv_at hl 0 rfl) ?_
  refine lv_imul hx hb dX1_words_46 ?_
  refine lv_asi (y := 8) (by decide) ?_
  refine lv_iconst (v := 3) hx hb dX1_words_47 (by decide) ?_
  refine lv_iadd hx hb dX1_words_48 ?_
  refine lv_asi (y := 11) (by decide) ?_
  refine k_iald (v := g 11) hx hb hK hP 0 rfl 11 rfl (Nat.le_of_ble_eq_true rfl) (Nat.le_of_ble_eq_true rfl) rfl dX1_words_49 ?_
  refine lv_ior hx hb dX1_words_50 ?_
  refine lv_asi (y := w4I g 8) rfl ?_
  refine k_iast (f' := qf (w4I g 0, w4I g 4, w4I g 8, 0)) (w2 := [(h0, .inl (cI, 16, .inl g)), (n1, .inl (cI, 4, .inl (qf (w4I g 0, w4I g 4, w4I g 8, 0))))]) hx hb hK hP hD hS 1 rfl 2 rfl (Nat.le_of_ble_eq_true rfl) (Nat.le_of_ble_eq_true rfl) (qf_u2 _ _ _ _ _) dX1_words_51 rfl (fun H locs hP hD hS => ?_)
  refine lv_iinc (v := 3) (lv' := [(2, .int 3), (1, .ref n1), (0, .ref h0)]) hx hb dX1_words_52 hl (k := 0) rfl (by decide) (by decide) rfl (fun ls hl => ?_)
  refine lv_goto (tgt := 6) hx hb dX1_words_55 (by decide) ?_
  refine lv_iload_n hx hb dX1_words_6 rfl (lv_at hl 0 rfl) ?_
  refine lv_iconst (v := 4) hx hb dX1_words_7 (by decide) ?_
  refine lv_icmp_ge (tgt := 58) hx hb dX1_words_8 (by decide) (fun c9 => False.elim (by revert c9; decide)) (fun _ => ?_)
  refine lv_aload_n hx hb dX1_words_11 rfl (lv_at hl 1 rfl) ?_
  refine lv_iload_n hx hb dX1_words_12 rfl (lv_at hl 0 rfl) ?_
  refine lv_aload_n hx hb dX1_words_13 rfl (lv_at hl 2 rfl) ?_
  refine lv_iconst (v := 4) hx hb dX1_words_14 (by decide) ?_
  refine lv_iload_n hx hb dX1_words_15 rfl (lv_at hl 0 rfl) ?_
  refine lv_imul hx hb dX1_words_16 ?_
  refine lv_asi (y := 12) (by decide) ?_
  refine k_iald (v := g 12) hx hb hK hP 0 rfl 12 rfl (Nat.le_of_ble_eq_true rfl) (Nat.le_of_ble_eq_true rfl) rfl dX1_words_17 ?_
  refine lv_bipush (v := 24) hx hb dX1_words_18 (by decide) ?_
  refine lv_ishl hx hb dX1_words_20 ?_
  refine lv_aload_n hx hb dX1_words_21 rfl (lv_at hl 2 rfl) ?_
  refine lv_iconst (v := 4) hx hb dX1_words_22 (by decide) ?_
  refine lv_iload_n hx hb dX1_words_23 rfl (lv_at hl 0 rfl) ?_
  refine lv_imul hx hb dX1_words_24 ?_
  refine lv_asi (y := 12) (by decide) ?_
  refine lv_iconst (v := 1) hx hb dX1_words_25 (by decide) ?_
  refine lv_iadd hx hb dX1_words_26 ?_
  refine lv_asi (y := 13) (by decide) ?_
  refine k_iald (v := g 13) hx hb hK hP 0 rfl 13 rfl (Nat.le_of_ble_eq_true rfl) (Nat.le_of_ble_eq_true rfl) rfl dX1_words_27 ?_
  refine lv_bipush (v := 16) hx hb dX1_words_28 (by decide) ?_
  refine lv_ishl hx hb dX1_words_30 ?_
  refine lv_ior hx hb dX1_words_31 ?_
  refine lv_aload_n hx hb dX1_words_32 rfl (lv_at hl 2 rfl) ?_
  refine lv_iconst (v := 4) hx hb dX1_words_33 (by decide) ?_
  refine lv_iload_n hx hb dX1_words_34 rfl (lv_at hl 0 rfl) ?_
  refine lv_imul hx hb dX1_words_35 ?_
  refine lv_asi (y := 12) (by decide) ?_
  refine lv_iconst (v := 2) hx hb dX1_words_36 (by decide) ?_
  refine lv_iadd hx hb dX1_words_37 ?_
  refine lv_asi (y := 14) (by decide) ?_
  refine k_iald (v := g 14) hx hb hK hP 0 rfl 14 rfl (Nat.le_of_ble_eq_true rfl) (Nat.le_of_ble_eq_true rfl) rfl dX1_words_38 ?_
  refine lv_bipush (v := 8) hx hb dX1_words_39 (by decide) ?_
  refine lv_ishl hx hb dX1_words_41 ?_
  refine lv_ior hx hb dX1_words_42 ?_
  refine lv_aload_n hx hb dX1_words_43 rfl (lv_at hl 2 rfl) ?_
  refine lv_iconst (v := 4) hx hb dX1_words_44 (by decide) ?_
  refine lv_iload_n hx hb dX1_words_45 rfl (lv_at hl 0 rfl) ?_
  refine lv_imul hx hb dX1_words_46 ?_
  refine lv_asi (y := 12) (by decide) ?_
  refine lv_iconst (v := 3) hx hb dX1_words_47 (by decide) ?_
  refine lv_iadd hx hb dX1_words_48 ?_
  refine lv_asi (y := 15) (by decide) ?_
  refine k_iald (v := g 15) hx hb hK hP 0 rfl 15 rfl (Nat.le_of_ble_eq_true rfl) (Nat.le_of_ble_eq_true rfl) rfl dX1_words_49 ?_
  refine lv_ior hx hb dX1_words_50 ?_
  refine lv_asi (y := w4I g 12) rfl ?_
  refine k_iast (f' := qf (w4I g 0, w4I g 4, w4I g 8, w4I g 12)) (w2 := [(h0, .inl (cI, 16, .inl g)), (n1, .inl (cI, 4, .inl (qf (w4I g 0, w4I g 4, w4I g 8, w4I g 12))))]) hx hb hK hP hD hS 1 rfl 3 rfl (Nat.le_of_ble_eq_true rfl) (Nat.le_of_ble_eq_true rfl) (qf_u3 _ _ _ _ _) dX1_words_51 rfl (fun H locs hP hD hS => ?_)
  refine lv_iinc (v := 4) (lv' := [(2, .int 4), (1, .ref n1), (0, .ref h0)]) hx hb dX1_words_52 hl (k := 0) rfl (by decide) (by decide) rfl (fun ls hl => ?_)
  refine lv_goto (tgt := 6) hx hb dX1_words_55 (by decide) ?_
  refine lv_iload_n hx hb dX1_words_6 rfl (lv_at hl 0 rfl) ?_
  refine lv_iconst (v := 4) hx hb dX1_words_7 (by decide) ?_
  refine lv_icmp_ge (tgt := 58) hx hb dX1_words_8 (by decide) (fun _ => ?_) (fun c9 => False.elim (by revert c9; decide))
  refine lv_aload_n hx hb dX1_words_58 rfl (lv_at hl 1 rfl) ?_
  exact W.aret (v := .ref n1) hx hb hr (Or.inr ⟨_, rfl⟩) (Or.inr ⟨_, rfl⟩) (fun t ht hW => ⟨⟨(), n1, rfl, trivial, by rw [ht]; exact hP, hD⟩, hS.F ht⟩) hS.2.2 dX1_words_59
set_option maxHeartbeats 4000000 in
set_option maxRecDepth 100000 in
theorem metX1_theta (l : Launch) (D : va_G) (cB cI : ClassId) (sz : Nat) (h0 h1 : Nat) (K X : Q4) : Met l yX1_theta (ws_ yX1_theta cX1_theta 4 none) ({ frames := 2, cells := 0, slots := 0, locals := 120 } : Room) (PreE D cB cI [.ref h0, .ref h1] sz [(h0, .inl (cI, 4, .inl (qf K))), (h1, .inl (cI, 4, .inl (qf X)))]) (PostV D (va_A [(h0, .inl (cI, 4, .inl (qf K))), (h1, .inl (cI, 4, .inl (qf X)))] sz) (fun _ : Unit => [(h0, .inl (cI, 4, .inl (qf K))), (h1, .inl (cI, 4, .inl (qf (thM K X))))])) 0 0 (va_A [(h0, .inl (cI, 4, .inl (qf K))), (h1, .inl (cI, 4, .inl (qf X)))] sz) := by
  refine Met.ofW (cc := cX1_theta) (maxL := 4) (ret := none) (by decide) rfl ?_
  intro p e s m args below meth c s₁ B hml hv
  obtain ⟨rfl, hsz, hP, hD0, hE⟩ := hv
  have hx := B.exec
  have hb := B.bytes
  have hr := B.returns
  have hts := atoms_spec (ws := ws_ yX1_theta cX1_theta 4 none) B.pre
  have hts : ∀ w ∈ lw_all, w.before _ s = true := fun w h => hts w (List.mem_cons_of_mem _ h)
  have hown : s.vm.findClass RX1 = some m.cls := findClass_of_methodNamed B.named
  have hlocks := B.notSynchronized
  subst hsz
  have hD := hD0.self (sz := s.heap.size)
  generalize hAe : va_A [(h0, .inl (cI, 4, .inl (qf K))), (h1, .inl (cI, 4, .inl (qf X)))] s.heap.size = A at hD hE ⊢
  have hA : ∀ q : Nat, s.heap.size ≤ q → A q := fun q h => by rw [← hAe]; exact Or.inr h
  have hS : va_S A s.heap s.heap [] := va_S.rf
  have hK := hE.1
  have hP : va_P D vwCl [(h0, .inl (cI, 4, .inl (qf K))), (h1, .inl (cI, 4, .inl (qf X)))] s.heap := hP
  have hl := lv_entry ([.ref h0, .ref h1]) (n := 4) (Nat.le_of_ble_eq_true rfl)
  rw [lg_entry_eq]
  generalize (lg_sl ([.ref h0, .ref h1]) ++ List.replicate (4 - (lg_sl ([.ref h0, .ref h1])).length) Slot.unset).toArray = ls at hl ⊢
  have hl : lv_has ls 4 [(0, .ref h0), (1, .ref h1)] := hl
  have hP : va_P D vwCl [(h0, .inl (cI, 4, .inl (qf K))), (h1, .inl (cI, 4, .inl (qf (X.1, X.2.1, X.2.2.1, X.2.2.2))))] _ := hP
  have hD : va_D A [(h0, .inl (cI, 4, .inl (qf K))), (h1, .inl (cI, 4, .inl (qf (X.1, X.2.1, X.2.2.1, X.2.2.2))))] := hD
  refine lv_aload_n hx hb dX1_theta_0 rfl (lv_at hl 1 rfl) ?_
  refine lv_iconst (v := 0) hx hb dX1_theta_1 (by decide) ?_
  refine k_iald (v := X.1) hx hb hK hP 1 rfl 0 rfl (Nat.le_of_ble_eq_true rfl) (Nat.le_of_ble_eq_true rfl) rfl dX1_theta_2 ?_
  refine lv_aload_n hx hb dX1_theta_3 rfl (lv_at hl 1 rfl) ?_
  refine lv_iconst (v := 2) hx hb dX1_theta_4 (by decide) ?_
  refine k_iald (v := X.2.2.1) hx hb hK hP 1 rfl 2 rfl (Nat.le_of_ble_eq_true rfl) (Nat.le_of_ble_eq_true rfl) rfl dX1_theta_5 ?_
  refine lv_ixor hx hb dX1_theta_6 ?_
  refine vp_callSi (va_Run.run (va_runS (As := [.int (X.1 ^^^ X.2.2.1)]) (rest := []) ⟨hx, hb, hml, hown, hts⟩ (metX1_spread l (X.1 ^^^ X.2.2.1)) (va_cwS 1 hts (lw_S q330 q331 q8 q332) rfl rfl rfl (by decide +kernel) ⟨Nat.le_of_ble_eq_true rfl, Nat.le_of_ble_eq_true rfl⟩) ⟨fun _ _ _ _ h => h, fun _ _ _ => ⟨rfl, trivial⟩⟩ rfl rfl hl.1 rfl (lv_room (Nat.le_of_ble_eq_true rfl)) dX1_theta_7 ⟨Nat.le_of_ble_eq_true rfl, Nat.le_of_ble_eq_true rfl⟩)) (fun r9 (e9 : r9 = spm (X.1 ^^^ X.2.2.1)) => ?_)
  subst e9
  refine lv_istore_n (lv' := [(2, .int (spm (X.1 ^^^ X.2.2.1))), (0, .ref h0), (1, .ref h1)]) hx hb dX1_theta_10 rfl hl (by decide) rfl (fun ls hl => ?_)
  refine lv_aload_n hx hb dX1_theta_11 rfl (lv_at hl 2 rfl) ?_
  refine lv_iconst (v := 1) hx hb dX1_theta_12 (by decide) ?_
  refine lv_dup2_11 hx hb dX1_theta_13 rfl rfl ?_
  refine k_iald (v := X.2.1) hx hb hK hP 1 rfl 1 rfl (Nat.le_of_ble_eq_true rfl) (Nat.le_of_ble_eq_true rfl) rfl dX1_theta_14 ?_
  refine lv_iload_n hx hb dX1_theta_15 rfl (lv_at hl 0 rfl) ?_
  refine lv_ixor hx hb dX1_theta_16 ?_
  refine k_iast (f' := qf (X.1, X.2.1 ^^^ (spm (X.1 ^^^ X.2.2.1)), X.2.2.1, X.2.2.2)) (w2 := [(h0, .inl (cI, 4, .inl (qf K))), (h1, .inl (cI, 4, .inl (qf (X.1, X.2.1 ^^^ (spm (X.1 ^^^ X.2.2.1)), X.2.2.1, X.2.2.2))))]) hx hb hK hP hD hS 1 rfl 1 rfl (Nat.le_of_ble_eq_true rfl) (Nat.le_of_ble_eq_true rfl) (qf_u1 _ _ _ _ _) dX1_theta_17 rfl (fun H locs hP hD hS => ?_)
  refine lv_aload_n hx hb dX1_theta_18 rfl (lv_at hl 2 rfl) ?_
  refine lv_iconst (v := 3) hx hb dX1_theta_19 (by decide) ?_
  refine lv_dup2_11 hx hb dX1_theta_20 rfl rfl ?_
  refine k_iald (v := X.2.2.2) hx hb hK hP 1 rfl 3 rfl (Nat.le_of_ble_eq_true rfl) (Nat.le_of_ble_eq_true rfl) rfl dX1_theta_21 ?_
  refine lv_iload_n hx hb dX1_theta_22 rfl (lv_at hl 0 rfl) ?_
  refine lv_ixor hx hb dX1_theta_23 ?_
  refine k_iast (f' := qf (X.1, X.2.1 ^^^ (spm (X.1 ^^^ X.2.2.1)), X.2.2.1, X.2.2.2 ^^^ (spm (X.1 ^^^ X.2.2.1)))) (w2 := [(h0, .inl (cI, 4, .inl (qf K))), (h1, .inl (cI, 4, .inl (qf (X.1, X.2.1 ^^^ (spm (X.1 ^^^ X.2.2.1)), X.2.2.1, X.2.2.2 ^^^ (spm (X.1 ^^^ X.2.2.1))))))]) hx hb hK hP hD hS 1 rfl 3 rfl (Nat.le_of_ble_eq_true rfl) (Nat.le_of_ble_eq_true rfl) (qf_u3 _ _ _ _ _) dX1_theta_24 rfl (fun H locs hP hD hS => ?_)
  refine lv_iconst (v := 0) hx hb dX1_theta_25 (by decide) ?_
  refine lv_istore_n (lv' := [(3, .int 0), (2, .int (spm (X.1 ^^^ X.2.2.1))), (0, .ref h0), (1, .ref h1)]) hx hb dX1_theta_26 rfl hl (by decide) rfl (fun ls hl => ?_)
  refine lv_iload_n hx hb dX1_theta_27 rfl (lv_at hl 0 rfl) ?_
  refine lv_iconst (v := 4) hx hb dX1_theta_28 (by decide) ?_
  refine lv_icmp_ge (tgt := 47) hx hb dX1_theta_29 (by decide) (fun c9 => False.elim (by revert c9; decide)) (fun _ => ?_)
  refine lv_aload_n hx hb dX1_theta_32 rfl (lv_at hl 3 rfl) ?_
  refine lv_iload_n hx hb dX1_theta_33 rfl (lv_at hl 0 rfl) ?_
  refine lv_dup2_11 hx hb dX1_theta_34 rfl rfl ?_
  refine k_iald (v := X.1) hx hb hK hP 1 rfl 0 rfl (Nat.le_of_ble_eq_true rfl) (Nat.le_of_ble_eq_true rfl) rfl dX1_theta_35 ?_
  refine lv_aload_n hx hb dX1_theta_36 rfl (lv_at hl 2 rfl) ?_
  refine lv_iload_n hx hb dX1_theta_37 rfl (lv_at hl 0 rfl) ?_
  refine k_iald (v := K.1) hx hb hK hP 0 rfl 0 rfl (Nat.le_of_ble_eq_true rfl) (Nat.le_of_ble_eq_true rfl) rfl dX1_theta_38 ?_
  refine lv_ixor hx hb dX1_theta_39 ?_
  refine k_iast (f' := qf (X.1 ^^^ K.1, X.2.1 ^^^ (spm (X.1 ^^^ X.2.2.1)), X.2.2.1, X.2.2.2 ^^^ (spm (X.1 ^^^ X.2.2.1)))) (w2 := [(h0, .inl (cI, 4, .inl (qf K))), (h1, .inl (cI, 4, .inl (qf (X.1 ^^^ K.1, X.2.1 ^^^ (spm (X.1 ^^^ X.2.2.1)), X.2.2.1, X.2.2.2 ^^^ (spm (X.1 ^^^ X.2.2.1))))))]) hx hb hK hP hD hS 1 rfl 0 rfl (Nat.le_of_ble_eq_true rfl) (Nat.le_of_ble_eq_true rfl) (qf_u0 _ _ _ _ _) dX1_theta_40 rfl (fun H locs hP hD hS => ?_)
  refine lv_iinc (v := 1) (lv' := [(3, .int 1), (2, .int (spm (X.1 ^^^ X.2.2.1))), (0, .ref h0), (1, .ref h1)]) hx hb dX1_theta_41 hl (k := 0) rfl (by decide) (by decide) rfl (fun ls hl => ?_)
  refine lv_goto (tgt := 27) hx hb dX1_theta_44 (by decide) ?_
  refine lv_iload_n hx hb dX1_theta_27 rfl (lv_at hl 0 rfl) ?_
  refine lv_iconst (v := 4) hx hb dX1_theta_28 (by decide) ?_
  refine lv_icmp_ge (tgt := 47) hx hb dX1_theta_29 (by decide) (fun c9 => False.elim (by revert c9; decide)) (fun _ => ?_)
  refine lv_aload_n hx hb dX1_theta_32 rfl (lv_at hl 3 rfl) ?_
  refine lv_iload_n hx hb dX1_theta_33 rfl (lv_at hl 0 rfl) ?_
  refine lv_dup2_11 hx hb dX1_theta_34 rfl rfl ?_
  refine k_iald (v := X.2.1 ^^^ (spm (X.1 ^^^ X.2.2.1))) hx hb hK hP 1 rfl 1 rfl (Nat.le_of_ble_eq_true rfl) (Nat.le_of_ble_eq_true rfl) rfl dX1_theta_35 ?_
  refine lv_aload_n hx hb dX1_theta_36 rfl (lv_at hl 2 rfl) ?_
  refine lv_iload_n hx hb dX1_theta_37 rfl (lv_at hl 0 rfl) ?_
  refine k_iald (v := K.2.1) hx hb hK hP 0 rfl 1 rfl (Nat.le_of_ble_eq_true rfl) (Nat.le_of_ble_eq_true rfl) rfl dX1_theta_38 ?_
  refine lv_ixor hx hb dX1_theta_39 ?_
  refine k_iast (f' := qf (X.1 ^^^ K.1, (X.2.1 ^^^ (spm (X.1 ^^^ X.2.2.1))) ^^^ K.2.1, X.2.2.1, X.2.2.2 ^^^ (spm (X.1 ^^^ X.2.2.1)))) (w2 := [(h0, .inl (cI, 4, .inl (qf K))), (h1, .inl (cI, 4, .inl (qf (X.1 ^^^ K.1, (X.2.1 ^^^ (spm (X.1 ^^^ X.2.2.1))) ^^^ K.2.1, X.2.2.1, X.2.2.2 ^^^ (spm (X.1 ^^^ X.2.2.1))))))]) hx hb hK hP hD hS 1 rfl 1 rfl (Nat.le_of_ble_eq_true rfl) (Nat.le_of_ble_eq_true rfl) (qf_u1 _ _ _ _ _) dX1_theta_40 rfl (fun H locs hP hD hS => ?_)
  refine lv_iinc (v := 2) (lv' := [(3, .int 2), (2, .int (spm (X.1 ^^^ X.2.2.1))), (0, .ref h0), (1, .ref h1)]) hx hb dX1_theta_41 hl (k := 0) rfl (by decide) (by decide) rfl (fun ls hl => ?_)
  refine lv_goto (tgt := 27) hx hb dX1_theta_44 (by decide) ?_
  refine lv_iload_n hx hb dX1_theta_27 rfl (lv_at hl 0 rfl) ?_
  refine lv_iconst (v := 4) hx hb dX1_theta_28 (by decide) ?_
  refine lv_icmp_ge (tgt := 47) hx hb dX1_theta_29 (by decide) (fun c9 => False.elim (by revert c9; decide)) (fun _ => ?_)
  refine lv_aload_n hx hb dX1_theta_32 rfl (lv_at hl 3 rfl) ?_
  refine lv_iload_n hx hb dX1_theta_33 rfl (lv_at hl 0 rfl) ?_
  refine lv_dup2_11 hx hb dX1_theta_34 rfl rfl ?_
  refine k_iald (v := X.2.2.1) hx hb hK hP 1 rfl 2 rfl (Nat.le_of_ble_eq_true rfl) (Nat.le_of_ble_eq_true rfl) rfl dX1_theta_35 ?_
  refine lv_aload_n hx hb dX1_theta_36 rfl (lv_at hl 2 rfl) ?_
  refine lv_iload_n hx hb dX1_theta_37 rfl (lv_at hl 0 rfl) ?_
  refine k_iald (v := K.2.2.1) hx hb hK hP 0 rfl 2 rfl (Nat.le_of_ble_eq_true rfl) (Nat.le_of_ble_eq_true rfl) rfl dX1_theta_38 ?_
  refine lv_ixor hx hb dX1_theta_39 ?_
  refine k_iast (f' := qf (X.1 ^^^ K.1, (X.2.1 ^^^ (spm (X.1 ^^^ X.2.2.1))) ^^^ K.2.1, X.2.2.1 ^^^ K.2.2.1, X.2.2.2 ^^^ (spm (X.1 ^^^ X.2.2.1)))) (w2 := [(h0, .inl (cI, 4, .inl (qf K))), (h1, .inl (cI, 4, .inl (qf (X.1 ^^^ K.1, (X.2.1 ^^^ (spm (X.1 ^^^ X.2.2.1))) ^^^ K.2.1, X.2.2.1 ^^^ K.2.2.1, X.2.2.2 ^^^ (spm (X.1 ^^^ X.2.2.1))))))]) hx hb hK hP hD hS 1 rfl 2 rfl (Nat.le_of_ble_eq_true rfl) (Nat.le_of_ble_eq_true rfl) (qf_u2 _ _ _ _ _) dX1_theta_40 rfl (fun H locs hP hD hS => ?_)
  refine lv_iinc (v := 3) (lv' := [(3, .int 3), (2, .int (spm (X.1 ^^^ X.2.2.1))), (0, .ref h0), (1, .ref h1)]) hx hb dX1_theta_41 hl (k := 0) rfl (by decide) (by decide) rfl (fun ls hl => ?_)
  refine lv_goto (tgt := 27) hx hb dX1_theta_44 (by decide) ?_
  refine lv_iload_n hx hb dX1_theta_27 rfl (lv_at hl 0 rfl) ?_
  refine lv_iconst (v := 4) hx hb dX1_theta_28 (by decide) ?_
  refine lv_icmp_ge (tgt := 47) hx hb dX1_theta_29 (by decide) (fun c9 => False.elim (by revert c9; decide)) (fun _ => ?_)
  refine lv_aload_n hx hb dX1_theta_32 rfl (lv_at hl 3 rfl) ?_
  refine lv_iload_n hx hb dX1_theta_33 rfl (lv_at hl 0 rfl) ?_
  refine lv_dup2_11 hx hb dX1_theta_34 rfl rfl ?_
  refine k_iald (v := X.2.2.2 ^^^ (spm (X.1 ^^^ X.2.2.1))) hx hb hK hP 1 rfl 3 rfl (Nat.le_of_ble_eq_true rfl) (Nat.le_of_ble_eq_true rfl) rfl dX1_theta_35 ?_
  refine lv_aload_n hx hb dX1_theta_36 rfl (lv_at hl 2 rfl) ?_
  refine lv_iload_n hx hb dX1_theta_37 rfl (lv_at hl 0 rfl) ?_
  refine k_iald (v := K.2.2.2) hx hb hK hP 0 rfl 3 rfl (Nat.le_of_ble_eq_true rfl) (Nat.le_of_ble_eq_true rfl) rfl dX1_theta_38 ?_
  refine lv_ixor hx hb dX1_theta_39 ?_
  refine k_iast (f' := qf (X.1 ^^^ K.1, (X.2.1 ^^^ (spm (X.1 ^^^ X.2.2.1))) ^^^ K.2.1, X.2.2.1 ^^^ K.2.2.1, (X.2.2.2 ^^^ (spm (X.1 ^^^ X.2.2.1))) ^^^ K.2.2.2)) (w2 := [(h0, .inl (cI, 4, .inl (qf K))), (h1, .inl (cI, 4, .inl (qf (X.1 ^^^ K.1, (X.2.1 ^^^ (spm (X.1 ^^^ X.2.2.1))) ^^^ K.2.1, X.2.2.1 ^^^ K.2.2.1, (X.2.2.2 ^^^ (spm (X.1 ^^^ X.2.2.1))) ^^^ K.2.2.2))))]) hx hb hK hP hD hS 1 rfl 3 rfl (Nat.le_of_ble_eq_true rfl) (Nat.le_of_ble_eq_true rfl) (qf_u3 _ _ _ _ _) dX1_theta_40 rfl (fun H locs hP hD hS => ?_)
  refine lv_iinc (v := 4) (lv' := [(3, .int 4), (2, .int (spm (X.1 ^^^ X.2.2.1))), (0, .ref h0), (1, .ref h1)]) hx hb dX1_theta_41 hl (k := 0) rfl (by decide) (by decide) rfl (fun ls hl => ?_)
  refine lv_goto (tgt := 27) hx hb dX1_theta_44 (by decide) ?_
  refine lv_iload_n hx hb dX1_theta_27 rfl (lv_at hl 0 rfl) ?_
  refine lv_iconst (v := 4) hx hb dX1_theta_28 (by decide) ?_
  refine lv_icmp_ge (tgt := 47) hx hb dX1_theta_29 (by decide) (fun _ => ?_) (fun c9 => False.elim (by revert c9; decide))
  refine lv_aload_n hx hb dX1_theta_47 rfl (lv_at hl 3 rfl) ?_
  refine lv_iconst (v := 1) hx hb dX1_theta_48 (by decide) ?_
  refine k_iald (v := (X.2.1 ^^^ (spm (X.1 ^^^ X.2.2.1))) ^^^ K.2.1) hx hb hK hP 1 rfl 1 rfl (Nat.le_of_ble_eq_true rfl) (Nat.le_of_ble_eq_true rfl) rfl dX1_theta_49 ?_
  refine lv_aload_n hx hb dX1_theta_50 rfl (lv_at hl 3 rfl) ?_
  refine lv_iconst (v := 3) hx hb dX1_theta_51 (by decide) ?_
  refine k_iald (v := (X.2.2.2 ^^^ (spm (X.1 ^^^ X.2.2.1))) ^^^ K.2.2.2) hx hb hK hP 1 rfl 3 rfl (Nat.le_of_ble_eq_true rfl) (Nat.le_of_ble_eq_true rfl) rfl dX1_theta_52 ?_
  refine lv_ixor hx hb dX1_theta_53 ?_
  refine vp_callSi (va_Run.run (va_runS (As := [.int (((X.2.1 ^^^ (spm (X.1 ^^^ X.2.2.1))) ^^^ K.2.1) ^^^ ((X.2.2.2 ^^^ (spm (X.1 ^^^ X.2.2.1))) ^^^ K.2.2.2))]) (rest := []) ⟨hx, hb, hml, hown, hts⟩ (metX1_spread l (((X.2.1 ^^^ (spm (X.1 ^^^ X.2.2.1))) ^^^ K.2.1) ^^^ ((X.2.2.2 ^^^ (spm (X.1 ^^^ X.2.2.1))) ^^^ K.2.2.2))) (va_cwS 1 hts (lw_S q330 q331 q8 q332) rfl rfl rfl (by decide +kernel) ⟨Nat.le_of_ble_eq_true rfl, Nat.le_of_ble_eq_true rfl⟩) ⟨fun _ _ _ _ h => h, fun _ _ _ => ⟨rfl, trivial⟩⟩ rfl rfl hl.1 rfl (lv_room (Nat.le_of_ble_eq_true rfl)) dX1_theta_54 ⟨Nat.le_of_ble_eq_true rfl, Nat.le_of_ble_eq_true rfl⟩)) (fun r9 (e9 : r9 = spm (((X.2.1 ^^^ (spm (X.1 ^^^ X.2.2.1))) ^^^ K.2.1) ^^^ ((X.2.2.2 ^^^ (spm (X.1 ^^^ X.2.2.1))) ^^^ K.2.2.2))) => ?_)
  subst e9
  refine lv_istore_n (lv' := [(3, .int (spm (((X.2.1 ^^^ (spm (X.1 ^^^ X.2.2.1))) ^^^ K.2.1) ^^^ ((X.2.2.2 ^^^ (spm (X.1 ^^^ X.2.2.1))) ^^^ K.2.2.2)))), (2, .int (spm (X.1 ^^^ X.2.2.1))), (0, .ref h0), (1, .ref h1)]) hx hb dX1_theta_57 rfl hl (by decide) rfl (fun ls hl => ?_)
  refine lv_aload_n hx hb dX1_theta_58 rfl (lv_at hl 3 rfl) ?_
  refine lv_iconst (v := 0) hx hb dX1_theta_59 (by decide) ?_
  refine lv_dup2_11 hx hb dX1_theta_60 rfl rfl ?_
  refine k_iald (v := X.1 ^^^ K.1) hx hb hK hP 1 rfl 0 rfl (Nat.le_of_ble_eq_true rfl) (Nat.le_of_ble_eq_true rfl) rfl dX1_theta_61 ?_
  refine lv_iload_n hx hb dX1_theta_62 rfl (lv_at hl 0 rfl) ?_
  refine lv_ixor hx hb dX1_theta_63 ?_
  refine k_iast (f' := qf ((X.1 ^^^ K.1) ^^^ (spm (((X.2.1 ^^^ (spm (X.1 ^^^ X.2.2.1))) ^^^ K.2.1) ^^^ ((X.2.2.2 ^^^ (spm (X.1 ^^^ X.2.2.1))) ^^^ K.2.2.2))), (X.2.1 ^^^ (spm (X.1 ^^^ X.2.2.1))) ^^^ K.2.1, X.2.2.1 ^^^ K.2.2.1, (X.2.2.2 ^^^ (spm (X.1 ^^^ X.2.2.1))) ^^^ K.2.2.2)) (w2 := [(h0, .inl (cI, 4, .inl (qf K))), (h1, .inl (cI, 4, .inl (qf ((X.1 ^^^ K.1) ^^^ (spm (((X.2.1 ^^^ (spm (X.1 ^^^ X.2.2.1))) ^^^ K.2.1) ^^^ ((X.2.2.2 ^^^ (spm (X.1 ^^^ X.2.2.1))) ^^^ K.2.2.2))), (X.2.1 ^^^ (spm (X.1 ^^^ X.2.2.1))) ^^^ K.2.1, X.2.2.1 ^^^ K.2.2.1, (X.2.2.2 ^^^ (spm (X.1 ^^^ X.2.2.1))) ^^^ K.2.2.2))))]) hx hb hK hP hD hS 1 rfl 0 rfl (Nat.le_of_ble_eq_true rfl) (Nat.le_of_ble_eq_true rfl) (qf_u0 _ _ _ _ _) dX1_theta_64 rfl (fun H locs hP hD hS => ?_)
  refine lv_aload_n hx hb dX1_theta_65 rfl (lv_at hl 3 rfl) ?_
  refine lv_iconst (v := 2) hx hb dX1_theta_66 (by decide) ?_
  refine lv_dup2_11 hx hb dX1_theta_67 rfl rfl ?_
  refine k_iald (v := X.2.2.1 ^^^ K.2.2.1) hx hb hK hP 1 rfl 2 rfl (Nat.le_of_ble_eq_true rfl) (Nat.le_of_ble_eq_true rfl) rfl dX1_theta_68 ?_
  refine lv_iload_n hx hb dX1_theta_69 rfl (lv_at hl 0 rfl) ?_
  refine lv_ixor hx hb dX1_theta_70 ?_
  refine k_iast (f' := qf ((X.1 ^^^ K.1) ^^^ (spm (((X.2.1 ^^^ (spm (X.1 ^^^ X.2.2.1))) ^^^ K.2.1) ^^^ ((X.2.2.2 ^^^ (spm (X.1 ^^^ X.2.2.1))) ^^^ K.2.2.2))), (X.2.1 ^^^ (spm (X.1 ^^^ X.2.2.1))) ^^^ K.2.1, (X.2.2.1 ^^^ K.2.2.1) ^^^ (spm (((X.2.1 ^^^ (spm (X.1 ^^^ X.2.2.1))) ^^^ K.2.1) ^^^ ((X.2.2.2 ^^^ (spm (X.1 ^^^ X.2.2.1))) ^^^ K.2.2.2))), (X.2.2.2 ^^^ (spm (X.1 ^^^ X.2.2.1))) ^^^ K.2.2.2)) (w2 := [(h0, .inl (cI, 4, .inl (qf K))), (h1, .inl (cI, 4, .inl (qf ((X.1 ^^^ K.1) ^^^ (spm (((X.2.1 ^^^ (spm (X.1 ^^^ X.2.2.1))) ^^^ K.2.1) ^^^ ((X.2.2.2 ^^^ (spm (X.1 ^^^ X.2.2.1))) ^^^ K.2.2.2))), (X.2.1 ^^^ (spm (X.1 ^^^ X.2.2.1))) ^^^ K.2.1, (X.2.2.1 ^^^ K.2.2.1) ^^^ (spm (((X.2.1 ^^^ (spm (X.1 ^^^ X.2.2.1))) ^^^ K.2.1) ^^^ ((X.2.2.2 ^^^ (spm (X.1 ^^^ X.2.2.1))) ^^^ K.2.2.2))), (X.2.2.2 ^^^ (spm (X.1 ^^^ X.2.2.1))) ^^^ K.2.2.2))))]) hx hb hK hP hD hS 1 rfl 2 rfl (Nat.le_of_ble_eq_true rfl) (Nat.le_of_ble_eq_true rfl) (qf_u2 _ _ _ _ _) dX1_theta_71 rfl (fun H locs hP hD hS => ?_)
  exact W.vret hx hb hr (fun t ht hW => ⟨⟨(), rfl, trivial, by rw [ht]; exact hP, hD⟩, hS.F ht⟩) hS.2.2 dX1_theta_72
set_option maxHeartbeats 4000000 in
set_option maxRecDepth 100000 in
theorem metX1_turns_0 (l : Launch) (D : va_G) (cB cI : ClassId) (sz : Nat) (h0 : Nat) (X : Q4) : Met l yX1_turns (ws_ yX1_turns cX1_turns 2 none) ({ frames := 1, cells := 0, slots := 0, locals := 60 } : Room) (PreE D cB cI [.ref h0, .int 0] sz [(h0, .inl (cI, 4, .inl (qf X)))]) (PostV D (va_A [(h0, .inl (cI, 4, .inl (qf X)))] sz) (fun _ : Unit => [(h0, .inl (cI, 4, .inl (qf (tuA X))))])) 0 0 (va_A [(h0, .inl (cI, 4, .inl (qf X)))] sz) := by
  refine Met.ofW (cc := cX1_turns) (maxL := 2) (ret := none) (by decide) rfl ?_
  intro p e s m args below meth c s₁ B hml hv
  obtain ⟨rfl, hsz, hP, hD0, hE⟩ := hv
  have hx := B.exec
  have hb := B.bytes
  have hr := B.returns
  have hts := atoms_spec (ws := ws_ yX1_turns cX1_turns 2 none) B.pre
  have hts : ∀ w ∈ lw_all, w.before _ s = true := fun w h => hts w (List.mem_cons_of_mem _ h)
  have hown : s.vm.findClass RX1 = some m.cls := findClass_of_methodNamed B.named
  have hlocks := B.notSynchronized
  subst hsz
  have hD := hD0.self (sz := s.heap.size)
  generalize hAe : va_A [(h0, .inl (cI, 4, .inl (qf X)))] s.heap.size = A at hD hE ⊢
  have hA : ∀ q : Nat, s.heap.size ≤ q → A q := fun q h => by rw [← hAe]; exact Or.inr h
  have hS : va_S A s.heap s.heap [] := va_S.rf
  have hK := hE.1
  have hP : va_P D vwCl [(h0, .inl (cI, 4, .inl (qf X)))] s.heap := hP
  have hl := lv_entry ([.ref h0, .int 0]) (n := 2) (Nat.le_of_ble_eq_true rfl)
  rw [lg_entry_eq]
  generalize (lg_sl ([.ref h0, .int 0]) ++ List.replicate (2 - (lg_sl ([.ref h0, .int 0])).length) Slot.unset).toArray = ls at hl ⊢
  have hl : lv_has ls 2 [(0, .ref h0), (1, .int 0)] := hl
  have hP : va_P D vwCl [(h0, .inl (cI, 4, .inl (qf (X.1, X.2.1, X.2.2.1, X.2.2.2))))] _ := hP
  have hD : va_D A [(h0, .inl (cI, 4, .inl (qf (X.1, X.2.1, X.2.2.1, X.2.2.2))))] := hD
  refine lv_aload_n hx hb dX1_turns_0 rfl (lv_at hl 0 rfl) ?_
  refine lv_iconst (v := 1) hx hb dX1_turns_1 (by decide) ?_
  refine lv_aload_n hx hb dX1_turns_2 rfl (lv_at hl 0 rfl) ?_
  refine lv_iconst (v := 1) hx hb dX1_turns_3 (by decide) ?_
  refine k_iald (v := X.2.1) hx hb hK hP 0 rfl 1 rfl (Nat.le_of_ble_eq_true rfl) (Nat.le_of_ble_eq_true rfl) rfl dX1_turns_4 ?_
  refine lv_iload_n hx hb dX1_turns_5 rfl (lv_at hl 1 rfl) ?_
  refine lv_if_eq (tgt := 14) hx hb dX1_turns_6 (by decide) (fun _ => ?_) (fun c9 => False.elim (by revert c9; decide))
  refine lv_iconst (v := 1) hx hb dX1_turns_14 (by decide) ?_
  refine vp_callSi (va_Run.run (va_runS (As := [.int X.2.1, .int 1]) (rest := [.int 1, .ref h0]) ⟨hx, hb, hml, hown, hts⟩ (metX1_turned l X.2.1 1) (va_cwS 2 hts (lw_S q333 q334 q8 q335) rfl rfl rfl (by decide +kernel) ⟨Nat.le_of_ble_eq_true rfl, Nat.le_of_ble_eq_true rfl⟩) ⟨fun _ _ _ _ h => h, fun _ _ _ => ⟨rfl, trivial⟩⟩ rfl rfl hl.1 rfl (lv_room (Nat.le_of_ble_eq_true rfl)) dX1_turns_15 ⟨Nat.le_of_ble_eq_true rfl, Nat.le_of_ble_eq_true rfl⟩)) (fun r9 (e9 : r9 = trn X.2.1 1) => ?_)
  subst e9
  refine k_iast (f' := qf (X.1, trn X.2.1 1, X.2.2.1, X.2.2.2)) (w2 := [(h0, .inl (cI, 4, .inl (qf (X.1, trn X.2.1 1, X.2.2.1, X.2.2.2))))]) hx hb hK hP hD hS 0 rfl 1 rfl (Nat.le_of_ble_eq_true rfl) (Nat.le_of_ble_eq_true rfl) (qf_u1 _ _ _ _ _) dX1_turns_18 rfl (fun H locs hP hD hS => ?_)
  refine lv_aload_n hx hb dX1_turns_19 rfl (lv_at hl 0 rfl) ?_
  refine lv_iconst (v := 2) hx hb dX1_turns_20 (by decide) ?_
  refine lv_aload_n hx hb dX1_turns_21 rfl (lv_at hl 0 rfl) ?_
  refine lv_iconst (v := 2) hx hb dX1_turns_22 (by decide) ?_
  refine k_iald (v := X.2.2.1) hx hb hK hP 0 rfl 2 rfl (Nat.le_of_ble_eq_true rfl) (Nat.le_of_ble_eq_true rfl) rfl dX1_turns_23 ?_
  refine lv_iload_n hx hb dX1_turns_24 rfl (lv_at hl 1 rfl) ?_
  refine lv_if_eq (tgt := 33) hx hb dX1_turns_25 (by decide) (fun _ => ?_) (fun c9 => False.elim (by revert c9; decide))
  refine lv_iconst (v := 5) hx hb dX1_turns_33 (by decide) ?_
  refine vp_callSi (va_Run.run (va_runS (As := [.int X.2.2.1, .int 5]) (rest := [.int 2, .ref h0]) ⟨hx, hb, hml, hown, hts⟩ (metX1_turned l X.2.2.1 5) (va_cwS 2 hts (lw_S q333 q334 q8 q335) rfl rfl rfl (by decide +kernel) ⟨Nat.le_of_ble_eq_true rfl, Nat.le_of_ble_eq_true rfl⟩) ⟨fun _ _ _ _ h => h, fun _ _ _ => ⟨rfl, trivial⟩⟩ rfl rfl hl.1 rfl (lv_room (Nat.le_of_ble_eq_true rfl)) dX1_turns_34 ⟨Nat.le_of_ble_eq_true rfl, Nat.le_of_ble_eq_true rfl⟩)) (fun r9 (e9 : r9 = trn X.2.2.1 5) => ?_)
  subst e9
  refine k_iast (f' := qf (X.1, trn X.2.1 1, trn X.2.2.1 5, X.2.2.2)) (w2 := [(h0, .inl (cI, 4, .inl (qf (X.1, trn X.2.1 1, trn X.2.2.1 5, X.2.2.2))))]) hx hb hK hP hD hS 0 rfl 2 rfl (Nat.le_of_ble_eq_true rfl) (Nat.le_of_ble_eq_true rfl) (qf_u2 _ _ _ _ _) dX1_turns_37 rfl (fun H locs hP hD hS => ?_)
  refine lv_aload_n hx hb dX1_turns_38 rfl (lv_at hl 0 rfl) ?_
  refine lv_iconst (v := 3) hx hb dX1_turns_39 (by decide) ?_
  refine lv_aload_n hx hb dX1_turns_40 rfl (lv_at hl 0 rfl) ?_
  refine lv_iconst (v := 3) hx hb dX1_turns_41 (by decide) ?_
  refine k_iald (v := X.2.2.2) hx hb hK hP 0 rfl 3 rfl (Nat.le_of_ble_eq_true rfl) (Nat.le_of_ble_eq_true rfl) rfl dX1_turns_42 ?_
  refine lv_iload_n hx hb dX1_turns_43 rfl (lv_at hl 1 rfl) ?_
  refine lv_if_eq (tgt := 52) hx hb dX1_turns_44 (by decide) (fun _ => ?_) (fun c9 => False.elim (by revert c9; decide))
  refine lv_iconst (v := 2) hx hb dX1_turns_52 (by decide) ?_
  refine vp_callSi (va_Run.run (va_runS (As := [.int X.2.2.2, .int 2]) (rest := [.int 3, .ref h0]) ⟨hx, hb, hml, hown, hts⟩ (metX1_turned l X.2.2.2 2) (va_cwS 2 hts (lw_S q333 q334 q8 q335) rfl rfl rfl (by decide +kernel) ⟨Nat.le_of_ble_eq_true rfl, Nat.le_of_ble_eq_true rfl⟩) ⟨fun _ _ _ _ h => h, fun _ _ _ => ⟨rfl, trivial⟩⟩ rfl rfl hl.1 rfl (lv_room (Nat.le_of_ble_eq_true rfl)) dX1_turns_53 ⟨Nat.le_of_ble_eq_true rfl, Nat.le_of_ble_eq_true rfl⟩)) (fun r9 (e9 : r9 = trn X.2.2.2 2) => ?_)
  subst e9
  refine k_iast (f' := qf (X.1, trn X.2.1 1, trn X.2.2.1 5, trn X.2.2.2 2)) (w2 := [(h0, .inl (cI, 4, .inl (qf (X.1, trn X.2.1 1, trn X.2.2.1 5, trn X.2.2.2 2))))]) hx hb hK hP hD hS 0 rfl 3 rfl (Nat.le_of_ble_eq_true rfl) (Nat.le_of_ble_eq_true rfl) (qf_u3 _ _ _ _ _) dX1_turns_56 rfl (fun H locs hP hD hS => ?_)
  exact W.vret hx hb hr (fun t ht hW => ⟨⟨(), rfl, trivial, by rw [ht]; exact hP, hD⟩, hS.F ht⟩) hS.2.2 dX1_turns_57
set_option maxHeartbeats 4000000 in
set_option maxRecDepth 100000 in
theorem metX1_turns_1 (l : Launch) (D : va_G) (cB cI : ClassId) (sz : Nat) (h0 : Nat) (X : Q4) : Met l yX1_turns (ws_ yX1_turns cX1_turns 2 none) ({ frames := 1, cells := 0, slots := 0, locals := 60 } : Room) (PreE D cB cI [.ref h0, .int 1] sz [(h0, .inl (cI, 4, .inl (qf X)))]) (PostV D (va_A [(h0, .inl (cI, 4, .inl (qf X)))] sz) (fun _ : Unit => [(h0, .inl (cI, 4, .inl (qf (tuB X))))])) 0 0 (va_A [(h0, .inl (cI, 4, .inl (qf X)))] sz) := by
  refine Met.ofW (cc := cX1_turns) (maxL := 2) (ret := none) (by decide) rfl ?_
  intro p e s m args below meth c s₁ B hml hv
  obtain ⟨rfl, hsz, hP, hD0, hE⟩ := hv
  have hx := B.exec
  have hb := B.bytes
  have hr := B.returns
  have hts := atoms_spec (ws := ws_ yX1_turns cX1_turns 2 none) B.pre
  have hts : ∀ w ∈ lw_all, w.before _ s = true := fun w h => hts w (List.mem_cons_of_mem _ h)
  have hown : s.vm.findClass RX1 = some m.cls := findClass_of_methodNamed B.named
  have hlocks := B.notSynchronized
  subst hsz
  have hD := hD0.self (sz := s.heap.size)
  generalize hAe : va_A [(h0, .inl (cI, 4, .inl (qf X)))] s.heap.size = A at hD hE ⊢
  have hA : ∀ q : Nat, s.heap.size ≤ q → A q := fun q h => by rw [← hAe]; exact Or.inr h
  have hS : va_S A s.heap s.heap [] := va_S.rf
  have hK := hE.1
  have hP : va_P D vwCl [(h0, .inl (cI, 4, .inl (qf X)))] s.heap := hP
  have hl := lv_entry ([.ref h0, .int 1]) (n := 2) (Nat.le_of_ble_eq_true rfl)
  rw [lg_entry_eq]
  generalize (lg_sl ([.ref h0, .int 1]) ++ List.replicate (2 - (lg_sl ([.ref h0, .int 1])).length) Slot.unset).toArray = ls at hl ⊢
  have hl : lv_has ls 2 [(0, .ref h0), (1, .int 1)] := hl
  have hP : va_P D vwCl [(h0, .inl (cI, 4, .inl (qf (X.1, X.2.1, X.2.2.1, X.2.2.2))))] _ := hP
  have hD : va_D A [(h0, .inl (cI, 4, .inl (qf (X.1, X.2.1, X.2.2.1, X.2.2.2))))] := hD
  refine lv_aload_n hx hb dX1_turns_0 rfl (lv_at hl 0 rfl) ?_
  refine lv_iconst (v := 1) hx hb dX1_turns_1 (by decide) ?_
  refine lv_aload_n hx hb dX1_turns_2 rfl (lv_at hl 0 rfl) ?_
  refine lv_iconst (v := 1) hx hb dX1_turns_3 (by decide) ?_
  refine k_iald (v := X.2.1) hx hb hK hP 0 rfl 1 rfl (Nat.le_of_ble_eq_true rfl) (Nat.le_of_ble_eq_true rfl) rfl dX1_turns_4 ?_
  refine lv_iload_n hx hb dX1_turns_5 rfl (lv_at hl 1 rfl) ?_
  refine lv_if_eq (tgt := 14) hx hb dX1_turns_6 (by decide) (fun c9 => False.elim (by revert c9; decide)) (fun _ => ?_)
  refine lv_bipush (v := 31) hx hb dX1_turns_9 (by decide) ?_
  refine lv_goto (tgt := 15) hx hb dX1_turns_11 (by decide) ?_
  refine vp_callSi (va_Run.run (va_runS (As := [.int X.2.1, .int 31]) (rest := [.int 1, .ref h0]) ⟨hx, hb, hml, hown, hts⟩ (metX1_turned l X.2.1 31) (va_cwS 2 hts (lw_S q333 q334 q8 q335) rfl rfl rfl (by decide +kernel) ⟨Nat.le_of_ble_eq_true rfl, Nat.le_of_ble_eq_true rfl⟩) ⟨fun _ _ _ _ h => h, fun _ _ _ => ⟨rfl, trivial⟩⟩ rfl rfl hl.1 rfl (lv_room (Nat.le_of_ble_eq_true rfl)) dX1_turns_15 ⟨Nat.le_of_ble_eq_true rfl, Nat.le_of_ble_eq_true rfl⟩)) (fun r9 (e9 : r9 = trn X.2.1 31) => ?_)
  subst e9
  refine k_iast (f' := qf (X.1, trn X.2.1 31, X.2.2.1, X.2.2.2)) (w2 := [(h0, .inl (cI, 4, .inl (qf (X.1, trn X.2.1 31, X.2.2.1, X.2.2.2))))]) hx hb hK hP hD hS 0 rfl 1 rfl (Nat.le_of_ble_eq_true rfl) (Nat.le_of_ble_eq_true rfl) (qf_u1 _ _ _ _ _) dX1_turns_18 rfl (fun H locs hP hD hS => ?_)
  refine lv_aload_n hx hb dX1_turns_19 rfl (lv_at hl 0 rfl) ?_
  refine lv_iconst (v := 2) hx hb dX1_turns_20 (by decide) ?_
  refine lv_aload_n hx hb dX1_turns_21 rfl (lv_at hl 0 rfl) ?_
  refine lv_iconst (v := 2) hx hb dX1_turns_22 (by decide) ?_
  refine k_iald (v := X.2.2.1) hx hb hK hP 0 rfl 2 rfl (Nat.le_of_ble_eq_true rfl) (Nat.le_of_ble_eq_true rfl) rfl dX1_turns_23 ?_
  refine lv_iload_n hx hb dX1_turns_24 rfl (lv_at hl 1 rfl) ?_
  refine lv_if_eq (tgt := 33) hx hb dX1_turns_25 (by decide) (fun c9 => False.elim (by revert c9; decide)) (fun _ => ?_)
  refine lv_bipush (v := 27) hx hb dX1_turns_28 (by decide) ?_
  refine lv_goto (tgt := 34) hx hb dX1_turns_30 (by decide) ?_
  refine vp_callSi (va_Run.run (va_runS (As := [.int X.2.2.1, .int 27]) (rest := [.int 2, .ref h0]) ⟨hx, hb, hml, hown, hts⟩ (metX1_turned l X.2.2.1 27) (va_cwS 2 hts (lw_S q333 q334 q8 q335) rfl rfl rfl (by decide +kernel) ⟨Nat.le_of_ble_eq_true rfl, Nat.le_of_ble_eq_true rfl⟩) ⟨fun _ _ _ _ h => h, fun _ _ _ => ⟨rfl, trivial⟩⟩ rfl rfl hl.1 rfl (lv_room (Nat.le_of_ble_eq_true rfl)) dX1_turns_34 ⟨Nat.le_of_ble_eq_true rfl, Nat.le_of_ble_eq_true rfl⟩)) (fun r9 (e9 : r9 = trn X.2.2.1 27) => ?_)
  subst e9
  refine k_iast (f' := qf (X.1, trn X.2.1 31, trn X.2.2.1 27, X.2.2.2)) (w2 := [(h0, .inl (cI, 4, .inl (qf (X.1, trn X.2.1 31, trn X.2.2.1 27, X.2.2.2))))]) hx hb hK hP hD hS 0 rfl 2 rfl (Nat.le_of_ble_eq_true rfl) (Nat.le_of_ble_eq_true rfl) (qf_u2 _ _ _ _ _) dX1_turns_37 rfl (fun H locs hP hD hS => ?_)
  refine lv_aload_n hx hb dX1_turns_38 rfl (lv_at hl 0 rfl) ?_
  refine lv_iconst (v := 3) hx hb dX1_turns_39 (by decide) ?_
  refine lv_aload_n hx hb dX1_turns_40 rfl (lv_at hl 0 rfl) ?_
  refine lv_iconst (v := 3) hx hb dX1_turns_41 (by decide) ?_
  refine k_iald (v := X.2.2.2) hx hb hK hP 0 rfl 3 rfl (Nat.le_of_ble_eq_true rfl) (Nat.le_of_ble_eq_true rfl) rfl dX1_turns_42 ?_
  refine lv_iload_n hx hb dX1_turns_43 rfl (lv_at hl 1 rfl) ?_
  refine lv_if_eq (tgt := 52) hx hb dX1_turns_44 (by decide) (fun c9 => False.elim (by revert c9; decide)) (fun _ => ?_)
  refine lv_bipush (v := 30) hx hb dX1_turns_47 (by decide) ?_
  refine lv_goto (tgt := 53) hx hb dX1_turns_49 (by decide) ?_
  refine vp_callSi (va_Run.run (va_runS (As := [.int X.2.2.2, .int 30]) (rest := [.int 3, .ref h0]) ⟨hx, hb, hml, hown, hts⟩ (metX1_turned l X.2.2.2 30) (va_cwS 2 hts (lw_S q333 q334 q8 q335) rfl rfl rfl (by decide +kernel) ⟨Nat.le_of_ble_eq_true rfl, Nat.le_of_ble_eq_true rfl⟩) ⟨fun _ _ _ _ h => h, fun _ _ _ => ⟨rfl, trivial⟩⟩ rfl rfl hl.1 rfl (lv_room (Nat.le_of_ble_eq_true rfl)) dX1_turns_53 ⟨Nat.le_of_ble_eq_true rfl, Nat.le_of_ble_eq_true rfl⟩)) (fun r9 (e9 : r9 = trn X.2.2.2 30) => ?_)
  subst e9
  refine k_iast (f' := qf (X.1, trn X.2.1 31, trn X.2.2.1 27, trn X.2.2.2 30)) (w2 := [(h0, .inl (cI, 4, .inl (qf (X.1, trn X.2.1 31, trn X.2.2.1 27, trn X.2.2.2 30))))]) hx hb hK hP hD hS 0 rfl 3 rfl (Nat.le_of_ble_eq_true rfl) (Nat.le_of_ble_eq_true rfl) (qf_u3 _ _ _ _ _) dX1_turns_56 rfl (fun H locs hP hD hS => ?_)
  exact W.vret hx hb hr (fun t ht hW => ⟨⟨(), rfl, trivial, by rw [ht]; exact hP, hD⟩, hS.F ht⟩) hS.2.2 dX1_turns_57
set_option maxHeartbeats 4000000 in
set_option maxRecDepth 100000 in
theorem metX1_gamma (l : Launch) (D : va_G) (cB cI : ClassId) (sz : Nat) (h0 : Nat) (X : Q4) : Met l yX1_gamma (ws_ yX1_gamma cX1_gamma 2 none) ({ frames := 0, cells := 0, slots := 0, locals := 0 } : Room) (PreE D cB cI [.ref h0] sz [(h0, .inl (cI, 4, .inl (qf X)))]) (PostV D (va_A [(h0, .inl (cI, 4, .inl (qf X)))] sz) (fun _ : Unit => [(h0, .inl (cI, 4, .inl (qf (gaM X))))])) 0 0 (va_A [(h0, .inl (cI, 4, .inl (qf X)))] sz) := by
  refine Met.ofW (cc := cX1_gamma) (maxL := 2) (ret := none) (by decide) rfl ?_
  intro p e s m args below meth c s₁ B hml hv
  obtain ⟨rfl, hsz, hP, hD0, hE⟩ := hv
  have hx := B.exec
  have hb := B.bytes
  have hr := B.returns
  have hts := atoms_spec (ws := ws_ yX1_gamma cX1_gamma 2 none) B.pre
  have hts : ∀ w ∈ lw_all, w.before _ s = true := fun w h => hts w (List.mem_cons_of_mem _ h)
  have hown : s.vm.findClass RX1 = some m.cls := findClass_of_methodNamed B.named
  have hlocks := B.notSynchronized
  subst hsz
  have hD := hD0.self (sz := s.heap.size)
  generalize hAe : va_A [(h0, .inl (cI, 4, .inl (qf X)))] s.heap.size = A at hD hE ⊢
  have hA : ∀ q : Nat, s.heap.size ≤ q → A q := fun q h => by rw [← hAe]; exact Or.inr h
  have hS : va_S A s.heap s.heap [] := va_S.rf
  have hK := hE.1
  have hP : va_P D vwCl [(h0, .inl (cI, 4, .inl (qf X)))] s.heap := hP
  have hl := lv_entry ([.ref h0]) (n := 2) (Nat.le_of_ble_eq_true rfl)
  rw [lg_entry_eq]
  generalize (lg_sl ([.ref h0]) ++ List.replicate (2 - (lg_sl ([.ref h0])).length) Slot.unset).toArray = ls at hl ⊢
  have hl : lv_has ls 2 [(0, .ref h0)] := hl
  have hP : va_P D vwCl [(h0, .inl (cI, 4, .inl (qf (X.1, X.2.1, X.2.2.1, X.2.2.2))))] _ := hP
  have hD : va_D A [(h0, .inl (cI, 4, .inl (qf (X.1, X.2.1, X.2.2.1, X.2.2.2))))] := hD
  refine lv_aload_n hx hb dX1_gamma_0 rfl (lv_at hl 0 rfl) ?_
  refine lv_iconst (v := 1) hx hb dX1_gamma_1 (by decide) ?_
  refine lv_dup2_11 hx hb dX1_gamma_2 rfl rfl ?_
  refine k_iald (v := X.2.1) hx hb hK hP 0 rfl 1 rfl (Nat.le_of_ble_eq_true rfl) (Nat.le_of_ble_eq_true rfl) rfl dX1_gamma_3 ?_
  refine lv_aload_n hx hb dX1_gamma_4 rfl (lv_at hl 0 rfl) ?_
  refine lv_iconst (v := 3) hx hb dX1_gamma_5 (by decide) ?_
  refine k_iald (v := X.2.2.2) hx hb hK hP 0 rfl 3 rfl (Nat.le_of_ble_eq_true rfl) (Nat.le_of_ble_eq_true rfl) rfl dX1_gamma_6 ?_
  refine lv_iconst (v := -1) hx hb dX1_gamma_7 (by decide) ?_
  refine lv_ixor hx hb dX1_gamma_8 ?_
  refine lv_aload_n hx hb dX1_gamma_9 rfl (lv_at hl 0 rfl) ?_
  refine lv_iconst (v := 2) hx hb dX1_gamma_10 (by decide) ?_
  refine k_iald (v := X.2.2.1) hx hb hK hP 0 rfl 2 rfl (Nat.le_of_ble_eq_true rfl) (Nat.le_of_ble_eq_true rfl) rfl dX1_gamma_11 ?_
  refine lv_iconst (v := -1) hx hb dX1_gamma_12 (by decide) ?_
  refine lv_ixor hx hb dX1_gamma_13 ?_
  refine lv_iand hx hb dX1_gamma_14 ?_
  refine lv_ixor hx hb dX1_gamma_15 ?_
  refine lv_asi (y := gm1 X) rfl ?_
  refine k_iast (f' := qf (X.1, gm1 X, X.2.2.1, X.2.2.2)) (w2 := [(h0, .inl (cI, 4, .inl (qf (X.1, gm1 X, X.2.2.1, X.2.2.2))))]) hx hb hK hP hD hS 0 rfl 1 rfl (Nat.le_of_ble_eq_true rfl) (Nat.le_of_ble_eq_true rfl) (qf_u1 _ _ _ _ _) dX1_gamma_16 rfl (fun H locs hP hD hS => ?_)
  refine lv_aload_n hx hb dX1_gamma_17 rfl (lv_at hl 0 rfl) ?_
  refine lv_iconst (v := 0) hx hb dX1_gamma_18 (by decide) ?_
  refine lv_dup2_11 hx hb dX1_gamma_19 rfl rfl ?_
  refine k_iald (v := X.1) hx hb hK hP 0 rfl 0 rfl (Nat.le_of_ble_eq_true rfl) (Nat.le_of_ble_eq_true rfl) rfl dX1_gamma_20 ?_
  refine lv_aload_n hx hb dX1_gamma_21 rfl (lv_at hl 0 rfl) ?_
  refine lv_iconst (v := 2) hx hb dX1_gamma_22 (by decide) ?_
  refine k_iald (v := X.2.2.1) hx hb hK hP 0 rfl 2 rfl (Nat.le_of_ble_eq_true rfl) (Nat.le_of_ble_eq_true rfl) rfl dX1_gamma_23 ?_
  refine lv_aload_n hx hb dX1_gamma_24 rfl (lv_at hl 0 rfl) ?_
  refine lv_iconst (v := 1) hx hb dX1_gamma_25 (by decide) ?_
  refine k_iald (v := gm1 X) hx hb hK hP 0 rfl 1 rfl (Nat.le_of_ble_eq_true rfl) (Nat.le_of_ble_eq_true rfl) rfl dX1_gamma_26 ?_
  refine lv_iand hx hb dX1_gamma_27 ?_
  refine lv_ixor hx hb dX1_gamma_28 ?_
  refine lv_asi (y := gm0 X) rfl ?_
  refine k_iast (f' := qf (gm0 X, gm1 X, X.2.2.1, X.2.2.2)) (w2 := [(h0, .inl (cI, 4, .inl (qf (gm0 X, gm1 X, X.2.2.1, X.2.2.2))))]) hx hb hK hP hD hS 0 rfl 0 rfl (Nat.le_of_ble_eq_true rfl) (Nat.le_of_ble_eq_true rfl) (qf_u0 _ _ _ _ _) dX1_gamma_29 rfl (fun H locs hP hD hS => ?_)
  refine lv_aload_n hx hb dX1_gamma_30 rfl (lv_at hl 0 rfl) ?_
  refine lv_iconst (v := 3) hx hb dX1_gamma_31 (by decide) ?_
  refine k_iald (v := X.2.2.2) hx hb hK hP 0 rfl 3 rfl (Nat.le_of_ble_eq_true rfl) (Nat.le_of_ble_eq_true rfl) rfl dX1_gamma_32 ?_
  refine lv_istore_n (lv' := [(1, .int X.2.2.2), (0, .ref h0)]) hx hb dX1_gamma_33 rfl hl (by decide) rfl (fun ls hl => ?_)
  refine lv_aload_n hx hb dX1_gamma_34 rfl (lv_at hl 1 rfl) ?_
  refine lv_iconst (v := 3) hx hb dX1_gamma_35 (by decide) ?_
  refine lv_aload_n hx hb dX1_gamma_36 rfl (lv_at hl 1 rfl) ?_
  refine lv_iconst (v := 0) hx hb dX1_gamma_37 (by decide) ?_
  refine k_iald (v := gm0 X) hx hb hK hP 0 rfl 0 rfl (Nat.le_of_ble_eq_true rfl) (Nat.le_of_ble_eq_true rfl) rfl dX1_gamma_38 ?_
  refine k_iast (f' := qf (gm0 X, gm1 X, X.2.2.1, gm0 X)) (w2 := [(h0, .inl (cI, 4, .inl (qf (gm0 X, gm1 X, X.2.2.1, gm0 X))))]) hx hb hK hP hD hS 0 rfl 3 rfl (Nat.le_of_ble_eq_true rfl) (Nat.le_of_ble_eq_true rfl) (qf_u3 _ _ _ _ _) dX1_gamma_39 rfl (fun H locs hP hD hS => ?_)
  refine lv_aload_n hx hb dX1_gamma_40 rfl (lv_at hl 1 rfl) ?_
  refine lv_iconst (v := 0) hx hb dX1_gamma_41 (by decide) ?_
  refine lv_iload_n hx hb dX1_gamma_42 rfl (lv_at hl 0 rfl) ?_
  refine k_iast (f' := qf (X.2.2.2, gm1 X, X.2.2.1, gm0 X)) (w2 := [(h0, .inl (cI, 4, .inl (qf (X.2.2.2, gm1 X, X.2.2.1, gm0 X))))]) hx hb hK hP hD hS 0 rfl 0 rfl (Nat.le_of_ble_eq_true rfl) (Nat.le_of_ble_eq_true rfl) (qf_u0 _ _ _ _ _) dX1_gamma_43 rfl (fun H locs hP hD hS => ?_)
  refine lv_aload_n hx hb dX1_gamma_44 rfl (lv_at hl 1 rfl) ?_
  refine lv_iconst (v := 2) hx hb dX1_gamma_45 (by decide) ?_
  refine lv_dup2_11 hx hb dX1_gamma_46 rfl rfl ?_
  refine k_iald (v := X.2.2.1) hx hb hK hP 0 rfl 2 rfl (Nat.le_of_ble_eq_true rfl) (Nat.le_of_ble_eq_true rfl) rfl dX1_gamma_47 ?_
  refine lv_aload_n hx hb dX1_gamma_48 rfl (lv_at hl 1 rfl) ?_
  refine lv_iconst (v := 0) hx hb dX1_gamma_49 (by decide) ?_
  refine k_iald (v := X.2.2.2) hx hb hK hP 0 rfl 0 rfl (Nat.le_of_ble_eq_true rfl) (Nat.le_of_ble_eq_true rfl) rfl dX1_gamma_50 ?_
  refine lv_aload_n hx hb dX1_gamma_51 rfl (lv_at hl 1 rfl) ?_
  refine lv_iconst (v := 1) hx hb dX1_gamma_52 (by decide) ?_
  refine k_iald (v := gm1 X) hx hb hK hP 0 rfl 1 rfl (Nat.le_of_ble_eq_true rfl) (Nat.le_of_ble_eq_true rfl) rfl dX1_gamma_53 ?_
  refine lv_ixor hx hb dX1_gamma_54 ?_
  refine lv_aload_n hx hb dX1_gamma_55 rfl (lv_at hl 1 rfl) ?_
  refine lv_iconst (v := 3) hx hb dX1_gamma_56 (by decide) ?_
  refine k_iald (v := gm0 X) hx hb hK hP 0 rfl 3 rfl (Nat.le_of_ble_eq_true rfl) (Nat.le_of_ble_eq_true rfl) rfl dX1_gamma_57 ?_
  refine lv_ixor hx hb dX1_gamma_58 ?_
  refine lv_ixor hx hb dX1_gamma_59 ?_
  refine lv_asi (y := gm2 X) rfl ?_
  refine k_iast (f' := qf (X.2.2.2, gm1 X, gm2 X, gm0 X)) (w2 := [(h0, .inl (cI, 4, .inl (qf (X.2.2.2, gm1 X, gm2 X, gm0 X))))]) hx hb hK hP hD hS 0 rfl 2 rfl (Nat.le_of_ble_eq_true rfl) (Nat.le_of_ble_eq_true rfl) (qf_u2 _ _ _ _ _) dX1_gamma_60 rfl (fun H locs hP hD hS => ?_)
  refine lv_aload_n hx hb dX1_gamma_61 rfl (lv_at hl 1 rfl) ?_
  refine lv_iconst (v := 1) hx hb dX1_gamma_62 (by decide) ?_
  refine lv_dup2_11 hx hb dX1_gamma_63 rfl rfl ?_
  refine k_iald (v := gm1 X) hx hb hK hP 0 rfl 1 rfl (Nat.le_of_ble_eq_true rfl) (Nat.le_of_ble_eq_true rfl) rfl dX1_gamma_64 ?_
  refine lv_aload_n hx hb dX1_gamma_65 rfl (lv_at hl 1 rfl) ?_
  refine lv_iconst (v := 3) hx hb dX1_gamma_66 (by decide) ?_
  refine k_iald (v := gm0 X) hx hb hK hP 0 rfl 3 rfl (Nat.le_of_ble_eq_true rfl) (Nat.le_of_ble_eq_true rfl) rfl dX1_gamma_67 ?_
  refine lv_iconst (v := -1) hx hb dX1_gamma_68 (by decide) ?_
  refine lv_ixor hx hb dX1_gamma_69 ?_
  refine lv_aload_n hx hb dX1_gamma_70 rfl (lv_at hl 1 rfl) ?_
  refine lv_iconst (v := 2) hx hb dX1_gamma_71 (by decide) ?_
  refine k_iald (v := gm2 X) hx hb hK hP 0 rfl 2 rfl (Nat.le_of_ble_eq_true rfl) (Nat.le_of_ble_eq_true rfl) rfl dX1_gamma_72 ?_
  refine lv_iconst (v := -1) hx hb dX1_gamma_73 (by decide) ?_
  refine lv_ixor hx hb dX1_gamma_74 ?_
  refine lv_iand hx hb dX1_gamma_75 ?_
  refine lv_ixor hx hb dX1_gamma_76 ?_
  refine lv_asi (y := gn1 X) rfl ?_
  refine k_iast (f' := qf (X.2.2.2, gn1 X, gm2 X, gm0 X)) (w2 := [(h0, .inl (cI, 4, .inl (qf (X.2.2.2, gn1 X, gm2 X, gm0 X))))]) hx hb hK hP hD hS 0 rfl 1 rfl (Nat.le_of_ble_eq_true rfl) (Nat.le_of_ble_eq_true rfl) (qf_u1 _ _ _ _ _) dX1_gamma_77 rfl (fun H locs hP hD hS => ?_)
  refine lv_aload_n hx hb dX1_gamma_78 rfl (lv_at hl 1 rfl) ?_
  refine lv_iconst (v := 0) hx hb dX1_gamma_79 (by decide) ?_
  refine lv_dup2_11 hx hb dX1_gamma_80 rfl rfl ?_
  refine k_iald (v := X.2.2.2) hx hb hK hP 0 rfl 0 rfl (Nat.le_of_ble_eq_true rfl) (Nat.le_of_ble_eq_true rfl) rfl dX1_gamma_81 ?_
  refine lv_aload_n hx hb dX1_gamma_82 rfl (lv_at hl 1 rfl) ?_
  refine lv_iconst (v := 2) hx hb dX1_gamma_83 (by decide) ?_
  refine k_iald (v := gm2 X) hx hb hK hP 0 rfl 2 rfl (Nat.le_of_ble_eq_true rfl) (Nat.le_of_ble_eq_true rfl) rfl dX1_gamma_84 ?_
  refine lv_aload_n hx hb dX1_gamma_85 rfl (lv_at hl 1 rfl) ?_
  refine lv_iconst (v := 1) hx hb dX1_gamma_86 (by decide) ?_
  refine k_iald (v := gn1 X) hx hb hK hP 0 rfl 1 rfl (Nat.le_of_ble_eq_true rfl) (Nat.le_of_ble_eq_true rfl) rfl dX1_gamma_87 ?_
  refine lv_iand hx hb dX1_gamma_88 ?_
  refine lv_ixor hx hb dX1_gamma_89 ?_
  refine k_iast (f' := qf (X.2.2.2 ^^^ ((gm2 X) &&& (gn1 X)), gn1 X, gm2 X, gm0 X)) (w2 := [(h0, .inl (cI, 4, .inl (qf (X.2.2.2 ^^^ ((gm2 X) &&& (gn1 X)), gn1 X, gm2 X, gm0 X))))]) hx hb hK hP hD hS 0 rfl 0 rfl (Nat.le_of_ble_eq_true rfl) (Nat.le_of_ble_eq_true rfl) (qf_u0 _ _ _ _ _) dX1_gamma_90 rfl (fun H locs hP hD hS => ?_)
  exact W.vret hx hb hr (fun t ht hW => ⟨⟨(), rfl, trivial, by rw [ht]; exact hP, hD⟩, hS.F ht⟩) hS.2.2 dX1_gamma_91
theorem qf_adc (Y : Q4) (y : Int32) : upd (qf Y) 0 (Y.1 ^^^ y) = qf (adc Y y) := qf_u0 Y.1 Y.2.1 Y.2.2.1 Y.2.2.2 (Y.1 ^^^ y)
set_option maxHeartbeats 4000000 in
set_option maxRecDepth 100000 in
theorem metX1_round (l : Launch) (D : va_G) (cB cI : ClassId) (sz : Nat) (h0 h1 : Nat) (K X : Q4) (x y : Int32) : Met l yX1_round (ws_ yX1_round cX1_round 4 none) ({ frames := 3, cells := 0, slots := 0, locals := 180 } : Room) (PreE D cB cI [.ref h0, .ref h1, .int x, .int y] sz [(h0, .inl (cI, 4, .inl (qf K))), (h1, .inl (cI, 4, .inl (qf X)))]) (PostV D (va_A [(h0, .inl (cI, 4, .inl (qf K))), (h1, .inl (cI, 4, .inl (qf X)))] sz) (fun _ : Unit => [(h0, .inl (cI, 4, .inl (qf K))), (h1, .inl (cI, 4, .inl (qf (roM K X x y))))])) 0 0 (va_A [(h0, .inl (cI, 4, .inl (qf K))), (h1, .inl (cI, 4, .inl (qf X)))] sz) := by
  refine Met.ofW (cc := cX1_round) (maxL := 4) (ret := none) (by decide) rfl ?_
  intro p e s m args below meth c s₁ B hml hv
  obtain ⟨rfl, hsz, hP, hD0, hE⟩ := hv
  have hx := B.exec
  have hb := B.bytes
  have hr := B.returns
  have hts := atoms_spec (ws := ws_ yX1_round cX1_round 4 none) B.pre
  have hts : ∀ w ∈ lw_all, w.before _ s = true := fun w h => hts w (List.mem_cons_of_mem _ h)
  have hown : s.vm.findClass RX1 = some m.cls := findClass_of_methodNamed B.named
  have hlocks := B.notSynchronized
  subst hsz
  have hD := hD0.self (sz := s.heap.size)
  generalize hAe : va_A [(h0, .inl (cI, 4, .inl (qf K))), (h1, .inl (cI, 4, .inl (qf X)))] s.heap.size = A at hD hE ⊢
  have hA : ∀ q : Nat, s.heap.size ≤ q → A q := fun q h => by rw [← hAe]; exact Or.inr h
  have hS : va_S A s.heap s.heap [] := va_S.rf
  have hK := hE.1
  have hP : va_P D vwCl [(h0, .inl (cI, 4, .inl (qf K))), (h1, .inl (cI, 4, .inl (qf X)))] s.heap := hP
  have hl := lv_entry ([.ref h0, .ref h1, .int x, .int y]) (n := 4) (Nat.le_of_ble_eq_true rfl)
  rw [lg_entry_eq]
  generalize (lg_sl ([.ref h0, .ref h1, .int x, .int y]) ++ List.replicate (4 - (lg_sl ([.ref h0, .ref h1, .int x, .int y])).length) Slot.unset).toArray = ls at hl ⊢
  have hl : lv_has ls 4 [(0, .ref h0), (1, .ref h1), (2, .int x), (3, .int y)] := hl
  refine lv_aload_n hx hb dX1_round_0 rfl (lv_at hl 1 rfl) ?_
  refine lv_iconst (v := 0) hx hb dX1_round_1 (by decide) ?_
  refine lv_dup2_11 hx hb dX1_round_2 rfl rfl ?_
  refine k_iald (v := X.1) hx hb hK hP 1 rfl 0 rfl (Nat.le_of_ble_eq_true rfl) (Nat.le_of_ble_eq_true rfl) rfl dX1_round_3 ?_
  refine lv_iload_n hx hb dX1_round_4 rfl (lv_at hl 2 rfl) ?_
  refine lv_ixor hx hb dX1_round_5 ?_
  refine k_iast (f' := qf (adc X x)) (w2 := [(h0, .inl (cI, 4, .inl (qf K))), (h1, .inl (cI, 4, .inl (qf (adc X x))))]) hx hb hK hP hD hS 1 rfl 0 rfl (Nat.le_of_ble_eq_true rfl) (Nat.le_of_ble_eq_true rfl) (qf_adc _ _) dX1_round_6 rfl (fun H locs hP hD hS => ?_)
  refine lv_aload_n hx hb dX1_round_7 rfl (lv_at hl 0 rfl) ?_
  refine lv_aload_n hx hb dX1_round_8 rfl (lv_at hl 1 rfl) ?_
  refine k_v (D := D) (wc := [(h0, .inl (cI, 4, .inl (qf K))), (h1, .inl (cI, 4, .inl (qf (adc X x))))]) (wr := []) (va_runS (As := [.ref h0, .ref h1]) (rest := []) ⟨hx, hb, hml, hown, hts⟩ (metX1_theta l D cB cI H.size h0 h1 K (adc X x)) (va_cwS 2 hts (lw_S q327 q328 q8 q329) rfl rfl rfl (by decide +kernel) ⟨Nat.le_of_ble_eq_true rfl, Nat.le_of_ble_eq_true rfl⟩) ⟨PreE.blind, preE hE hP hD hS hA [0, 1] rfl rfl⟩ rfl rfl hl.1 rfl (lv_room (Nat.le_of_ble_eq_true rfl)) dX1_round_9 ⟨Nat.le_of_ble_eq_true rfl, Nat.le_of_ble_eq_true rfl⟩) hP hD hS hA [0, 1] [] rfl rfl rfl (by decide) [0, 1] rfl (fun _ : Unit => [(h0, .inl (cI, 4, .inl (qf K))), (h1, .inl (cI, 4, .inl (qf (thM K (adc X x)))))]) (fun _ => rfl) (fun _ H locs hP hD hS => ?_)
  refine lv_aload_n hx hb dX1_round_12 rfl (lv_at hl 1 rfl) ?_
  refine lv_iconst (v := 0) hx hb dX1_round_13 (by decide) ?_
  refine lv_dup2_11 hx hb dX1_round_14 rfl rfl ?_
  refine k_iald (v := (thM K (adc X x)).1) hx hb hK hP 1 rfl 0 rfl (Nat.le_of_ble_eq_true rfl) (Nat.le_of_ble_eq_true rfl) rfl dX1_round_15 ?_
  refine lv_iload_n hx hb dX1_round_16 rfl (lv_at hl 3 rfl) ?_
  refine lv_ixor hx hb dX1_round_17 ?_
  refine k_iast (f' := qf (adc (thM K (adc X x)) y)) (w2 := [(h0, .inl (cI, 4, .inl (qf K))), (h1, .inl (cI, 4, .inl (qf (adc (thM K (adc X x)) y))))]) hx hb hK hP hD hS 1 rfl 0 rfl (Nat.le_of_ble_eq_true rfl) (Nat.le_of_ble_eq_true rfl) (qf_adc _ _) dX1_round_18 rfl (fun H locs hP hD hS => ?_)
  refine lv_aload_n hx hb dX1_round_19 rfl (lv_at hl 1 rfl) ?_
  refine lv_iconst (v := 0) hx hb dX1_round_20 (by decide) ?_
  refine k_v (D := D) (wc := [(h1, .inl (cI, 4, .inl (qf (adc (thM K (adc X x)) y))))]) (wr := [(h0, .inl (cI, 4, .inl (qf K)))]) (va_runS (As := [.ref h1, .int 0]) (rest := []) ⟨hx, hb, hml, hown, hts⟩ (metX1_turns_0 l D cB cI H.size h1 (adc (thM K (adc X x)) y)) (va_cwS 2 hts (lw_S q336 q337 q8 q338) rfl rfl rfl (by decide +kernel) ⟨Nat.le_of_ble_eq_true rfl, Nat.le_of_ble_eq_true rfl⟩) ⟨PreE.blind, preE hE hP hD hS hA [1] rfl rfl⟩ rfl rfl hl.1 rfl (lv_room (Nat.le_of_ble_eq_true rfl)) dX1_round_21 ⟨Nat.le_of_ble_eq_true rfl, Nat.le_of_ble_eq_true rfl⟩) hP hD hS hA [1] [0] rfl rfl rfl (by decide) [0, 1] rfl (fun _ : Unit => [(h0, .inl (cI, 4, .inl (qf K))), (h1, .inl (cI, 4, .inl (qf (tuA (adc (thM K (adc X x)) y)))))]) (fun _ => rfl) (fun _ H locs hP hD hS => ?_)
  refine lv_aload_n hx hb dX1_round_24 rfl (lv_at hl 1 rfl) ?_
  refine k_v (D := D) (wc := [(h1, .inl (cI, 4, .inl (qf (tuA (adc (thM K (adc X x)) y)))))]) (wr := [(h0, .inl (cI, 4, .inl (qf K)))]) (va_runS (As := [.ref h1]) (rest := []) ⟨hx, hb, hml, hown, hts⟩ (metX1_gamma l D cB cI H.size h1 (tuA (adc (thM K (adc X x)) y))) (va_cwS 1 hts (lw_S q339 q340 q8 q341) rfl rfl rfl (by decide +kernel) ⟨Nat.le_of_ble_eq_true rfl, Nat.le_of_ble_eq_true rfl⟩) ⟨PreE.blind, preE hE hP hD hS hA [1] rfl rfl⟩ rfl rfl hl.1 rfl (lv_room (Nat.le_of_ble_eq_true rfl)) dX1_round_25 ⟨Nat.le_of_ble_eq_true rfl, Nat.le_of_ble_eq_true rfl⟩) hP hD hS hA [1] [0] rfl rfl rfl (by decide) [0, 1] rfl (fun _ : Unit => [(h0, .inl (cI, 4, .inl (qf K))), (h1, .inl (cI, 4, .inl (qf (gaM (tuA (adc (thM K (adc X x)) y))))))]) (fun _ => rfl) (fun _ H locs hP hD hS => ?_)
  refine lv_aload_n hx hb dX1_round_28 rfl (lv_at hl 1 rfl) ?_
  refine lv_iconst (v := 1) hx hb dX1_round_29 (by decide) ?_
  refine k_v (D := D) (wc := [(h1, .inl (cI, 4, .inl (qf (gaM (tuA (adc (thM K (adc X x)) y))))))]) (wr := [(h0, .inl (cI, 4, .inl (qf K)))]) (va_runS (As := [.ref h1, .int 1]) (rest := []) ⟨hx, hb, hml, hown, hts⟩ (metX1_turns_1 l D cB cI H.size h1 (gaM (tuA (adc (thM K (adc X x)) y)))) (va_cwS 2 hts (lw_S q336 q337 q8 q338) rfl rfl rfl (by decide +kernel) ⟨Nat.le_of_ble_eq_true rfl, Nat.le_of_ble_eq_true rfl⟩) ⟨PreE.blind, preE hE hP hD hS hA [1] rfl rfl⟩ rfl rfl hl.1 rfl (lv_room (Nat.le_of_ble_eq_true rfl)) dX1_round_30 ⟨Nat.le_of_ble_eq_true rfl, Nat.le_of_ble_eq_true rfl⟩) hP hD hS hA [1] [0] rfl rfl rfl (by decide) [0, 1] rfl (fun _ : Unit => [(h0, .inl (cI, 4, .inl (qf K))), (h1, .inl (cI, 4, .inl (qf (tuB (gaM (tuA (adc (thM K (adc X x)) y)))))))]) (fun _ => rfl) (fun _ H locs hP hD hS => ?_)
  exact W.vret hx hb hr (fun t ht hW => ⟨⟨(), rfl, trivial, by rw [ht]; exact hP, hD⟩, hS.F ht⟩) hS.2.2 dX1_round_33
end
section
set_option maxHeartbeats 4000000 in
set_option maxRecDepth 100000 in
theorem metX1_lays (l : Launch) (D : va_G) (cB cI : ClassId) (sz : Nat) (h0 h1 h2 h3 h4 : Nat) (go : Nat → Int32) (X : Q4) : Met l yX1_lays (ws_ yX1_lays cX1_lays 3 none) ({ frames := 1, cells := 0, slots := 0, locals := 60 } : Room) (PreE D cB cI [.ref h0, .ref h4] sz [(h0, .inr (1, [.ref h1, .ref h2, .ref h3])), (h3, .inl (cI, 16, .inl go)), (h4, .inl (cI, 4, .inl (qf X)))]) (PostV D (va_A [(h0, .inr (1, [.ref h1, .ref h2, .ref h3])), (h3, .inl (cI, 16, .inl go)), (h4, .inl (cI, 4, .inl (qf X)))] sz) (fun _ : Unit => [(h0, .inr (1, [.ref h1, .ref h2, .ref h3])), (h3, .inl (cI, 16, .inl (laQ go X))), (h4, .inl (cI, 4, .inl (qf X)))])) 0 0 (va_A [(h0, .inr (1, [.ref h1, .ref h2, .ref h3])), (h3, .inl (cI, 16, .inl go)), (h4, .inl (cI, 4, .inl (qf X)))] sz) := by
  refine Met.ofW (cc := cX1_lays) (maxL := 3) (ret := none) (by decide) rfl ?_
  intro p e s m args below meth c s₁ B hml hv
  obtain ⟨rfl, hsz, hP, hD0, hE⟩ := hv
  have hx := B.exec
  have hb := B.bytes
  have hr := B.returns
  have hts := atoms_spec (ws := ws_ yX1_lays cX1_lays 3 none) B.pre
  have hts : ∀ w ∈ lw_all, w.before _ s = true := fun w h => hts w (List.mem_cons_of_mem _ h)
  have hown : s.vm.findClass RX1 = some m.cls := findClass_of_methodNamed B.named
  have hlocks := B.notSynchronized
  subst hsz
  have hD := hD0.self (sz := s.heap.size)
  generalize hAe : va_A [(h0, .inr (1, [.ref h1, .ref h2, .ref h3])), (h3, .inl (cI, 16, .inl go)), (h4, .inl (cI, 4, .inl (qf X)))] s.heap.size = A at hD hE ⊢
  have hA : ∀ q : Nat, s.heap.size ≤ q → A q := fun q h => by rw [← hAe]; exact Or.inr h
  have hS : va_S A s.heap s.heap [] := va_S.rf
  have hK := hE.1
  have hP : va_P D vwCl [(h0, .inr (1, [.ref h1, .ref h2, .ref h3])), (h3, .inl (cI, 16, .inl go)), (h4, .inl (cI, 4, .inl (qf X)))] s.heap := hP
  have hl := lv_entry ([.ref h0, .ref h4]) (n := 3) (Nat.le_of_ble_eq_true rfl)
  rw [lg_entry_eq]
  generalize (lg_sl ([.ref h0, .ref h4]) ++ List.replicate (3 - (lg_sl ([.ref h0, .ref h4])).length) Slot.unset).toArray = ls at hl ⊢
  have hl : lv_has ls 3 [(0, .ref h0), (1, .ref h4)] := hl
  refine lv_iconst (v := 0) hx hb dX1_lays_0 (by decide) ?_
  refine lv_istore_n (lv' := [(2, .int 0), (0, .ref h0), (1, .ref h4)]) hx hb dX1_lays_1 rfl hl (by decide) rfl (fun ls hl => ?_)
  refine lv_iload_n hx hb dX1_lays_2 rfl (lv_at hl 0 rfl) ?_
  refine lv_iconst (v := 4) hx hb dX1_lays_3 (by decide) ?_
  refine lv_icmp_ge (tgt := 26) hx hb dX1_lays_4 (by decide) (fun c9 => False.elim (by revert c9; decide)) (fun _ => ?_)
  refine lv_aload_n hx hb dX1_lays_7 rfl (lv_at hl 1 rfl) ?_
  refine va_get (D := D) (ci := 1) (v := .ref h3) (C := RX1) (T := TX1) (N := 3) hx hb hts in_X1 hown hK hP 0 rfl rfl 2 (by decide) (hts _ q291) (fun _ h9 => h9) rfl dX1_lays_8 ?_
  refine lv_iconst (v := 4) hx hb dX1_lays_11 (by decide) ?_
  refine lv_iload_n hx hb dX1_lays_12 rfl (lv_at hl 0 rfl) ?_
  refine lv_imul hx hb dX1_lays_13 ?_
  refine lv_asi (y := 0) (by decide) ?_
  refine lv_asi (y := nI 0) rfl ?_
  refine lv_aload_n hx hb dX1_lays_14 rfl (lv_at hl 2 rfl) ?_
  refine lv_iload_n hx hb dX1_lays_15 rfl (lv_at hl 0 rfl) ?_
  refine k_iald (v := X.1) hx hb hK hP 2 rfl 0 rfl (Nat.le_of_ble_eq_true rfl) (Nat.le_of_ble_eq_true rfl) rfl dX1_lays_16 ?_
  refine k_v (D := D) (wc := [(h3, .inl (cI, 16, .inl go))]) (wr := [(h0, .inr (1, [.ref h1, .ref h2, .ref h3])), (h4, .inl (cI, 4, .inl (qf X)))]) (va_runS (As := [.ref h3, .int (nI 0), .int X.1]) (rest := []) ⟨hx, hb, hml, hown, hts⟩ (metX1_word l D cB cI s.heap.size h3 16 go 0 X.1 (by omega) (Nat.le_of_ble_eq_true rfl)) (va_cwS 3 hts (lw_S q303 q304 q8 q305) rfl rfl rfl (by decide +kernel) ⟨Nat.le_of_ble_eq_true rfl, Nat.le_of_ble_eq_true rfl⟩) ⟨PreE.blind, preE hE hP hD hS hA [1] rfl rfl⟩ rfl rfl hl.1 rfl (lv_room (Nat.le_of_ble_eq_true rfl)) dX1_lays_17 ⟨Nat.le_of_ble_eq_true rfl, Nat.le_of_ble_eq_true rfl⟩) hP hD hS hA [1] [0, 2] rfl rfl rfl (by decide) [0, 2, 1] rfl (fun _ : Unit => [(h0, .inr (1, [.ref h1, .ref h2, .ref h3])), (h3, .inl (cI, 16, .inl (wrI go 0 X.1))), (h4, .inl (cI, 4, .inl (qf X)))]) (fun _ => rfl) (fun _ H locs hP hD hS => ?_)
  refine lv_iinc (v := 1) (lv' := [(2, .int 1), (0, .ref h0), (1, .ref h4)]) hx hb dX1_lays_20 hl (k := 0) rfl (by decide) (by decide) rfl (fun ls hl => ?_)
  refine lv_goto (tgt := 2) hx hb dX1_lays_23 (by decide) ?_
  refine lv_iload_n hx hb dX1_lays_2 rfl (lv_at hl 0 rfl) ?_
  refine lv_iconst (v := 4) hx hb dX1_lays_3 (by decide) ?_
  refine lv_icmp_ge (tgt := 26) hx hb dX1_lays_4 (by decide) (fun c9 => False.elim (by revert c9; decide)) (fun _ => ?_)
  refine lv_aload_n hx hb dX1_lays_7 rfl (lv_at hl 1 rfl) ?_
  refine va_get (D := D) (ci := 1) (v := .ref h3) (C := RX1) (T := TX1) (N := 3) hx hb hts in_X1 hown hK hP 0 rfl rfl 2 (by decide) (hts _ q291) (fun _ h9 => h9) rfl dX1_lays_8 ?_
  refine lv_iconst (v := 4) hx hb dX1_lays_11 (by decide) ?_
  refine lv_iload_n hx hb dX1_lays_12 rfl (lv_at hl 0 rfl) ?_
  refine lv_imul hx hb dX1_lays_13 ?_
  refine lv_asi (y := 4) (by decide) ?_
  refine lv_asi (y := nI 4) rfl ?_
  refine lv_aload_n hx hb dX1_lays_14 rfl (lv_at hl 2 rfl) ?_
  refine lv_iload_n hx hb dX1_lays_15 rfl (lv_at hl 0 rfl) ?_
  refine k_iald (v := X.2.1) hx hb hK hP 2 rfl 1 rfl (Nat.le_of_ble_eq_true rfl) (Nat.le_of_ble_eq_true rfl) rfl dX1_lays_16 ?_
  refine k_v (D := D) (wc := [(h3, .inl (cI, 16, .inl (wrI go 0 X.1)))]) (wr := [(h0, .inr (1, [.ref h1, .ref h2, .ref h3])), (h4, .inl (cI, 4, .inl (qf X)))]) (va_runS (As := [.ref h3, .int (nI 4), .int X.2.1]) (rest := []) ⟨hx, hb, hml, hown, hts⟩ (metX1_word l D cB cI H.size h3 16 (wrI go 0 X.1) 4 X.2.1 (by omega) (Nat.le_of_ble_eq_true rfl)) (va_cwS 3 hts (lw_S q303 q304 q8 q305) rfl rfl rfl (by decide +kernel) ⟨Nat.le_of_ble_eq_true rfl, Nat.le_of_ble_eq_true rfl⟩) ⟨PreE.blind, preE hE hP hD hS hA [1] rfl rfl⟩ rfl rfl hl.1 rfl (lv_room (Nat.le_of_ble_eq_true rfl)) dX1_lays_17 ⟨Nat.le_of_ble_eq_true rfl, Nat.le_of_ble_eq_true rfl⟩) hP hD hS hA [1] [0, 2] rfl rfl rfl (by decide) [0, 2, 1] rfl (fun _ : Unit => [(h0, .inr (1, [.ref h1, .ref h2, .ref h3])), (h3, .inl (cI, 16, .inl (wrI (wrI go 0 X.1) 4 X.2.1))), (h4, .inl (cI, 4, .inl (qf X)))]) (fun _ => rfl) (fun _ H locs hP hD hS => ?_)
  refine lv_iinc (v := 2) (lv' := [(2, .int 2), (0, .ref h0), (1, .ref h4)]) hx hb dX1_lays_20 hl (k := 0) rfl (by decide) (by decide) rfl (fun ls hl => ?_)
  refine lv_goto (tgt := 2) hx hb dX1_lays_23 (by decide) ?_
  refine lv_iload_n hx hb dX1_lays_2 rfl (lv_at hl 0 rfl) ?_
  refine lv_iconst (v := 4) hx hb dX1_lays_3 (by decide) ?_
  refine lv_icmp_ge (tgt := 26) hx hb dX1_lays_4 (by decide) (fun c9 => False.elim (by revert c9; decide)) (fun _ => ?_)
  refine lv_aload_n hx hb dX1_lays_7 rfl (lv_at hl 1 rfl) ?_
  refine va_get (D := D) (ci := 1) (v := .ref h3) (C := RX1) (T := TX1) (N := 3) hx hb hts in_X1 hown hK hP 0 rfl rfl 2 (by decide) (hts _ q291) (fun _ h9 => h9) rfl dX1_lays_8 ?_
  refine lv_iconst (v := 4) hx hb dX1_lays_11 (by decide) ?_
  refine lv_iload_n hx hb dX1_lays_12 rfl (lv_at hl 0 rfl) ?_
  refine lv_imul hx hb dX1_lays_13 ?_
  refine lv_asi (y := 8) (by decide) ?_
  refine lv_asi (y := nI 8) rfl ?_
  refine lv_aload_n hx hb dX1_lays_14 rfl (lv_at hl 2 rfl) ?_
  refine lv_iload_n hx hb dX1_lays_15 rfl (lv_at hl 0 rfl) ?_
  refine k_iald (v := X.2.2.1) hx hb hK hP 2 rfl 2 rfl (Nat.le_of_ble_eq_true rfl) (Nat.le_of_ble_eq_true rfl) rfl dX1_lays_16 ?_
  refine k_v (D := D) (wc := [(h3, .inl (cI, 16, .inl (wrI (wrI go 0 X.1) 4 X.2.1)))]) (wr := [(h0, .inr (1, [.ref h1, .ref h2, .ref h3])), (h4, .inl (cI, 4, .inl (qf X)))]) (va_runS (As := [.ref h3, .int (nI 8), .int X.2.2.1]) (rest := []) ⟨hx, hb, hml, hown, hts⟩ (metX1_word l D cB cI H.size h3 16 (wrI (wrI go 0 X.1) 4 X.2.1) 8 X.2.2.1 (by omega) (Nat.le_of_ble_eq_true rfl)) (va_cwS 3 hts (lw_S q303 q304 q8 q305) rfl rfl rfl (by decide +kernel) ⟨Nat.le_of_ble_eq_true rfl, Nat.le_of_ble_eq_true rfl⟩) ⟨PreE.blind, preE hE hP hD hS hA [1] rfl rfl⟩ rfl rfl hl.1 rfl (lv_room (Nat.le_of_ble_eq_true rfl)) dX1_lays_17 ⟨Nat.le_of_ble_eq_true rfl, Nat.le_of_ble_eq_true rfl⟩) hP hD hS hA [1] [0, 2] rfl rfl rfl (by decide) [0, 2, 1] rfl (fun _ : Unit => [(h0, .inr (1, [.ref h1, .ref h2, .ref h3])), (h3, .inl (cI, 16, .inl (wrI (wrI (wrI go 0 X.1) 4 X.2.1) 8 X.2.2.1))), (h4, .inl (cI, 4, .inl (qf X)))]) (fun _ => rfl) (fun _ H locs hP hD hS => ?_)
  refine lv_iinc (v := 3) (lv' := [(2, .int 3), (0, .ref h0), (1, .ref h4)]) hx hb dX1_lays_20 hl (k := 0) rfl (by decide) (by decide) rfl (fun ls hl => ?_)
  refine lv_goto (tgt := 2) hx hb dX1_lays_23 (by decide) ?_
  refine lv_iload_n hx hb dX1_lays_2 rfl (lv_at hl 0 rfl) ?_
  refine lv_iconst (v := 4) hx hb dX1_lays_3 (by decide) ?_
  refine lv_icmp_ge (tgt := 26) hx hb dX1_lays_4 (by decide) (fun c9 => False.elim (by revert c9; decide)) (fun _ => ?_)
  refine lv_aload_n hx hb dX1_lays_7 rfl (lv_at hl 1 rfl) ?_
  refine va_get (D := D) (ci := 1) (v := .ref h3) (C := RX1) (T := TX1) (N := 3) hx hb hts in_X1 hown hK hP 0 rfl rfl 2 (by decide) (hts _ q291) (fun _ h9 => h9) rfl dX1_lays_8 ?_
  refine lv_iconst (v := 4) hx hb dX1_lays_11 (by decide) ?_
  refine lv_iload_n hx hb dX1_lays_12 rfl (lv_at hl 0 rfl) ?_
  refine lv_imul hx hb dX1_lays_13 ?_
  refine lv_asi (y := 12) (by decide) ?_
  refine lv_asi (y := nI 12) rfl ?_
  refine lv_aload_n hx hb dX1_lays_14 rfl (lv_at hl 2 rfl) ?_
  refine lv_iload_n hx hb dX1_lays_15 rfl (lv_at hl 0 rfl) ?_
  refine k_iald (v := X.2.2.2) hx hb hK hP 2 rfl 3 rfl (Nat.le_of_ble_eq_true rfl) (Nat.le_of_ble_eq_true rfl) rfl dX1_lays_16 ?_
  refine k_v (D := D) (wc := [(h3, .inl (cI, 16, .inl (wrI (wrI (wrI go 0 X.1) 4 X.2.1) 8 X.2.2.1)))]) (wr := [(h0, .inr (1, [.ref h1, .ref h2, .ref h3])), (h4, .inl (cI, 4, .inl (qf X)))]) (va_runS (As := [.ref h3, .int (nI 12), .int X.2.2.2]) (rest := []) ⟨hx, hb, hml, hown, hts⟩ (metX1_word l D cB cI H.size h3 16 (wrI (wrI (wrI go 0 X.1) 4 X.2.1) 8 X.2.2.1) 12 X.2.2.2 (by omega) (Nat.le_of_ble_eq_true rfl)) (va_cwS 3 hts (lw_S q303 q304 q8 q305) rfl rfl rfl (by decide +kernel) ⟨Nat.le_of_ble_eq_true rfl, Nat.le_of_ble_eq_true rfl⟩) ⟨PreE.blind, preE hE hP hD hS hA [1] rfl rfl⟩ rfl rfl hl.1 rfl (lv_room (Nat.le_of_ble_eq_true rfl)) dX1_lays_17 ⟨Nat.le_of_ble_eq_true rfl, Nat.le_of_ble_eq_true rfl⟩) hP hD hS hA [1] [0, 2] rfl rfl rfl (by decide) [0, 2, 1] rfl (fun _ : Unit => [(h0, .inr (1, [.ref h1, .ref h2, .ref h3])), (h3, .inl (cI, 16, .inl (wrI (wrI (wrI (wrI go 0 X.1) 4 X.2.1) 8 X.2.2.1) 12 X.2.2.2))), (h4, .inl (cI, 4, .inl (qf X)))]) (fun _ => rfl) (fun _ H locs hP hD hS => ?_)
  refine lv_iinc (v := 4) (lv' := [(2, .int 4), (0, .ref h0), (1, .ref h4)]) hx hb dX1_lays_20 hl (k := 0) rfl (by decide) (by decide) rfl (fun ls hl => ?_)
  refine lv_goto (tgt := 2) hx hb dX1_lays_23 (by decide) ?_
  refine lv_iload_n hx hb dX1_lays_2 rfl (lv_at hl 0 rfl) ?_
  refine lv_iconst (v := 4) hx hb dX1_lays_3 (by decide) ?_
  refine lv_icmp_ge (tgt := 26) hx hb dX1_lays_4 (by decide) (fun _ => ?_) (fun c9 => False.elim (by revert c9; decide))
  exact W.vret hx hb hr (fun t ht hW => ⟨⟨(), rfl, trivial, by rw [ht]; exact hP, hD⟩, hS.F ht⟩) hS.2.2 dX1_lays_26
set_option maxHeartbeats 4000000 in
set_option maxRecDepth 100000 in
theorem metX1_cut (l : Launch) (D : va_G) (cB cI : ClassId) (sz : Nat) (h0 h1 h2 h3 : Nat) (gk : Nat → Int32) : Met l yX1_cut (ws_ yX1_cut cX1_cut 3 (some (.array .int))) ({ frames := 1, cells := 2, slots := 20, locals := 60 } : Room) (PreE D cB cI [.ref h0] sz [(h0, .inr (1, [.ref h1, .ref h2, .ref h3])), (h1, .inl (cI, 32, .inl gk))]) (PostR D (va_A [(h0, .inr (1, [.ref h1, .ref h2, .ref h3])), (h1, .inl (cI, 32, .inl gk))] sz) (fun u : Nat => [(h0, .inr (1, [.ref h1, .ref h2, .ref h3])), (h1, .inl (cI, 32, .inl gk)), (u, .inl (cI, 4, .inl (qf (woQ (kcI gk)))))])) 2 20 (va_A [(h0, .inr (1, [.ref h1, .ref h2, .ref h3])), (h1, .inl (cI, 32, .inl gk))] sz) := by
  refine Met.ofW (cc := cX1_cut) (maxL := 3) (ret := (some (.array .int))) (by decide) rfl ?_
  intro p e s m args below meth c s₁ B hml hv
  obtain ⟨rfl, hsz, hP, hD0, hE⟩ := hv
  have hx := B.exec
  have hb := B.bytes
  have hr := B.returns
  have hts := atoms_spec (ws := ws_ yX1_cut cX1_cut 3 (some (.array .int))) B.pre
  have hts : ∀ w ∈ lw_all, w.before _ s = true := fun w h => hts w (List.mem_cons_of_mem _ h)
  have hown : s.vm.findClass RX1 = some m.cls := findClass_of_methodNamed B.named
  have hlocks := B.notSynchronized
  subst hsz
  have hD := hD0.self (sz := s.heap.size)
  generalize hAe : va_A [(h0, .inr (1, [.ref h1, .ref h2, .ref h3])), (h1, .inl (cI, 32, .inl gk))] s.heap.size = A at hD hE ⊢
  have hA : ∀ q : Nat, s.heap.size ≤ q → A q := fun q h => by rw [← hAe]; exact Or.inr h
  have hS : va_S A s.heap s.heap [] := va_S.rf
  have hK := hE.1
  have hP : va_P D vwCl [(h0, .inr (1, [.ref h1, .ref h2, .ref h3])), (h1, .inl (cI, 32, .inl gk))] s.heap := hP
  have hl := lv_entry ([.ref h0]) (n := 3) (Nat.le_of_ble_eq_true rfl)
  rw [lg_entry_eq]
  generalize (lg_sl ([.ref h0]) ++ List.replicate (3 - (lg_sl ([.ref h0])).length) Slot.unset).toArray = ls at hl ⊢
  have hl : lv_has ls 3 [(0, .ref h0)] := hl
  refine lv_bipush (v := 16) hx hb dX1_cut_0 (by decide) ?_
  refine k_newi hx hb (hts _ q80) hK hP hD hS hA 16 rfl (Nat.le_of_ble_eq_true rfl) (Nat.le_of_ble_eq_true rfl) (Nat.le_of_ble_eq_true rfl) dX1_cut_2 (fun n1 H hP hD hS => ?_)
  have hP : va_P D vwCl [(h0, .inr (1, [.ref h1, .ref h2, .ref h3])), (h1, .inl (cI, 32, .inl gk)), (n1, .inl (cI, 16, .inl (fun _ => 0)))] H := hP
  have hD : va_D A [(h0, .inr (1, [.ref h1, .ref h2, .ref h3])), (h1, .inl (cI, 32, .inl gk)), (n1, .inl (cI, 16, .inl (fun _ => 0)))] := hD
  refine W.widen (k := 1) (n := 16) (Nat.le_refl _) (Nat.le_refl _) ?_
  refine lv_astore_n (lv' := [(1, .ref n1), (0, .ref h0)]) hx hb dX1_cut_4 rfl hl (by decide) rfl (fun ls hl => ?_)
  refine lv_iconst (v := 0) hx hb dX1_cut_5 (by decide) ?_
  refine lv_istore_n (lv' := [(2, .int 0), (1, .ref n1), (0, .ref h0)]) hx hb dX1_cut_6 rfl hl (by decide) rfl (fun ls hl => ?_)
  have loop : ∀ (n i : Nat), i + n = 16 → ∀ (H : Heap) (locs : List Loc) (ls : Array Slot), va_P D vwCl [(h0, .inr (1, [.ref h1, .ref h2, .ref h3])), (h1, .inl (cI, 32, .inl gk)), (n1, .inl (cI, 16, .inl (cpI gk (fun _ => 0) i)))] H → va_D A [(h0, .inr (1, [.ref h1, .ref h2, .ref h3])), (h1, .inl (cI, 32, .inl gk)), (n1, .inl (cI, 16, .inl (cpI gk (fun _ => 0) i)))] → va_S A s.heap H locs → lv_has ls 3 [(2, .int (nI i)), (1, .ref n1), (0, .ref h0)] → W p l e (headSpec (ws_ yX1_cut cX1_cut 3 (some (.array .int))) ({ frames := 1, cells := 2, slots := 20, locals := 60 } : Room)).room s m ([.ref h0] : List Value).toArray below meth c H locs 1 16 (MQ below (PostR D A (fun u : Nat => [(h0, .inr (1, [.ref h1, .ref h2, .ref h3])), (h1, .inl (cI, 32, .inl gk)), (u, .inl (cI, 4, .inl (qf (woQ (kcI gk)))))])) ([.ref h0] : List Value).toArray s 2 20 A) (F0 m 7 ls []) := by
    intro n
    induction n with
    | zero =>
      intro i hi H locs ls hP hD hS hl
      have hi6 : i = 16 := by omega
      subst hi6
      refine lv_iload_n hx hb dX1_cut_7 rfl (lv_at hl 0 rfl) ?_
      refine lv_bipush (v := 16) hx hb dX1_cut_8 (by decide) ?_
      refine lv_icmp_ge (tgt := 28) hx hb dX1_cut_10 (by decide) (fun _ => ?_) (fun c9 => absurd (nI_le (Nat.le_refl 16) (by omega)) c9)
      refine lv_aload_n hx hb dX1_cut_28 rfl (lv_at hl 1 rfl) ?_
      refine k_r (D := D) (wc := [(n1, .inl (cI, 16, .inl (cpI gk (fun _ => 0) 16)))]) (wr := [(h0, .inr (1, [.ref h1, .ref h2, .ref h3])), (h1, .inl (cI, 32, .inl gk))]) (va_runS (As := [.ref n1]) (rest := []) ⟨hx, hb, hml, hown, hts⟩ (metX1_words l D cB cI H.size n1 (cpI gk (fun _ => 0) 16)) (va_cwS 1 hts (lw_S q318 q319 q8 q320) rfl rfl rfl (by decide +kernel) ⟨Nat.le_of_ble_eq_true rfl, Nat.le_of_ble_eq_true rfl⟩) ⟨PreE.blind, preE hE hP hD hS hA [2] rfl rfl⟩ rfl rfl hl.1 rfl (lv_room (Nat.le_of_ble_eq_true rfl)) dX1_cut_29 ⟨Nat.le_of_ble_eq_true rfl, Nat.le_of_ble_eq_true rfl⟩) hP hD hS hA [2] [0, 1] rfl rfl rfl (by decide) [0, 1, 2, 3] rfl (fun u : Nat => [(h0, .inr (1, [.ref h1, .ref h2, .ref h3])), (h1, .inl (cI, 32, .inl gk)), (n1, .inl (cI, 16, .inl (cpI gk (fun _ => 0) 16))), (u, .inl (cI, 4, .inl (qf (woQ (kcI gk)))))]) (fun _ => rfl) (fun u H locs hP hD hS => ?_)
      refine W.widen (k := 2) (n := 20) (Nat.le_refl _) (Nat.le_refl _) ?_
      obtain ⟨n2, rfl⟩ : ∃ z, z = u := ⟨_, rfl⟩
      have hP : va_P D vwCl [(h0, .inr (1, [.ref h1, .ref h2, .ref h3])), (h1, .inl (cI, 32, .inl gk)), (n1, .inl (cI, 16, .inl (cpI gk (fun _ => 0) 16))), (n2, .inl (cI, 4, .inl (qf (woQ (kcI gk)))))] H := hP
      have hD : va_D A [(h0, .inr (1, [.ref h1, .ref h2, .ref h3])), (h1, .inl (cI, 32, .inl gk)), (n1, .inl (cI, 16, .inl (cpI gk (fun _ => 0) 16))), (n2, .inl (cI, 4, .inl (qf (woQ (kcI gk)))))] := hD
      have hP := hP.sub (ws' := [(h0, .inr (1, [.ref h1, .ref h2, .ref h3])), (h1, .inl (cI, 32, .inl gk)), (n2, .inl (cI, 4, .inl (qf (woQ (kcI gk)))))]) [0, 1, 3] rfl
      have hD := hD.sub (ws' := [(h0, .inr (1, [.ref h1, .ref h2, .ref h3])), (h1, .inl (cI, 32, .inl gk)), (n2, .inl (cI, 4, .inl (qf (woQ (kcI gk)))))]) [0, 1, 3] rfl rfl
      exact W.aret (v := .ref n2) hx hb hr (Or.inr ⟨_, rfl⟩) (Or.inr ⟨_, rfl⟩) (fun t ht hW => ⟨⟨(), n2, rfl, trivial, by rw [ht]; exact hP, hD⟩, hS.F ht⟩) hS.2.2 dX1_cut_32
    | succ n ih =>
      intro i hi H locs ls hP hD hS hl
      refine lv_iload_n hx hb dX1_cut_7 rfl (lv_at hl 0 rfl) ?_
      refine lv_bipush (v := 16) hx hb dX1_cut_8 (by decide) ?_
      refine lv_icmp_ge (tgt := 28) hx hb dX1_cut_10 (by decide) (fun c9 => absurd c9 (nI_ge (a := i) (b := 16) (by omega) (by omega))) (fun _ => ?_)
      refine lv_aload_n hx hb dX1_cut_13 rfl (lv_at hl 1 rfl) ?_
      refine lv_iload_n hx hb dX1_cut_14 rfl (lv_at hl 0 rfl) ?_
      refine lv_aload_n hx hb dX1_cut_15 rfl (lv_at hl 2 rfl) ?_
      refine va_get (D := D) (ci := 1) (v := .ref h1) (C := RX1) (T := TX1) (N := 3) hx hb hts in_X1 hown hK hP 0 rfl rfl 0 (by decide) (hts _ q289) (fun _ h9 => h9) rfl dX1_cut_16 ?_
      refine lv_iload_n hx hb dX1_cut_19 rfl (lv_at hl 0 rfl) ?_
      refine k_iald (v := gk i) hx hb hK hP 1 rfl i rfl (by omega) (Nat.le_of_ble_eq_true rfl) rfl dX1_cut_20 ?_
      refine k_iast (f' := cpI gk (fun _ => 0) (i + 1)) (w2 := [(h0, .inr (1, [.ref h1, .ref h2, .ref h3])), (h1, .inl (cI, 32, .inl gk)), (n1, .inl (cI, 16, .inl (cpI gk (fun _ => 0) (i + 1))))]) hx hb hK hP hD hS 2 rfl i rfl (by omega) (Nat.le_of_ble_eq_true rfl) (cpI_s gk (fun _ => 0) i) dX1_cut_21 rfl (fun H locs hP hD hS => ?_)
      refine lv_iinc (v := nI (i + 1)) (lv' := [(2, .int (nI (i + 1))), (1, .ref n1), (0, .ref h0)]) hx hb dX1_cut_22 hl (k := 0) rfl (nI_add _ 1) (by decide) rfl (fun ls hl => ?_)
      refine lv_goto (tgt := 7) hx hb dX1_cut_25 (by decide) ?_
      exact ih (i + 1) (by omega) H locs ls hP hD hS (lv_sub hl [0, 1, 2] rfl)
  exact loop 16 0 (by omega) H [] ls (by rw [cpI_0]; exact hP) (by rw [cpI_0]; exact hD) hS (lv_sub hl [0, 1, 2] rfl)
end
section
set_option maxHeartbeats 4000000 in
set_option maxRecDepth 100000 in
theorem metX1_lock (l : Launch) (D : va_G) (cB cI : ClassId) (sz : Nat) (h0 h1 h2 h3 : Nat) (gk gb go : Nat → Int32) (kd : Int32) : Met l yX1_lock (ws_ yX1_lock cX1_lock 5 none) ({ frames := 4, cells := 3, slots := 24, locals := 240 } : Room) (PreE D cB cI [.ref h0, .int kd] sz [(h0, .inr (1, [.ref h1, .ref h2, .ref h3])), (h1, .inl (cI, 32, .inl gk)), (h2, .inl (cI, 16, .inl gb)), (h3, .inl (cI, 16, .inl go))]) (PostV D (va_A [(h0, .inr (1, [.ref h1, .ref h2, .ref h3])), (h1, .inl (cI, 32, .inl gk)), (h2, .inl (cI, 16, .inl gb)), (h3, .inl (cI, 16, .inl go))] sz) (fun _ : Unit => [(h0, .inr (1, [.ref h1, .ref h2, .ref h3])), (h1, .inl (cI, 32, .inl gk)), (h2, .inl (cI, 16, .inl gb)), (h3, .inl (cI, 16, .inl (laQ go (lkF (woQ (kcI gk)) (woQ gb)))))])) 3 24 (va_A [(h0, .inr (1, [.ref h1, .ref h2, .ref h3])), (h1, .inl (cI, 32, .inl gk)), (h2, .inl (cI, 16, .inl gb)), (h3, .inl (cI, 16, .inl go))] sz) := by
  refine Met.ofW (cc := cX1_lock) (maxL := 5) (ret := none) (by decide) rfl ?_
  intro p e s m args below meth c s₁ B hml hv
  obtain ⟨rfl, hsz, hP, hD0, hE⟩ := hv
  have hx := B.exec
  have hb := B.bytes
  have hr := B.returns
  have hts := atoms_spec (ws := ws_ yX1_lock cX1_lock 5 none) B.pre
  have hts : ∀ w ∈ lw_all, w.before _ s = true := fun w h => hts w (List.mem_cons_of_mem _ h)
  have hown : s.vm.findClass RX1 = some m.cls := findClass_of_methodNamed B.named
  have hlocks := B.notSynchronized
  subst hsz
  have hD := hD0.self (sz := s.heap.size)
  generalize hAe : va_A [(h0, .inr (1, [.ref h1, .ref h2, .ref h3])), (h1, .inl (cI, 32, .inl gk)), (h2, .inl (cI, 16, .inl gb)), (h3, .inl (cI, 16, .inl go))] s.heap.size = A at hD hE ⊢
  have hA : ∀ q : Nat, s.heap.size ≤ q → A q := fun q h => by rw [← hAe]; exact Or.inr h
  have hS : va_S A s.heap s.heap [] := va_S.rf
  have hK := hE.1
  have hP : va_P D vwCl [(h0, .inr (1, [.ref h1, .ref h2, .ref h3])), (h1, .inl (cI, 32, .inl gk)), (h2, .inl (cI, 16, .inl gb)), (h3, .inl (cI, 16, .inl go))] s.heap := hP
  have hl := lv_entry ([.ref h0, .int kd]) (n := 5) (Nat.le_of_ble_eq_true rfl)
  rw [lg_entry_eq]
  generalize (lg_sl ([.ref h0, .int kd]) ++ List.replicate (5 - (lg_sl ([.ref h0, .int kd])).length) Slot.unset).toArray = ls at hl ⊢
  have hl : lv_has ls 5 [(0, .ref h0), (1, .int kd)] := hl
  refine lv_aload_n hx hb dX1_lock_0 rfl (lv_at hl 0 rfl) ?_
  refine k_r (D := D) (wc := [(h0, .inr (1, [.ref h1, .ref h2, .ref h3])), (h1, .inl (cI, 32, .inl gk))]) (wr := [(h2, .inl (cI, 16, .inl gb)), (h3, .inl (cI, 16, .inl go))]) (va_runV (As := []) (rest := []) ⟨hx, hb, hml, hown, hts⟩ (metX1_cut l D cB cI s.heap.size h0 h1 h2 h3 gk) (cwV 0 hts (lw_V q314 q316 qs4 q8 q317) rfl rfl rfl (by decide +kernel) ⟨Nat.le_of_ble_eq_true rfl, Nat.le_of_ble_eq_true rfl⟩) ⟨PreE.blind, va_recv hK hP (ci := 1) (q0 := 0) rfl rfl, preE hE hP hD hS hA [0, 1] rfl rfl⟩ rfl rfl hl.1 rfl (lv_room (Nat.le_of_ble_eq_true rfl)) dX1_lock_1 ⟨Nat.le_of_ble_eq_true rfl, Nat.le_of_ble_eq_true rfl⟩) hP hD hS hA [0, 1] [2, 3] rfl rfl rfl (by decide) [2, 3, 0, 1, 4] rfl (fun u : Nat => [(h0, .inr (1, [.ref h1, .ref h2, .ref h3])), (h1, .inl (cI, 32, .inl gk)), (h2, .inl (cI, 16, .inl gb)), (h3, .inl (cI, 16, .inl go)), (u, .inl (cI, 4, .inl (qf (woQ (kcI gk)))))]) (fun _ => rfl) (fun u H locs hP hD hS => ?_)
  refine W.widen (k := 2) (n := 20) (Nat.le_refl _) (Nat.le_refl _) ?_
  obtain ⟨n1, rfl⟩ : ∃ z, z = u := ⟨_, rfl⟩
  have hP : va_P D vwCl [(h0, .inr (1, [.ref h1, .ref h2, .ref h3])), (h1, .inl (cI, 32, .inl gk)), (h2, .inl (cI, 16, .inl gb)), (h3, .inl (cI, 16, .inl go)), (n1, .inl (cI, 4, .inl (qf (woQ (kcI gk)))))] H := hP
  have hD : va_D A [(h0, .inr (1, [.ref h1, .ref h2, .ref h3])), (h1, .inl (cI, 32, .inl gk)), (h2, .inl (cI, 16, .inl gb)), (h3, .inl (cI, 16, .inl go)), (n1, .inl (cI, 4, .inl (qf (woQ (kcI gk)))))] := hD
  refine lv_astore_n (lv' := [(2, .ref n1), (0, .ref h0), (1, .int kd)]) hx hb dX1_lock_4 rfl hl (by decide) rfl (fun ls hl => ?_)
  refine lv_aload_n hx hb dX1_lock_5 rfl (lv_at hl 1 rfl) ?_
  refine va_get (D := D) (ci := 1) (v := .ref h2) (C := RX1) (T := TX1) (N := 3) hx hb hts in_X1 hown hK hP 0 rfl rfl 1 (by decide) (hts _ q290) (fun _ h9 => h9) rfl dX1_lock_6 ?_
  refine k_r (D := D) (wc := [(h2, .inl (cI, 16, .inl gb))]) (wr := [(h0, .inr (1, [.ref h1, .ref h2, .ref h3])), (h1, .inl (cI, 32, .inl gk)), (h3, .inl (cI, 16, .inl go)), (n1, .inl (cI, 4, .inl (qf (woQ (kcI gk)))))]) (va_runS (As := [.ref h2]) (rest := []) ⟨hx, hb, hml, hown, hts⟩ (metX1_words l D cB cI H.size h2 gb) (va_cwS 1 hts (lw_S q318 q319 q8 q320) rfl rfl rfl (by decide +kernel) ⟨Nat.le_of_ble_eq_true rfl, Nat.le_of_ble_eq_true rfl⟩) ⟨PreE.blind, preE hE hP hD hS hA [2] rfl rfl⟩ rfl rfl hl.1 rfl (lv_room (Nat.le_of_ble_eq_true rfl)) dX1_lock_9 ⟨Nat.le_of_ble_eq_true rfl, Nat.le_of_ble_eq_true rfl⟩) hP hD hS hA [2] [0, 1, 3, 4] rfl rfl rfl (by decide) [0, 1, 4, 2, 3, 5] rfl (fun u : Nat => [(h0, .inr (1, [.ref h1, .ref h2, .ref h3])), (h1, .inl (cI, 32, .inl gk)), (h2, .inl (cI, 16, .inl gb)), (h3, .inl (cI, 16, .inl go)), (n1, .inl (cI, 4, .inl (qf (woQ (kcI gk))))), (u, .inl (cI, 4, .inl (qf (woQ gb))))]) (fun _ => rfl) (fun u H locs hP hD hS => ?_)
  refine W.widen (k := 3) (n := 24) (Nat.le_refl _) (Nat.le_refl _) ?_
  obtain ⟨n2, rfl⟩ : ∃ z, z = u := ⟨_, rfl⟩
  have hP : va_P D vwCl [(h0, .inr (1, [.ref h1, .ref h2, .ref h3])), (h1, .inl (cI, 32, .inl gk)), (h2, .inl (cI, 16, .inl gb)), (h3, .inl (cI, 16, .inl go)), (n1, .inl (cI, 4, .inl (qf (woQ (kcI gk))))), (n2, .inl (cI, 4, .inl (qf (woQ gb))))] H := hP
  have hD : va_D A [(h0, .inr (1, [.ref h1, .ref h2, .ref h3])), (h1, .inl (cI, 32, .inl gk)), (h2, .inl (cI, 16, .inl gb)), (h3, .inl (cI, 16, .inl go)), (n1, .inl (cI, 4, .inl (qf (woQ (kcI gk))))), (n2, .inl (cI, 4, .inl (qf (woQ gb))))] := hD
  refine lv_astore_n (lv' := [(3, .ref n2), (2, .ref n1), (0, .ref h0), (1, .int kd)]) hx hb dX1_lock_12 rfl hl (by decide) rfl (fun ls hl => ?_)
  refine lv_iconst (v := 0) hx hb dX1_lock_13 (by decide) ?_
  refine lv_istore (lv' := [(4, .int 0), (3, .ref n2), (2, .ref n1), (0, .ref h0), (1, .int kd)]) hx hb dX1_lock_14 hl (by decide) rfl (fun ls hl => ?_)
  have loop : ∀ (n i : Nat), i + n = 16 → ∀ (H : Heap) (locs : List Loc) (ls : Array Slot), va_P D vwCl [(h0, .inr (1, [.ref h1, .ref h2, .ref h3])), (h1, .inl (cI, 32, .inl gk)), (h2, .inl (cI, 16, .inl gb)), (h3, .inl (cI, 16, .inl go)), (n1, .inl (cI, 4, .inl (qf (woQ (kcI gk))))), (n2, .inl (cI, 4, .inl (qf (lkI (woQ (kcI gk)) (woQ gb) i))))] H → va_D A [(h0, .inr (1, [.ref h1, .ref h2, .ref h3])), (h1, .inl (cI, 32, .inl gk)), (h2, .inl (cI, 16, .inl gb)), (h3, .inl (cI, 16, .inl go)), (n1, .inl (cI, 4, .inl (qf (woQ (kcI gk))))), (n2, .inl (cI, 4, .inl (qf (lkI (woQ (kcI gk)) (woQ gb) i))))] → va_S A s.heap H locs → lv_has ls 5 [(4, .int (nI i)), (3, .ref n2), (2, .ref n1), (1, .int kd), (0, .ref h0)] → W p l e (headSpec (ws_ yX1_lock cX1_lock 5 none) ({ frames := 4, cells := 3, slots := 24, locals := 240 } : Room)).room s m ([.ref h0, .int kd] : List Value).toArray below meth c H locs 3 24 (MQ below (PostV D A (fun _ : Unit => [(h0, .inr (1, [.ref h1, .ref h2, .ref h3])), (h1, .inl (cI, 32, .inl gk)), (h2, .inl (cI, 16, .inl gb)), (h3, .inl (cI, 16, .inl (laQ go (lkF (woQ (kcI gk)) (woQ gb)))))])) ([.ref h0, .int kd] : List Value).toArray s 3 24 A) (F0 m 16 ls []) := by
    intro n
    induction n with
    | zero =>
      intro i hi H locs ls hP hD hS hl
      have hi6 : i = 16 := by omega
      subst hi6
      refine lv_iload hx hb dX1_lock_16 (lv_at hl 0 rfl) ?_
      refine lv_bipush (v := 16) hx hb dX1_lock_18 (by decide) ?_
      refine lv_icmp_ge (tgt := 40) hx hb dX1_lock_20 (by decide) (fun _ => ?_) (fun c9 => absurd (nI_le (Nat.le_refl 16) (by omega)) c9)
      refine lv_aload_n hx hb dX1_lock_40 rfl (lv_at hl 1 rfl) ?_
      refine lv_iconst (v := 0) hx hb dX1_lock_41 (by decide) ?_
      refine lv_dup2_11 hx hb dX1_lock_42 rfl rfl ?_
      refine k_iald (v := (lkI (woQ (kcI gk)) (woQ gb) 16).1) hx hb hK hP 5 rfl 0 rfl (Nat.le_of_ble_eq_true rfl) (Nat.le_of_ble_eq_true rfl) rfl dX1_lock_43 ?_
      refine lv_bipush (v := 16) hx hb dX1_lock_44 (by decide) ?_
      refine lv_asi (y := nI 16) rfl ?_
      refine vp_callSi (va_Run.run (va_runS (As := [.int (nI 16)]) (rest := [.int ((lkI (woQ (kcI gk)) (woQ gb) 16).1), .int 0, .ref n2]) ⟨hx, hb, hml, hown, hts⟩ (metX1_constant l 16 (Nat.le_of_ble_eq_true rfl)) (va_cwS 1 hts (lw_S q321 q322 q8 q323) rfl rfl rfl (by decide +kernel) ⟨Nat.le_of_ble_eq_true rfl, Nat.le_of_ble_eq_true rfl⟩) ⟨fun _ _ _ _ h => h, fun _ _ _ => ⟨rfl, trivial⟩⟩ rfl rfl hl.1 rfl (lv_room (Nat.le_of_ble_eq_true rfl)) dX1_lock_46 ⟨Nat.le_of_ble_eq_true rfl, Nat.le_of_ble_eq_true rfl⟩)) (fun r9 (e9 : r9 = coM 16) => ?_)
      subst e9
      refine lv_ixor hx hb dX1_lock_49 ?_
      refine k_iast (f' := qf (adc (lkI (woQ (kcI gk)) (woQ gb) 16) (coM 16))) (w2 := [(h0, .inr (1, [.ref h1, .ref h2, .ref h3])), (h1, .inl (cI, 32, .inl gk)), (h2, .inl (cI, 16, .inl gb)), (h3, .inl (cI, 16, .inl go)), (n1, .inl (cI, 4, .inl (qf (woQ (kcI gk))))), (n2, .inl (cI, 4, .inl (qf (adc (lkI (woQ (kcI gk)) (woQ gb) 16) (coM 16)))))]) hx hb hK hP hD hS 5 rfl 0 rfl (Nat.le_of_ble_eq_true rfl) (Nat.le_of_ble_eq_true rfl) (qf_adc _ _) dX1_lock_50 rfl (fun H locs hP hD hS => ?_)
      refine lv_aload_n hx hb dX1_lock_51 rfl (lv_at hl 2 rfl) ?_
      refine lv_aload_n hx hb dX1_lock_52 rfl (lv_at hl 1 rfl) ?_
      refine k_v (D := D) (wc := [(n1, .inl (cI, 4, .inl (qf (woQ (kcI gk))))), (n2, .inl (cI, 4, .inl (qf (adc (lkI (woQ (kcI gk)) (woQ gb) 16) (coM 16)))))]) (wr := [(h0, .inr (1, [.ref h1, .ref h2, .ref h3])), (h1, .inl (cI, 32, .inl gk)), (h2, .inl (cI, 16, .inl gb)), (h3, .inl (cI, 16, .inl go))]) (va_runS (As := [.ref n1, .ref n2]) (rest := []) ⟨hx, hb, hml, hown, hts⟩ (metX1_theta l D cB cI H.size n1 n2 (woQ (kcI gk)) (adc (lkI (woQ (kcI gk)) (woQ gb) 16) (coM 16))) (va_cwS 2 hts (lw_S q327 q328 q8 q329) rfl rfl rfl (by decide +kernel) ⟨Nat.le_of_ble_eq_true rfl, Nat.le_of_ble_eq_true rfl⟩) ⟨PreE.blind, preE hE hP hD hS hA [4, 5] rfl rfl⟩ rfl rfl hl.1 rfl (lv_room (Nat.le_of_ble_eq_true rfl)) dX1_lock_53 ⟨Nat.le_of_ble_eq_true rfl, Nat.le_of_ble_eq_true rfl⟩) hP hD hS hA [4, 5] [0, 1, 2, 3] rfl rfl rfl (by decide) [0, 1, 2, 3, 4, 5] rfl (fun _ : Unit => [(h0, .inr (1, [.ref h1, .ref h2, .ref h3])), (h1, .inl (cI, 32, .inl gk)), (h2, .inl (cI, 16, .inl gb)), (h3, .inl (cI, 16, .inl go)), (n1, .inl (cI, 4, .inl (qf (woQ (kcI gk))))), (n2, .inl (cI, 4, .inl (qf (thM (woQ (kcI gk)) (adc (lkI (woQ (kcI gk)) (woQ gb) 16) (coM 16))))))]) (fun _ => rfl) (fun _ H locs hP hD hS => ?_)
      refine lv_aload_n hx hb dX1_lock_56 rfl (lv_at hl 4 rfl) ?_
      refine lv_aload_n hx hb dX1_lock_57 rfl (lv_at hl 1 rfl) ?_
      refine k_v (D := D) (wc := [(h0, .inr (1, [.ref h1, .ref h2, .ref h3])), (h3, .inl (cI, 16, .inl go)), (n2, .inl (cI, 4, .inl (qf (thM (woQ (kcI gk)) (adc (lkI (woQ (kcI gk)) (woQ gb) 16) (coM 16))))))]) (wr := [(h1, .inl (cI, 32, .inl gk)), (h2, .inl (cI, 16, .inl gb)), (n1, .inl (cI, 4, .inl (qf (woQ (kcI gk)))))]) (va_runV (As := [.ref n2]) (rest := []) ⟨hx, hb, hml, hown, hts⟩ (metX1_lays l D cB cI H.size h0 h1 h2 h3 n2 go (lkF (woQ (kcI gk)) (woQ gb))) (cwV 1 hts (lw_V q342 q344 qs5 q8 q345) rfl rfl rfl (by decide +kernel) ⟨Nat.le_of_ble_eq_true rfl, Nat.le_of_ble_eq_true rfl⟩) ⟨PreE.blind, va_recv hK hP (ci := 1) (q0 := 0) rfl rfl, preE hE hP hD hS hA [0, 3, 5] rfl rfl⟩ rfl rfl hl.1 rfl (lv_room (Nat.le_of_ble_eq_true rfl)) dX1_lock_58 ⟨Nat.le_of_ble_eq_true rfl, Nat.le_of_ble_eq_true rfl⟩) hP hD hS hA [0, 3, 5] [1, 2, 4] rfl rfl rfl (by decide) [3, 0, 1, 4, 2, 5] rfl (fun _ : Unit => [(h0, .inr (1, [.ref h1, .ref h2, .ref h3])), (h1, .inl (cI, 32, .inl gk)), (h2, .inl (cI, 16, .inl gb)), (h3, .inl (cI, 16, .inl (laQ go (lkF (woQ (kcI gk)) (woQ gb))))), (n1, .inl (cI, 4, .inl (qf (woQ (kcI gk))))), (n2, .inl (cI, 4, .inl (qf (lkF (woQ (kcI gk)) (woQ gb)))))]) (fun _ => rfl) (fun _ H locs hP hD hS => ?_)
      have hP := hP.sub (ws' := [(h0, .inr (1, [.ref h1, .ref h2, .ref h3])), (h1, .inl (cI, 32, .inl gk)), (h2, .inl (cI, 16, .inl gb)), (h3, .inl (cI, 16, .inl (laQ go (lkF (woQ (kcI gk)) (woQ gb)))))]) [0, 1, 2, 3] rfl
      have hD := hD.sub (ws' := [(h0, .inr (1, [.ref h1, .ref h2, .ref h3])), (h1, .inl (cI, 32, .inl gk)), (h2, .inl (cI, 16, .inl gb)), (h3, .inl (cI, 16, .inl (laQ go (lkF (woQ (kcI gk)) (woQ gb)))))]) [0, 1, 2, 3] rfl rfl
      exact W.vret hx hb hr (fun t ht hW => ⟨⟨(), rfl, trivial, by rw [ht]; exact hP, hD⟩, hS.F ht⟩) hS.2.2 dX1_lock_61
    | succ n ih =>
      intro i hi H locs ls hP hD hS hl
      refine lv_iload hx hb dX1_lock_16 (lv_at hl 0 rfl) ?_
      refine lv_bipush (v := 16) hx hb dX1_lock_18 (by decide) ?_
      refine lv_icmp_ge (tgt := 40) hx hb dX1_lock_20 (by decide) (fun c9 => absurd c9 (nI_ge (a := i) (b := 16) (by omega) (by omega))) (fun _ => ?_)
      refine lv_aload_n hx hb dX1_lock_23 rfl (lv_at hl 2 rfl) ?_
      refine lv_aload_n hx hb dX1_lock_24 rfl (lv_at hl 1 rfl) ?_
      refine lv_iload hx hb dX1_lock_25 (lv_at hl 0 rfl) ?_
      refine vp_callSi (va_Run.run (va_runS (As := [.int (nI i)]) (rest := [.ref n2, .ref n1]) ⟨hx, hb, hml, hown, hts⟩ (metX1_constant l i (by omega)) (va_cwS 1 hts (lw_S q321 q322 q8 q323) rfl rfl rfl (by decide +kernel) ⟨Nat.le_of_ble_eq_true rfl, Nat.le_of_ble_eq_true rfl⟩) ⟨fun _ _ _ _ h => h, fun _ _ _ => ⟨rfl, trivial⟩⟩ rfl rfl hl.1 rfl (lv_room (Nat.le_of_ble_eq_true rfl)) dX1_lock_27 ⟨Nat.le_of_ble_eq_true rfl, Nat.le_of_ble_eq_true rfl⟩)) (fun r9 (e9 : r9 = coM i) => ?_)
      subst e9
      refine lv_iconst (v := 0) hx hb dX1_lock_30 (by decide) ?_
      refine k_v (D := D) (wc := [(n1, .inl (cI, 4, .inl (qf (woQ (kcI gk))))), (n2, .inl (cI, 4, .inl (qf (lkI (woQ (kcI gk)) (woQ gb) i))))]) (wr := [(h0, .inr (1, [.ref h1, .ref h2, .ref h3])), (h1, .inl (cI, 32, .inl gk)), (h2, .inl (cI, 16, .inl gb)), (h3, .inl (cI, 16, .inl go))]) (va_runS (As := [.ref n1, .ref n2, .int (coM i), .int 0]) (rest := []) ⟨hx, hb, hml, hown, hts⟩ (metX1_round l D cB cI H.size n1 n2 (woQ (kcI gk)) (lkI (woQ (kcI gk)) (woQ gb) i) (coM i) 0) (va_cwS 4 hts (lw_S q324 q325 q8 q326) rfl rfl rfl (by decide +kernel) ⟨Nat.le_of_ble_eq_true rfl, Nat.le_of_ble_eq_true rfl⟩) ⟨PreE.blind, preE hE hP hD hS hA [4, 5] rfl rfl⟩ rfl rfl hl.1 rfl (lv_room (Nat.le_of_ble_eq_true rfl)) dX1_lock_31 ⟨Nat.le_of_ble_eq_true rfl, Nat.le_of_ble_eq_true rfl⟩) hP hD hS hA [4, 5] [0, 1, 2, 3] rfl rfl rfl (by decide) [0, 1, 2, 3, 4, 5] rfl (fun _ : Unit => [(h0, .inr (1, [.ref h1, .ref h2, .ref h3])), (h1, .inl (cI, 32, .inl gk)), (h2, .inl (cI, 16, .inl gb)), (h3, .inl (cI, 16, .inl go)), (n1, .inl (cI, 4, .inl (qf (woQ (kcI gk))))), (n2, .inl (cI, 4, .inl (qf (lkI (woQ (kcI gk)) (woQ gb) (i + 1)))))]) (fun _ => rfl) (fun _ H locs hP hD hS => ?_)
      refine lv_iinc (v := nI (i + 1)) (lv' := [(4, .int (nI (i + 1))), (3, .ref n2), (2, .ref n1), (1, .int kd), (0, .ref h0)]) hx hb dX1_lock_34 hl (k := 0) rfl (nI_add _ 1) (by decide) rfl (fun ls hl => ?_)
      refine lv_goto (tgt := 16) hx hb dX1_lock_37 (by decide) ?_
      exact ih (i + 1) (by omega) H locs ls hP hD hS (lv_sub hl [0, 1, 2, 3, 4] rfl)
  exact loop 16 0 (by omega) H locs ls hP hD hS (lv_sub hl [0, 1, 2, 4, 3] rfl)
set_option maxHeartbeats 4000000 in
set_option maxRecDepth 100000 in
theorem metX1_open (l : Launch) (D : va_G) (cB cI : ClassId) (sz : Nat) (h0 h1 h2 h3 : Nat) (gk gb go : Nat → Int32) (kd : Int32) : Met l yX1_open (ws_ yX1_open cX1_open 5 none) ({ frames := 4, cells := 4, slots := 28, locals := 240 } : Room) (PreE D cB cI [.ref h0, .int kd] sz [(h0, .inr (1, [.ref h1, .ref h2, .ref h3])), (h1, .inl (cI, 32, .inl gk)), (h2, .inl (cI, 16, .inl gb)), (h3, .inl (cI, 16, .inl go))]) (PostV D (va_A [(h0, .inr (1, [.ref h1, .ref h2, .ref h3])), (h1, .inl (cI, 32, .inl gk)), (h2, .inl (cI, 16, .inl gb)), (h3, .inl (cI, 16, .inl go))] sz) (fun _ : Unit => [(h0, .inr (1, [.ref h1, .ref h2, .ref h3])), (h1, .inl (cI, 32, .inl gk)), (h2, .inl (cI, 16, .inl gb)), (h3, .inl (cI, 16, .inl (laQ go (opF (thM (0, 0, 0, 0) (woQ (kcI gk))) (woQ gb)))))])) 4 28 (va_A [(h0, .inr (1, [.ref h1, .ref h2, .ref h3])), (h1, .inl (cI, 32, .inl gk)), (h2, .inl (cI, 16, .inl gb)), (h3, .inl (cI, 16, .inl go))] sz) := by
  refine Met.ofW (cc := cX1_open) (maxL := 5) (ret := none) (by decide) rfl ?_
  intro p e s m args below meth c s₁ B hml hv
  obtain ⟨rfl, hsz, hP, hD0, hE⟩ := hv
  have hx := B.exec
  have hb := B.bytes
  have hr := B.returns
  have hts := atoms_spec (ws := ws_ yX1_open cX1_open 5 none) B.pre
  have hts : ∀ w ∈ lw_all, w.before _ s = true := fun w h => hts w (List.mem_cons_of_mem _ h)
  have hown : s.vm.findClass RX1 = some m.cls := findClass_of_methodNamed B.named
  have hlocks := B.notSynchronized
  subst hsz
  have hD := hD0.self (sz := s.heap.size)
  generalize hAe : va_A [(h0, .inr (1, [.ref h1, .ref h2, .ref h3])), (h1, .inl (cI, 32, .inl gk)), (h2, .inl (cI, 16, .inl gb)), (h3, .inl (cI, 16, .inl go))] s.heap.size = A at hD hE ⊢
  have hA : ∀ q : Nat, s.heap.size ≤ q → A q := fun q h => by rw [← hAe]; exact Or.inr h
  have hS : va_S A s.heap s.heap [] := va_S.rf
  have hK := hE.1
  have hP : va_P D vwCl [(h0, .inr (1, [.ref h1, .ref h2, .ref h3])), (h1, .inl (cI, 32, .inl gk)), (h2, .inl (cI, 16, .inl gb)), (h3, .inl (cI, 16, .inl go))] s.heap := hP
  have hl := lv_entry ([.ref h0, .int kd]) (n := 5) (Nat.le_of_ble_eq_true rfl)
  rw [lg_entry_eq]
  generalize (lg_sl ([.ref h0, .int kd]) ++ List.replicate (5 - (lg_sl ([.ref h0, .int kd])).length) Slot.unset).toArray = ls at hl ⊢
  have hl : lv_has ls 5 [(0, .ref h0), (1, .int kd)] := hl
  refine lv_aload_n hx hb dX1_open_0 rfl (lv_at hl 0 rfl) ?_
  refine k_r (D := D) (wc := [(h0, .inr (1, [.ref h1, .ref h2, .ref h3])), (h1, .inl (cI, 32, .inl gk))]) (wr := [(h2, .inl (cI, 16, .inl gb)), (h3, .inl (cI, 16, .inl go))]) (va_runV (As := []) (rest := []) ⟨hx, hb, hml, hown, hts⟩ (metX1_cut l D cB cI s.heap.size h0 h1 h2 h3 gk) (cwV 0 hts (lw_V q314 q316 qs4 q8 q317) rfl rfl rfl (by decide +kernel) ⟨Nat.le_of_ble_eq_true rfl, Nat.le_of_ble_eq_true rfl⟩) ⟨PreE.blind, va_recv hK hP (ci := 1) (q0 := 0) rfl rfl, preE hE hP hD hS hA [0, 1] rfl rfl⟩ rfl rfl hl.1 rfl (lv_room (Nat.le_of_ble_eq_true rfl)) dX1_open_1 ⟨Nat.le_of_ble_eq_true rfl, Nat.le_of_ble_eq_true rfl⟩) hP hD hS hA [0, 1] [2, 3] rfl rfl rfl (by decide) [2, 3, 0, 1, 4] rfl (fun u : Nat => [(h0, .inr (1, [.ref h1, .ref h2, .ref h3])), (h1, .inl (cI, 32, .inl gk)), (h2, .inl (cI, 16, .inl gb)), (h3, .inl (cI, 16, .inl go)), (u, .inl (cI, 4, .inl (qf (woQ (kcI gk)))))]) (fun _ => rfl) (fun u H locs hP hD hS => ?_)
  refine W.widen (k := 2) (n := 20) (Nat.le_refl _) (Nat.le_refl _) ?_
  obtain ⟨n1, rfl⟩ : ∃ z, z = u := ⟨_, rfl⟩
  have hP : va_P D vwCl [(h0, .inr (1, [.ref h1, .ref h2, .ref h3])), (h1, .inl (cI, 32, .inl gk)), (h2, .inl (cI, 16, .inl gb)), (h3, .inl (cI, 16, .inl go)), (n1, .inl (cI, 4, .inl (qf (woQ (kcI gk)))))] H := hP
  have hD : va_D A [(h0, .inr (1, [.ref h1, .ref h2, .ref h3])), (h1, .inl (cI, 32, .inl gk)), (h2, .inl (cI, 16, .inl gb)), (h3, .inl (cI, 16, .inl go)), (n1, .inl (cI, 4, .inl (qf (woQ (kcI gk)))))] := hD
  refine lv_astore_n (lv' := [(2, .ref n1), (0, .ref h0), (1, .int kd)]) hx hb dX1_open_4 rfl hl (by decide) rfl (fun ls hl => ?_)
  refine lv_iconst (v := 4) hx hb dX1_open_5 (by decide) ?_
  refine k_newi hx hb (hts _ q80) hK hP hD hS hA 4 rfl (Nat.le_of_ble_eq_true rfl) (Nat.le_of_ble_eq_true rfl) (Nat.le_of_ble_eq_true rfl) dX1_open_6 (fun n2 H hP hD hS => ?_)
  have hP : va_P D vwCl [(h0, .inr (1, [.ref h1, .ref h2, .ref h3])), (h1, .inl (cI, 32, .inl gk)), (h2, .inl (cI, 16, .inl gb)), (h3, .inl (cI, 16, .inl go)), (n1, .inl (cI, 4, .inl (qf (woQ (kcI gk))))), (n2, .inl (cI, 4, .inl (fun _ => 0)))] H := hP
  have hD : va_D A [(h0, .inr (1, [.ref h1, .ref h2, .ref h3])), (h1, .inl (cI, 32, .inl gk)), (h2, .inl (cI, 16, .inl gb)), (h3, .inl (cI, 16, .inl go)), (n1, .inl (cI, 4, .inl (qf (woQ (kcI gk))))), (n2, .inl (cI, 4, .inl (fun _ => 0)))] := hD
  refine W.widen (k := 3) (n := 24) (Nat.le_refl _) (Nat.le_refl _) ?_
  have hP : va_P D vwCl [(h0, .inr (1, [.ref h1, .ref h2, .ref h3])), (h1, .inl (cI, 32, .inl gk)), (h2, .inl (cI, 16, .inl gb)), (h3, .inl (cI, 16, .inl go)), (n1, .inl (cI, 4, .inl (qf (woQ (kcI gk))))), (n2, .inl (cI, 4, .inl (qf (0, 0, 0, 0))))] H := by rw [← qf_0]; exact hP
  have hD : va_D A [(h0, .inr (1, [.ref h1, .ref h2, .ref h3])), (h1, .inl (cI, 32, .inl gk)), (h2, .inl (cI, 16, .inl gb)), (h3, .inl (cI, 16, .inl go)), (n1, .inl (cI, 4, .inl (qf (woQ (kcI gk))))), (n2, .inl (cI, 4, .inl (qf (0, 0, 0, 0))))] := by rw [← qf_0]; exact hD
  refine lv_aload_n hx hb dX1_open_8 rfl (lv_at hl 0 rfl) ?_
  refine k_v (D := D) (wc := [(n2, .inl (cI, 4, .inl (qf (0, 0, 0, 0)))), (n1, .inl (cI, 4, .inl (qf (woQ (kcI gk)))))]) (wr := [(h0, .inr (1, [.ref h1, .ref h2, .ref h3])), (h1, .inl (cI, 32, .inl gk)), (h2, .inl (cI, 16, .inl gb)), (h3, .inl (cI, 16, .inl go))]) (va_runS (As := [.ref n2, .ref n1]) (rest := []) ⟨hx, hb, hml, hown, hts⟩ (metX1_theta l D cB cI H.size n2 n1 (0, 0, 0, 0) (woQ (kcI gk))) (va_cwS 2 hts (lw_S q327 q328 q8 q329) rfl rfl rfl (by decide +kernel) ⟨Nat.le_of_ble_eq_true rfl, Nat.le_of_ble_eq_true rfl⟩) ⟨PreE.blind, preE hE hP hD hS hA [5, 4] rfl rfl⟩ rfl rfl hl.1 rfl (lv_room (Nat.le_of_ble_eq_true rfl)) dX1_open_9 ⟨Nat.le_of_ble_eq_true rfl, Nat.le_of_ble_eq_true rfl⟩) hP hD hS hA [5, 4] [0, 1, 2, 3] rfl rfl rfl (by decide) [0, 1, 2, 3, 5, 4] rfl (fun _ : Unit => [(h0, .inr (1, [.ref h1, .ref h2, .ref h3])), (h1, .inl (cI, 32, .inl gk)), (h2, .inl (cI, 16, .inl gb)), (h3, .inl (cI, 16, .inl go)), (n1, .inl (cI, 4, .inl (qf (thM (0, 0, 0, 0) (woQ (kcI gk)))))), (n2, .inl (cI, 4, .inl (qf (0, 0, 0, 0))))]) (fun _ => rfl) (fun _ H locs hP hD hS => ?_)
  refine lv_aload_n hx hb dX1_open_12 rfl (lv_at hl 1 rfl) ?_
  refine va_get (D := D) (ci := 1) (v := .ref h2) (C := RX1) (T := TX1) (N := 3) hx hb hts in_X1 hown hK hP 0 rfl rfl 1 (by decide) (hts _ q290) (fun _ h9 => h9) rfl dX1_open_13 ?_
  refine k_r (D := D) (wc := [(h2, .inl (cI, 16, .inl gb))]) (wr := [(h0, .inr (1, [.ref h1, .ref h2, .ref h3])), (h1, .inl (cI, 32, .inl gk)), (h3, .inl (cI, 16, .inl go)), (n1, .inl (cI, 4, .inl (qf (thM (0, 0, 0, 0) (woQ (kcI gk)))))), (n2, .inl (cI, 4, .inl (qf (0, 0, 0, 0))))]) (va_runS (As := [.ref h2]) (rest := []) ⟨hx, hb, hml, hown, hts⟩ (metX1_words l D cB cI H.size h2 gb) (va_cwS 1 hts (lw_S q318 q319 q8 q320) rfl rfl rfl (by decide +kernel) ⟨Nat.le_of_ble_eq_true rfl, Nat.le_of_ble_eq_true rfl⟩) ⟨PreE.blind, preE hE hP hD hS hA [2] rfl rfl⟩ rfl rfl hl.1 rfl (lv_room (Nat.le_of_ble_eq_true rfl)) dX1_open_16 ⟨Nat.le_of_ble_eq_true rfl, Nat.le_of_ble_eq_true rfl⟩) hP hD hS hA [2] [0, 1, 3, 4, 5] rfl rfl rfl (by decide) [0, 1, 5, 2, 3, 4, 6] rfl (fun u : Nat => [(h0, .inr (1, [.ref h1, .ref h2, .ref h3])), (h1, .inl (cI, 32, .inl gk)), (h2, .inl (cI, 16, .inl gb)), (h3, .inl (cI, 16, .inl go)), (n1, .inl (cI, 4, .inl (qf (thM (0, 0, 0, 0) (woQ (kcI gk)))))), (n2, .inl (cI, 4, .inl (qf (0, 0, 0, 0)))), (u, .inl (cI, 4, .inl (qf (woQ gb))))]) (fun _ => rfl) (fun u H locs hP hD hS => ?_)
  refine W.widen (k := 4) (n := 28) (Nat.le_refl _) (Nat.le_refl _) ?_
  obtain ⟨n3, rfl⟩ : ∃ z, z = u := ⟨_, rfl⟩
  have hP : va_P D vwCl [(h0, .inr (1, [.ref h1, .ref h2, .ref h3])), (h1, .inl (cI, 32, .inl gk)), (h2, .inl (cI, 16, .inl gb)), (h3, .inl (cI, 16, .inl go)), (n1, .inl (cI, 4, .inl (qf (thM (0, 0, 0, 0) (woQ (kcI gk)))))), (n2, .inl (cI, 4, .inl (qf (0, 0, 0, 0)))), (n3, .inl (cI, 4, .inl (qf (woQ gb))))] H := hP
  have hD : va_D A [(h0, .inr (1, [.ref h1, .ref h2, .ref h3])), (h1, .inl (cI, 32, .inl gk)), (h2, .inl (cI, 16, .inl gb)), (h3, .inl (cI, 16, .inl go)), (n1, .inl (cI, 4, .inl (qf (thM (0, 0, 0, 0) (woQ (kcI gk)))))), (n2, .inl (cI, 4, .inl (qf (0, 0, 0, 0)))), (n3, .inl (cI, 4, .inl (qf (woQ gb))))] := hD
  have hP := hP.sub (ws' := [(h0, .inr (1, [.ref h1, .ref h2, .ref h3])), (h1, .inl (cI, 32, .inl gk)), (h2, .inl (cI, 16, .inl gb)), (h3, .inl (cI, 16, .inl go)), (n1, .inl (cI, 4, .inl (qf (thM (0, 0, 0, 0) (woQ (kcI gk)))))), (n3, .inl (cI, 4, .inl (qf (woQ gb))))]) [0, 1, 2, 3, 4, 6] rfl
  have hD := hD.sub (ws' := [(h0, .inr (1, [.ref h1, .ref h2, .ref h3])), (h1, .inl (cI, 32, .inl gk)), (h2, .inl (cI, 16, .inl gb)), (h3, .inl (cI, 16, .inl go)), (n1, .inl (cI, 4, .inl (qf (thM (0, 0, 0, 0) (woQ (kcI gk)))))), (n3, .inl (cI, 4, .inl (qf (woQ gb))))]) [0, 1, 2, 3, 4, 6] rfl rfl
  refine lv_astore_n (lv' := [(3, .ref n3), (2, .ref n1), (0, .ref h0), (1, .int kd)]) hx hb dX1_open_19 rfl hl (by decide) rfl (fun ls hl => ?_)
  refine lv_bipush (v := 16) hx hb dX1_open_20 (by decide) ?_
  refine lv_istore (lv' := [(4, .int 16), (3, .ref n3), (2, .ref n1), (0, .ref h0), (1, .int kd)]) hx hb dX1_open_22 hl (by decide) rfl (fun ls hl => ?_)
  have loop : ∀ (r i : Nat), i + r = 16 → ∀ (H : Heap) (locs : List Loc) (ls : Array Slot), va_P D vwCl [(h0, .inr (1, [.ref h1, .ref h2, .ref h3])), (h1, .inl (cI, 32, .inl gk)), (h2, .inl (cI, 16, .inl gb)), (h3, .inl (cI, 16, .inl go)), (n1, .inl (cI, 4, .inl (qf (thM (0, 0, 0, 0) (woQ (kcI gk)))))), (n3, .inl (cI, 4, .inl (qf (opI (thM (0, 0, 0, 0) (woQ (kcI gk))) (woQ gb) i))))] H → va_D A [(h0, .inr (1, [.ref h1, .ref h2, .ref h3])), (h1, .inl (cI, 32, .inl gk)), (h2, .inl (cI, 16, .inl gb)), (h3, .inl (cI, 16, .inl go)), (n1, .inl (cI, 4, .inl (qf (thM (0, 0, 0, 0) (woQ (kcI gk)))))), (n3, .inl (cI, 4, .inl (qf (opI (thM (0, 0, 0, 0) (woQ (kcI gk))) (woQ gb) i))))] → va_S A s.heap H locs → lv_has ls 5 [(4, .int (nI r)), (3, .ref n3), (2, .ref n1), (1, .int kd), (0, .ref h0)] → W p l e (headSpec (ws_ yX1_open cX1_open 5 none) ({ frames := 4, cells := 4, slots := 28, locals := 240 } : Room)).room s m ([.ref h0, .int kd] : List Value).toArray below meth c H locs 4 28 (MQ below (PostV D A (fun _ : Unit => [(h0, .inr (1, [.ref h1, .ref h2, .ref h3])), (h1, .inl (cI, 32, .inl gk)), (h2, .inl (cI, 16, .inl gb)), (h3, .inl (cI, 16, .inl (laQ go (opF (thM (0, 0, 0, 0) (woQ (kcI gk))) (woQ gb)))))])) ([.ref h0, .int kd] : List Value).toArray s 4 28 A) (F0 m 24 ls []) := by
    intro r
    induction r with
    | zero =>
      intro i hi H locs ls hP hD hS hl
      have hi6 : i = 16 := by omega
      subst hi6
      refine lv_iload hx hb dX1_open_24 (lv_at hl 0 rfl) ?_
      refine lv_if_le (tgt := 46) hx hb dX1_open_26 (by decide) (fun _ => ?_) (fun c9 => absurd (show nI 0 ≤ 0 by decide) c9)
      refine lv_aload_n hx hb dX1_open_46 rfl (lv_at hl 2 rfl) ?_
      refine lv_aload_n hx hb dX1_open_47 rfl (lv_at hl 1 rfl) ?_
      refine k_v (D := D) (wc := [(n1, .inl (cI, 4, .inl (qf (thM (0, 0, 0, 0) (woQ (kcI gk)))))), (n3, .inl (cI, 4, .inl (qf (opI (thM (0, 0, 0, 0) (woQ (kcI gk))) (woQ gb) 16))))]) (wr := [(h0, .inr (1, [.ref h1, .ref h2, .ref h3])), (h1, .inl (cI, 32, .inl gk)), (h2, .inl (cI, 16, .inl gb)), (h3, .inl (cI, 16, .inl go))]) (va_runS (As := [.ref n1, .ref n3]) (rest := []) ⟨hx, hb, hml, hown, hts⟩ (metX1_theta l D cB cI H.size n1 n3 (thM (0, 0, 0, 0) (woQ (kcI gk))) (opI (thM (0, 0, 0, 0) (woQ (kcI gk))) (woQ gb) 16)) (va_cwS 2 hts (lw_S q327 q328 q8 q329) rfl rfl rfl (by decide +kernel) ⟨Nat.le_of_ble_eq_true rfl, Nat.le_of_ble_eq_true rfl⟩) ⟨PreE.blind, preE hE hP hD hS hA [4, 5] rfl rfl⟩ rfl rfl hl.1 rfl (lv_room (Nat.le_of_ble_eq_true rfl)) dX1_open_48 ⟨Nat.le_of_ble_eq_true rfl, Nat.le_of_ble_eq_true rfl⟩) hP hD hS hA [4, 5] [0, 1, 2, 3] rfl rfl rfl (by decide) [0, 1, 2, 3, 4, 5] rfl (fun _ : Unit => [(h0, .inr (1, [.ref h1, .ref h2, .ref h3])), (h1, .inl (cI, 32, .inl gk)), (h2, .inl (cI, 16, .inl gb)), (h3, .inl (cI, 16, .inl go)), (n1, .inl (cI, 4, .inl (qf (thM (0, 0, 0, 0) (woQ (kcI gk)))))), (n3, .inl (cI, 4, .inl (qf (thM (thM (0, 0, 0, 0) (woQ (kcI gk))) (opI (thM (0, 0, 0, 0) (woQ (kcI gk))) (woQ gb) 16)))))]) (fun _ => rfl) (fun _ H locs hP hD hS => ?_)
      refine lv_aload_n hx hb dX1_open_51 rfl (lv_at hl 1 rfl) ?_
      refine lv_iconst (v := 0) hx hb dX1_open_52 (by decide) ?_
      refine lv_dup2_11 hx hb dX1_open_53 rfl rfl ?_
      refine k_iald (v := (thM (thM (0, 0, 0, 0) (woQ (kcI gk))) (opI (thM (0, 0, 0, 0) (woQ (kcI gk))) (woQ gb) 16)).1) hx hb hK hP 5 rfl 0 rfl (Nat.le_of_ble_eq_true rfl) (Nat.le_of_ble_eq_true rfl) rfl dX1_open_54 ?_
      refine lv_iconst (v := 0) hx hb dX1_open_55 (by decide) ?_
      refine lv_asi (y := nI 0) rfl ?_
      refine vp_callSi (va_Run.run (va_runS (As := [.int (nI 0)]) (rest := [.int ((thM (thM (0, 0, 0, 0) (woQ (kcI gk))) (opI (thM (0, 0, 0, 0) (woQ (kcI gk))) (woQ gb) 16)).1), .int 0, .ref n3]) ⟨hx, hb, hml, hown, hts⟩ (metX1_constant l 0 (Nat.le_of_ble_eq_true rfl)) (va_cwS 1 hts (lw_S q321 q322 q8 q323) rfl rfl rfl (by decide +kernel) ⟨Nat.le_of_ble_eq_true rfl, Nat.le_of_ble_eq_true rfl⟩) ⟨fun _ _ _ _ h => h, fun _ _ _ => ⟨rfl, trivial⟩⟩ rfl rfl hl.1 rfl (lv_room (Nat.le_of_ble_eq_true rfl)) dX1_open_56 ⟨Nat.le_of_ble_eq_true rfl, Nat.le_of_ble_eq_true rfl⟩)) (fun r9 (e9 : r9 = coM 0) => ?_)
      subst e9
      refine lv_ixor hx hb dX1_open_59 ?_
      refine k_iast (f' := qf (adc (thM (thM (0, 0, 0, 0) (woQ (kcI gk))) (opI (thM (0, 0, 0, 0) (woQ (kcI gk))) (woQ gb) 16)) (coM 0))) (w2 := [(h0, .inr (1, [.ref h1, .ref h2, .ref h3])), (h1, .inl (cI, 32, .inl gk)), (h2, .inl (cI, 16, .inl gb)), (h3, .inl (cI, 16, .inl go)), (n1, .inl (cI, 4, .inl (qf (thM (0, 0, 0, 0) (woQ (kcI gk)))))), (n3, .inl (cI, 4, .inl (qf (adc (thM (thM (0, 0, 0, 0) (woQ (kcI gk))) (opI (thM (0, 0, 0, 0) (woQ (kcI gk))) (woQ gb) 16)) (coM 0)))))]) hx hb hK hP hD hS 5 rfl 0 rfl (Nat.le_of_ble_eq_true rfl) (Nat.le_of_ble_eq_true rfl) (qf_adc _ _) dX1_open_60 rfl (fun H locs hP hD hS => ?_)
      refine lv_aload_n hx hb dX1_open_61 rfl (lv_at hl 4 rfl) ?_
      refine lv_aload_n hx hb dX1_open_62 rfl (lv_at hl 1 rfl) ?_
      refine k_v (D := D) (wc := [(h0, .inr (1, [.ref h1, .ref h2, .ref h3])), (h3, .inl (cI, 16, .inl go)), (n3, .inl (cI, 4, .inl (qf (adc (thM (thM (0, 0, 0, 0) (woQ (kcI gk))) (opI (thM (0, 0, 0, 0) (woQ (kcI gk))) (woQ gb) 16)) (coM 0)))))]) (wr := [(h1, .inl (cI, 32, .inl gk)), (h2, .inl (cI, 16, .inl gb)), (n1, .inl (cI, 4, .inl (qf (thM (0, 0, 0, 0) (woQ (kcI gk))))))]) (va_runV (As := [.ref n3]) (rest := []) ⟨hx, hb, hml, hown, hts⟩ (metX1_lays l D cB cI H.size h0 h1 h2 h3 n3 go (opF (thM (0, 0, 0, 0) (woQ (kcI gk))) (woQ gb))) (cwV 1 hts (lw_V q342 q344 qs5 q8 q345) rfl rfl rfl (by decide +kernel) ⟨Nat.le_of_ble_eq_true rfl, Nat.le_of_ble_eq_true rfl⟩) ⟨PreE.blind, va_recv hK hP (ci := 1) (q0 := 0) rfl rfl, preE hE hP hD hS hA [0, 3, 5] rfl rfl⟩ rfl rfl hl.1 rfl (lv_room (Nat.le_of_ble_eq_true rfl)) dX1_open_63 ⟨Nat.le_of_ble_eq_true rfl, Nat.le_of_ble_eq_true rfl⟩) hP hD hS hA [0, 3, 5] [1, 2, 4] rfl rfl rfl (by decide) [3, 0, 1, 4, 2, 5] rfl (fun _ : Unit => [(h0, .inr (1, [.ref h1, .ref h2, .ref h3])), (h1, .inl (cI, 32, .inl gk)), (h2, .inl (cI, 16, .inl gb)), (h3, .inl (cI, 16, .inl (laQ go (opF (thM (0, 0, 0, 0) (woQ (kcI gk))) (woQ gb))))), (n1, .inl (cI, 4, .inl (qf (thM (0, 0, 0, 0) (woQ (kcI gk)))))), (n3, .inl (cI, 4, .inl (qf (opF (thM (0, 0, 0, 0) (woQ (kcI gk))) (woQ gb)))))]) (fun _ => rfl) (fun _ H locs hP hD hS => ?_)
      have hP := hP.sub (ws' := [(h0, .inr (1, [.ref h1, .ref h2, .ref h3])), (h1, .inl (cI, 32, .inl gk)), (h2, .inl (cI, 16, .inl gb)), (h3, .inl (cI, 16, .inl (laQ go (opF (thM (0, 0, 0, 0) (woQ (kcI gk))) (woQ gb)))))]) [0, 1, 2, 3] rfl
      have hD := hD.sub (ws' := [(h0, .inr (1, [.ref h1, .ref h2, .ref h3])), (h1, .inl (cI, 32, .inl gk)), (h2, .inl (cI, 16, .inl gb)), (h3, .inl (cI, 16, .inl (laQ go (opF (thM (0, 0, 0, 0) (woQ (kcI gk))) (woQ gb)))))]) [0, 1, 2, 3] rfl rfl
      exact W.vret hx hb hr (fun t ht hW => ⟨⟨(), rfl, trivial, by rw [ht]; exact hP, hD⟩, hS.F ht⟩) hS.2.2 dX1_open_66
    | succ r ih =>
      intro i hi H locs ls hP hD hS hl
      have hri : 16 - i = r + 1 := by omega
      refine lv_iload hx hb dX1_open_24 (lv_at hl 0 rfl) ?_
      refine lv_if_le (tgt := 46) hx hb dX1_open_26 (by decide) (fun c9 => absurd c9 (nI_nle (show 0 < r + 1 by omega) (by omega))) (fun _ => ?_)
      refine lv_aload_n hx hb dX1_open_29 rfl (lv_at hl 2 rfl) ?_
      refine lv_aload_n hx hb dX1_open_30 rfl (lv_at hl 1 rfl) ?_
      refine lv_iconst (v := 0) hx hb dX1_open_31 (by decide) ?_
      refine lv_iload hx hb dX1_open_32 (lv_at hl 0 rfl) ?_
      refine vp_callSi (va_Run.run (va_runS (As := [.int (nI (r + 1))]) (rest := [.int 0, .ref n3, .ref n1]) ⟨hx, hb, hml, hown, hts⟩ (metX1_constant l (r + 1) (by omega)) (va_cwS 1 hts (lw_S q321 q322 q8 q323) rfl rfl rfl (by decide +kernel) ⟨Nat.le_of_ble_eq_true rfl, Nat.le_of_ble_eq_true rfl⟩) ⟨fun _ _ _ _ h => h, fun _ _ _ => ⟨rfl, trivial⟩⟩ rfl rfl hl.1 rfl (lv_room (Nat.le_of_ble_eq_true rfl)) dX1_open_34 ⟨Nat.le_of_ble_eq_true rfl, Nat.le_of_ble_eq_true rfl⟩)) (fun r9 (e9 : r9 = coM (r + 1)) => ?_)
      subst e9
      refine k_v (D := D) (wc := [(n1, .inl (cI, 4, .inl (qf (thM (0, 0, 0, 0) (woQ (kcI gk)))))), (n3, .inl (cI, 4, .inl (qf (opI (thM (0, 0, 0, 0) (woQ (kcI gk))) (woQ gb) i))))]) (wr := [(h0, .inr (1, [.ref h1, .ref h2, .ref h3])), (h1, .inl (cI, 32, .inl gk)), (h2, .inl (cI, 16, .inl gb)), (h3, .inl (cI, 16, .inl go))]) (va_runS (As := [.ref n1, .ref n3, .int 0, .int (coM (r + 1))]) (rest := []) ⟨hx, hb, hml, hown, hts⟩ (metX1_round l D cB cI H.size n1 n3 (thM (0, 0, 0, 0) (woQ (kcI gk))) (opI (thM (0, 0, 0, 0) (woQ (kcI gk))) (woQ gb) i) 0 (coM (r + 1))) (va_cwS 4 hts (lw_S q324 q325 q8 q326) rfl rfl rfl (by decide +kernel) ⟨Nat.le_of_ble_eq_true rfl, Nat.le_of_ble_eq_true rfl⟩) ⟨PreE.blind, preE hE hP hD hS hA [4, 5] rfl rfl⟩ rfl rfl hl.1 rfl (lv_room (Nat.le_of_ble_eq_true rfl)) dX1_open_37 ⟨Nat.le_of_ble_eq_true rfl, Nat.le_of_ble_eq_true rfl⟩) hP hD hS hA [4, 5] [0, 1, 2, 3] rfl rfl rfl (by decide) [0, 1, 2, 3, 4, 5] rfl (fun _ : Unit => [(h0, .inr (1, [.ref h1, .ref h2, .ref h3])), (h1, .inl (cI, 32, .inl gk)), (h2, .inl (cI, 16, .inl gb)), (h3, .inl (cI, 16, .inl go)), (n1, .inl (cI, 4, .inl (qf (thM (0, 0, 0, 0) (woQ (kcI gk)))))), (n3, .inl (cI, 4, .inl (qf (roM (thM (0, 0, 0, 0) (woQ (kcI gk))) (opI (thM (0, 0, 0, 0) (woQ (kcI gk))) (woQ gb) i) 0 (coM (r + 1))))))]) (fun _ => rfl) (fun _ H locs hP hD hS => ?_)
      have hq : roM (thM (0, 0, 0, 0) (woQ (kcI gk))) (opI (thM (0, 0, 0, 0) (woQ (kcI gk))) (woQ gb) i) 0 (coM (r + 1)) = opI (thM (0, 0, 0, 0) (woQ (kcI gk))) (woQ gb) (i + 1) := by
        show _ = roM (thM (0, 0, 0, 0) (woQ (kcI gk))) (opI (thM (0, 0, 0, 0) (woQ (kcI gk))) (woQ gb) i) 0 (coM (16 - i))
        rw [hri]
      rw [hq] at hP hD
      refine lv_iinc (v := nI r) (lv' := [(4, .int (nI r)), (3, .ref n3), (2, .ref n1), (1, .int kd), (0, .ref h0)]) hx hb dX1_open_40 hl (k := 0) rfl (by rw [show Int32.ofInt (-1) = (-1 : Int32) from by decide]; exact pk_m1 r) (by decide) rfl (fun ls hl => ?_)
      refine lv_goto (tgt := 24) hx hb dX1_open_43 (by decide) ?_
      exact ih (i + 1) (by omega) H locs ls hP hD hS (lv_sub hl [0, 1, 2, 3, 4] rfl)
  exact loop 16 0 (by omega) H locs ls hP hD hS (lv_sub hl [0, 1, 2, 4, 3] rfl)
end
section
/-! THE CLAIM OUT OF ONE WALK OF THE LAW'S BODY. Your part is whole_start (and what it stands on); all else here is the same for every law, but numbers. -/
def R_law : String := "NoekeonDeskLaw"
def lw_P (b : Addr) (xs : List Int32) (args : Array Value) (s : State) : Prop := args = #[.ref b] ∧ s.IntsAt b xs ∧ xs.length ≤ 288 ∧ (Jvm.Cond.and given_1 narrow_1).before args s = true
def lw_Q (_ : Array Value) (s : State) (o : Outcome) (t : State) : Prop := o = .returned (some (.int 1)) ∧ Framed s o t [] 600096 7301386
def lw_Z (below : List Frame) (a : Array Value) (s : State) : State → Prop := fun t => ∃ o, t.status = .running ∧ Ended t below o ∧ lw_Q a s o t
/-- the law's own end, with 1 on the stack, nothing written that was there before, its room as the claim has it -/
theorem lw_ret {p : Program} {l : Launch} {e : Env} {s : State} {m : MethodId} {below : List Frame} {meth : Method} {c : Code} {b : Nat} (hx : p.tables.exec = Jvm.exec) (hb : c.code = code) (hr : meth.sig.returnType = ret) (hlocks : meth.locks = false) {pc : Nat} {H : Heap} {ls : Array Slot} (hdg : decode code pc = .ok (.ireturn, 1)) : W p l e room_1 s m #[Value.ref b] below meth c H [] 600096 7301386 (lw_Z below #[Value.ref b] s) (F0 m pc ls [.int 1]) := by
  intro T hT X
  obtain ⟨fs, hret, hrun, hended, hW, hframe⟩ := X.leave (v := some (.int 1)) (hlocks := hlocks) (fun h => by rw [hr] at h; cases h)
  have hmeth' : T.vm.method? m = some meth := X.method'
  refine ⟨T.setFrames fs, ?_, .returned (some (.int 1)), hrun, hended, rfl, ⟨_, rfl⟩, hW, hframe⟩
  jvm_step X.here [X.here.top, hx, hb, hdg, hmeth', hr, ret, narrow_b1]
  (try refine ⟨rfl, ?_⟩); (try refine ⟨rfl, ?_⟩)
  first | (intro acts; rw [hret _ acts rfl rfl rfl]) | rw [hret _ _ rfl rfl rfl]
  exact Steps.refl _
/-- what holds at the law's entry: the machine, the code, the tables' words (any of lw_tbl by 'hts w (by decide +kernel)'), the script of L ints xs at the cell b, what the Statement gives of the start (any of its parts by flat_of_before) -/
def lw_At (p : Program) (s : State) (m : MethodId) (meth : Method) (c : Code) (b L : Nat) (xs : Nat → Int32) : Prop :=
  p.tables.exec = Jvm.exec ∧ c.code = code ∧ meth.sig.returnType = ret ∧ c.maxLocals = 4 ∧ s.vm.findClass R_law = some m.cls ∧ (∀ w ∈ lw_tbl, w.before #[Value.ref b] s = true) ∧ va_X b L xs s s.heap ∧ b < s.heap.size ∧ meth.locks = false ∧ (Jvm.Cond.and given_1 narrow_1).before #[Value.ref b] s = true
set_option maxRecDepth 100000 in
theorem rc_mem : ∀ j, j < 17 → Cond.eq (.elem (.static "NoekeonEngine" "roundConstants" "[B") (.int (Int32.ofNat j))) (.int (rcB j)) ∈ flatC (Jvm.Cond.and given_1 narrow_1) := by decide +kernel
set_option maxRecDepth 100000 in
theorem rc_len : Cond.eq (.length (.static "NoekeonEngine" "roundConstants" "[B")) (.int 17) ∈ flatC (Jvm.Cond.and given_1 narrow_1) := by decide +kernel
set_option maxRecDepth 100000 in
theorem rc_arr : Cond.arrayOf (.static "NoekeonEngine" "roundConstants" "[B") .byte ∈ flatC (Jvm.Cond.and given_1 narrow_1) := by decide +kernel
/-- the classes' numbers, the tables, the words of the interface: known at the claim's start -/
theorem ev_start {s : State} {b : Nat} {A : Nat → Prop} (hA2 : ∀ q, A q → s.heap.size ≤ q) (ht : ∀ w ∈ lw_tbl, w.before #[Value.ref b] s = true) (hgv : (Jvm.Cond.and given_1 narrow_1).before #[Value.ref b] s = true) : ∃ (D : va_G) (cB cI : ClassId), EV D cB cI A s := by
  have hA3 : ∀ a : Nat, a < s.heap.size → ¬ A a := fun a h q => absurd (hA2 a q) (Nat.not_le.mpr h)
  have hs := flat_of_before _ hgv
  obtain ⟨c0, i0, h0⟩ := u_known (C := RX0) (T := TX0) (N := 3) (n := 3) ht (fun w h => lw_all_tbl (in_X0 w h)) (ht _ (lw_all_tbl q24))
  obtain ⟨c1, i1, h1⟩ := u_known (C := RX1) (T := TX1) (N := 3) (n := 3) ht (fun w h => lw_all_tbl (in_X1 w h)) (ht _ (lw_all_tbl q284))
  obtain ⟨c2, i2, h2⟩ := u_known (C := RX2) (T := TX2) (N := 3) (n := 3) ht (fun w h => lw_all_tbl (in_X2 w h)) (ht _ (lw_all_tbl q65))
  obtain ⟨c3, i3, h3⟩ := u_known (C := RX3) (T := TX3) (N := 1) (n := 1) ht (fun w h => lw_all_tbl (in_X3 w h)) (ht _ (lw_all_tbl q82))
  obtain ⟨cB, kB, mB, b1, b2, b3⟩ := Cond.arrayClass_spec (ht _ (lw_all_tbl q41))
  obtain ⟨cI, kI, mI, j1, j2, j3⟩ := Cond.arrayClass_spec (ht _ (lw_all_tbl q80))
  obtain ⟨t, ht1, ht2⟩ := va_Tof (tm := .static "NoekeonEngine" "roundConstants" "[B") (ty := .byte) (N := 17) (f := fun j => .int (rcB j)) (A := A) (by decide) (hs _ rc_arr) (va_eqt (hs _ rc_len)) (fun j hj => va_eqt (hs _ (rc_mem j hj))) hA3
  refine ⟨(fun k => match k with | 0 => c0 | 1 => c1 | 2 => c2 | _ => c3, fun k => match k with | 0 => i0 | 1 => i1 | 2 => i2 | _ => i3), cB, cI, ⟨?_, ?_⟩, ⟨t, va_Zref (ht _ q263) (ht _ (lw_all_tbl q9)) ht1 hA3, ht2⟩, ?_, ?_⟩
  · intro k q hq
    match k, hq with
    | 0, hq => cases hq; exact h0
    | 1, hq => cases hq; exact h1
    | 2, hq => cases hq; exact h2
    | 3, hq => cases hq; exact h3
    | k + 4, hq => simp [vwCl] at hq
  · intro k q hq
    match k, hq with
    | 0, hq => cases hq; exact ⟨fun n z => ⟨fun k h => (by cases h), kB, b2, mB, b3⟩, b1⟩
    | 1, hq => cases hq; exact ⟨fun n z => ⟨fun k h => (by cases h), kI, j2, mI, j3⟩, j1⟩
    | k + 2, hq => simp [tyBI] at hq
  · exact va_Fw.of (ht _ q103) (ht _ q102) (ht _ q108) (ht _ q106) (ht _ q104)
  · exact va_Fw.of (ht _ q199) (ht _ q198) (ht _ q203) (ht _ q201) (ht _ q104)
theorem law_cmp {i L : Nat} (hi : i ≤ 1000) (hL : L ≤ 1000) (h : ¬ (Int32.ofNat L - 6 < nI i)) : i + 6 ≤ L := by
  rcases Nat.lt_or_ge L (i + 6) with q | q
  · refine absurd ?_ h
    show nI L - nI 6 < nI i
    rw [Int32.lt_iff_toInt_lt, pk_sub_toInt (by omega) (by omega), nI_toInt (by omega)]
    omega
  · exact q
section KS
variable {p : Program} {l : Launch} {e : Env} {R : Room} {s : State} {m : MethodId} {args : Array Value} {below : List Frame} {meth : Method} {c : Code} {H : Heap} {locs : List Loc} {cells slots : Nat} {Q : State → Prop}
variable {cc : ByteArray} {pc : Nat} {ls : Array Slot} {rest : List Value} {A : Nat → Prop}
theorem k_sld (hexec : p.tables.exec = Jvm.exec) (hb : c.code = cc) {b L : Nat} {xs : Nat → Int32} (hX : va_X b L xs s s.heap) (hbl : b < s.heap.size) (hbA : ¬ A b) (hS : va_S A s.heap H locs) {i v : Int32} (k : Nat) (hi : i = nI k) (hk : k < L) (hL : L ≤ 1000) (hv : xs k = v) (hdg : decode cc pc = .ok (.iaload, 1))
    (kk : W p l e R s m args below meth c H locs cells slots Q (F0 m (pc + 1) ls (.int v :: rest))) : W p l e R s m args below meth c H locs cells slots Q (F0 m pc ls (.int i :: .ref b :: rest)) := by
  subst hi
  subst hv
  refine va_sld hexec hb hX hbl hbA hS (vp_in_nI hk (by omega)) hdg ?_
  rw [nI_clamp (show k < 2 ^ 31 by omega)]
  exact kk
end KS
set_option maxHeartbeats 4000000 in
set_option maxRecDepth 100000 in
theorem law_loop {p : Program} {l : Launch} {e : Env} {s : State} {m : MethodId} {below : List Frame} {meth : Method} {c : Code} {D : va_G} {cB cI : ClassId} {A : Nat → Prop} {b L : Nat} {xs : Nat → Int32} (hL : L ≤ 288) (C0 : lw_At p s m meth c b L xs) (hE : EV D cB cI A s) (hA : ∀ q, s.heap.size ≤ q → A q) (hA2 : ∀ q, A q → s.heap.size ≤ q) (d0 d1 d2 d3 m0 m1 m2 m3 : Nat) :
    ∀ (n k i : Nat), k + n = 49 → i = 6 * k → i ≤ L → ∀ (fk fb fo gk gb go : Nat → Int32), Rel 32 fk gk → Rel 16 fb gb → Rel 16 fo go → ∀ (H : Heap) (locs : List Loc) (ls : Array Slot), va_P D vwCl [(d0, .inr (0, [.ref d1, .ref d2, .ref d3])), (d1, .inl (cB, 32, .inl fk)), (d2, .inl (cB, 16, .inl fb)), (d3, .inl (cB, 16, .inl fo)), (m0, .inr (1, [.ref m1, .ref m2, .ref m3])), (m1, .inl (cI, 32, .inl gk)), (m2, .inl (cI, 16, .inl gb)), (m3, .inl (cI, 16, .inl go))] H → va_D A [(d0, .inr (0, [.ref d1, .ref d2, .ref d3])), (d1, .inl (cB, 32, .inl fk)), (d2, .inl (cB, 16, .inl fb)), (d3, .inl (cB, 16, .inl fo)), (m0, .inr (1, [.ref m1, .ref m2, .ref m3])), (m1, .inl (cI, 32, .inl gk)), (m2, .inl (cI, 16, .inl gb)), (m3, .inl (cI, 16, .inl go))] → va_S A s.heap H locs → lv_has ls 4 [(3, .int (nI i)), (2, .ref m0), (1, .ref d0), (0, .ref b)] → W p l e room_1 s m #[Value.ref b] below meth c H locs (8 + 9 * k) (134 + 68 * k) (lw_Z below #[Value.ref b] s) (F0 m 18 ls []) := by
  obtain ⟨hx, hb, hr, hml, hown, hts0, hX, hbl, hlocks, hgv⟩ := C0
  have hts : ∀ w ∈ lw_all, w.before #[Value.ref b] s = true := fun w h => hts0 w (lw_all_tbl h)
  have hbA : ¬ A b := fun h => absurd (hA2 b h) (Nat.not_le.mpr hbl)
  have hK := hE.1
  intro n
  induction n with
  | zero =>
    intro k i hk hi hiL
    exact absurd hk (by omega)
  | succ n ih =>
    intro k i hk hi hiL fk fb fo gk gb go h1 h2 h3 H locs ls hP hD hS hl
    refine lv_iload_n hx hb dL_law_18 rfl (lv_at hl 0 rfl) ?_
    refine lv_aload_n hx hb dL_law_19 rfl (lv_at hl 3 rfl) ?_
    refine va_slen hx hb hX hbl hbA hS dL_law_20 ?_
    refine lv_bipush (v := 6) hx hb dL_law_21 (by decide) ?_
    refine lv_isub hx hb dL_law_23 ?_
    refine lv_icmp_gt (tgt := 266) hx hb dL_law_24 (by decide) (fun c1 => ?_) (fun c1 => ?_)
    · refine lv_iconst (v := 1) hx hb dL_law_266 (by decide) ?_
      refine va_forget (fun q hq => hA2 _ (hS.2.2 q hq)) ?_
      refine W.widen (k := 600096) (n := 7301386) (by omega) (by omega) ?_
      exact lw_ret hx hb hr hlocks dL_law_267
    · have hlt : i + 6 ≤ L := law_cmp (by omega) (by omega) c1
      refine lv_aload_n hx hb dL_law_27 rfl (lv_at hl 3 rfl) ?_
      refine lv_iload_n hx hb dL_law_28 rfl (lv_at hl 0 rfl) ?_
      refine k_sld (v := xs i) hx hb hX hbl hbA hS i rfl (by omega) (by omega) rfl dL_law_29 ?_
      refine lv_bipush (v := 7) hx hb dL_law_30 (by decide) ?_
      refine lv_iand hx hb dL_law_32 ?_
      obtain ⟨j, hj, ej⟩ := pk_andE (xs i) (m := 7) 3 (by decide)
      refine lv_asi (y := nI j) ej ?_
      rcases (show j = 0 ∨ j = 1 ∨ j = 2 ∨ j = 3 ∨ j = 4 ∨ j = 5 ∨ j = 6 ∨ j = 7 by omega) with rfl | rfl | rfl | rfl | rfl | rfl | rfl | rfl
      · refine lv_tableIn (tgt := 72) (off := 39) hx hb dL_law_33 (by decide) (by decide) (by decide) (by decide) ?_
        obtain ⟨o, ho, eo⟩ := ha_o (xs (i + 1))
        refine lv_aload_n hx hb dL_law_72 rfl (lv_at hl 2 rfl) ?_
        refine lv_aload_n hx hb dL_law_73 rfl (lv_at hl 3 rfl) ?_
        refine lv_iload_n hx hb dL_law_74 rfl (lv_at hl 0 rfl) ?_
        refine lv_iconst (v := 1) hx hb dL_law_75 (by decide) ?_
        refine lv_iadd hx hb dL_law_76 ?_
        refine lv_asi (y := nI (i + 1)) (nI_add _ 1) ?_
        refine k_sld (v := xs (i + 1)) hx hb hX hbl hbA hS (i + 1) rfl (by omega) (by omega) rfl dL_law_77 ?_
        refine lv_aload_n hx hb dL_law_78 rfl (lv_at hl 3 rfl) ?_
        refine lv_iload_n hx hb dL_law_79 rfl (lv_at hl 0 rfl) ?_
        refine lv_iconst (v := 2) hx hb dL_law_80 (by decide) ?_
        refine lv_iadd hx hb dL_law_81 ?_
        refine lv_asi (y := nI (i + 2)) (nI_add _ 2) ?_
        refine k_sld (v := xs (i + 2)) hx hb hX hbl hbA hS (i + 2) rfl (by omega) (by omega) rfl dL_law_82 ?_
        refine lv_aload_n hx hb dL_law_83 rfl (lv_at hl 3 rfl) ?_
        refine lv_iload_n hx hb dL_law_84 rfl (lv_at hl 0 rfl) ?_
        refine lv_iconst (v := 3) hx hb dL_law_85 (by decide) ?_
        refine lv_iadd hx hb dL_law_86 ?_
        refine lv_asi (y := nI (i + 3)) (nI_add _ 3) ?_
        refine k_sld (v := xs (i + 3)) hx hb hX hbl hbA hS (i + 3) rfl (by omega) (by omega) rfl dL_law_87 ?_
        refine lv_aload_n hx hb dL_law_88 rfl (lv_at hl 3 rfl) ?_
        refine lv_iload_n hx hb dL_law_89 rfl (lv_at hl 0 rfl) ?_
        refine lv_iconst (v := 4) hx hb dL_law_90 (by decide) ?_
        refine lv_iadd hx hb dL_law_91 ?_
        refine lv_asi (y := nI (i + 4)) (nI_add _ 4) ?_
        refine k_sld (v := xs (i + 4)) hx hb hX hbl hbA hS (i + 4) rfl (by omega) (by omega) rfl dL_law_92 ?_
        refine lv_aload_n hx hb dL_law_93 rfl (lv_at hl 3 rfl) ?_
        refine lv_iload_n hx hb dL_law_94 rfl (lv_at hl 0 rfl) ?_
        refine lv_iconst (v := 5) hx hb dL_law_95 (by decide) ?_
        refine lv_iadd hx hb dL_law_96 ?_
        refine lv_asi (y := nI (i + 5)) (nI_add _ 5) ?_
        refine k_sld (v := xs (i + 5)) hx hb hX hbl hbA hS (i + 5) rfl (by omega) (by omega) rfl dL_law_97 ?_
        refine k_v (D := D) (wc := [(d0, .inr (0, [.ref d1, .ref d2, .ref d3])), (d1, .inl (cB, 32, .inl fk))]) (wr := [(d2, .inl (cB, 16, .inl fb)), (d3, .inl (cB, 16, .inl fo)), (m0, .inr (1, [.ref m1, .ref m2, .ref m3])), (m1, .inl (cI, 32, .inl gk)), (m2, .inl (cI, 16, .inl gb)), (m3, .inl (cI, 16, .inl go))]) (va_runV (As := [.int (xs (i + 1)), .int (xs (i + 2)), .int (xs (i + 3)), .int (xs (i + 4)), .int (xs (i + 5))]) (rest := []) ⟨hx, hb, hml, hown, hts⟩ (metX0_key l D cB cI H.size d0 d1 d2 d3 fk (xs (i + 1)) (xs (i + 2)) (xs (i + 3)) (xs (i + 4)) (xs (i + 5)) o ho eo) (cwV 5 hts (lw_V q42 q43 q44 q7 q45) rfl rfl rfl (by decide +kernel) ⟨Nat.le_of_ble_eq_true rfl, Nat.le_of_ble_eq_true rfl⟩) ⟨PreE.blind, va_recv hK hP (ci := 0) (q0 := 0) rfl rfl, preE hE hP hD hS hA [0, 1] rfl rfl⟩ rfl rfl hl.1 rfl (lv_room (Nat.le_of_ble_eq_true rfl)) dL_law_98 ⟨by show 8 + 9 * k + 0 ≤ 600096; omega, by show 134 + 68 * k + 0 ≤ 7301386; omega⟩) hP hD hS hA [0, 1] [2, 3, 4, 5, 6, 7] rfl rfl rfl (by decide) [6, 7, 0, 1, 2, 3, 4, 5] rfl (fun _ : Unit => [(d0, .inr (0, [.ref d1, .ref d2, .ref d3])), (d1, .inl (cB, 32, .inl (wB4 fk o (xs (i + 2)) (xs (i + 3)) (xs (i + 4)) (xs (i + 5))))), (d2, .inl (cB, 16, .inl fb)), (d3, .inl (cB, 16, .inl fo)), (m0, .inr (1, [.ref m1, .ref m2, .ref m3])), (m1, .inl (cI, 32, .inl gk)), (m2, .inl (cI, 16, .inl gb)), (m3, .inl (cI, 16, .inl go))]) (fun _ => rfl) (fun _ H locs hP hD hS => ?_)
        refine lv_aload_n hx hb dL_law_101 rfl (lv_at hl 1 rfl) ?_
        refine lv_aload_n hx hb dL_law_102 rfl (lv_at hl 3 rfl) ?_
        refine lv_iload_n hx hb dL_law_103 rfl (lv_at hl 0 rfl) ?_
        refine lv_iconst (v := 1) hx hb dL_law_104 (by decide) ?_
        refine lv_iadd hx hb dL_law_105 ?_
        refine lv_asi (y := nI (i + 1)) (nI_add _ 1) ?_
        refine k_sld (v := xs (i + 1)) hx hb hX hbl hbA hS (i + 1) rfl (by omega) (by omega) rfl dL_law_106 ?_
        refine lv_aload_n hx hb dL_law_107 rfl (lv_at hl 3 rfl) ?_
        refine lv_iload_n hx hb dL_law_108 rfl (lv_at hl 0 rfl) ?_
        refine lv_iconst (v := 2) hx hb dL_law_109 (by decide) ?_
        refine lv_iadd hx hb dL_law_110 ?_
        refine lv_asi (y := nI (i + 2)) (nI_add _ 2) ?_
        refine k_sld (v := xs (i + 2)) hx hb hX hbl hbA hS (i + 2) rfl (by omega) (by omega) rfl dL_law_111 ?_
        refine lv_aload_n hx hb dL_law_112 rfl (lv_at hl 3 rfl) ?_
        refine lv_iload_n hx hb dL_law_113 rfl (lv_at hl 0 rfl) ?_
        refine lv_iconst (v := 3) hx hb dL_law_114 (by decide) ?_
        refine lv_iadd hx hb dL_law_115 ?_
        refine lv_asi (y := nI (i + 3)) (nI_add _ 3) ?_
        refine k_sld (v := xs (i + 3)) hx hb hX hbl hbA hS (i + 3) rfl (by omega) (by omega) rfl dL_law_116 ?_
        refine lv_aload_n hx hb dL_law_117 rfl (lv_at hl 3 rfl) ?_
        refine lv_iload_n hx hb dL_law_118 rfl (lv_at hl 0 rfl) ?_
        refine lv_iconst (v := 4) hx hb dL_law_119 (by decide) ?_
        refine lv_iadd hx hb dL_law_120 ?_
        refine lv_asi (y := nI (i + 4)) (nI_add _ 4) ?_
        refine k_sld (v := xs (i + 4)) hx hb hX hbl hbA hS (i + 4) rfl (by omega) (by omega) rfl dL_law_121 ?_
        refine lv_aload_n hx hb dL_law_122 rfl (lv_at hl 3 rfl) ?_
        refine lv_iload_n hx hb dL_law_123 rfl (lv_at hl 0 rfl) ?_
        refine lv_iconst (v := 5) hx hb dL_law_124 (by decide) ?_
        refine lv_iadd hx hb dL_law_125 ?_
        refine lv_asi (y := nI (i + 5)) (nI_add _ 5) ?_
        refine k_sld (v := xs (i + 5)) hx hb hX hbl hbA hS (i + 5) rfl (by omega) (by omega) rfl dL_law_126 ?_
        refine k_v (D := D) (wc := [(m0, .inr (1, [.ref m1, .ref m2, .ref m3])), (m1, .inl (cI, 32, .inl gk))]) (wr := [(d0, .inr (0, [.ref d1, .ref d2, .ref d3])), (d1, .inl (cB, 32, .inl (wB4 fk o (xs (i + 2)) (xs (i + 3)) (xs (i + 4)) (xs (i + 5))))), (d2, .inl (cB, 16, .inl fb)), (d3, .inl (cB, 16, .inl fo)), (m2, .inl (cI, 16, .inl gb)), (m3, .inl (cI, 16, .inl go))]) (va_runV (As := [.int (xs (i + 1)), .int (xs (i + 2)), .int (xs (i + 3)), .int (xs (i + 4)), .int (xs (i + 5))]) (rest := []) ⟨hx, hb, hml, hown, hts⟩ (metX1_key l D cB cI H.size m0 m1 m2 m3 gk (xs (i + 1)) (xs (i + 2)) (xs (i + 3)) (xs (i + 4)) (xs (i + 5)) o ho eo) (cwV 5 hts (lw_V q299 q300 q301 q8 q302) rfl rfl rfl (by decide +kernel) ⟨Nat.le_of_ble_eq_true rfl, Nat.le_of_ble_eq_true rfl⟩) ⟨PreE.blind, va_recv hK hP (ci := 1) (q0 := 4) rfl rfl, preE hE hP hD hS hA [4, 5] rfl rfl⟩ rfl rfl hl.1 rfl (lv_room (Nat.le_of_ble_eq_true rfl)) dL_law_127 ⟨by show 8 + 9 * k + 0 + 0 ≤ 600096; omega, by show 134 + 68 * k + 0 + 0 ≤ 7301386; omega⟩) hP hD hS hA [4, 5] [0, 1, 2, 3, 6, 7] rfl rfl rfl (by decide) [0, 1, 2, 3, 6, 7, 4, 5] rfl (fun _ : Unit => [(d0, .inr (0, [.ref d1, .ref d2, .ref d3])), (d1, .inl (cB, 32, .inl (wB4 fk o (xs (i + 2)) (xs (i + 3)) (xs (i + 4)) (xs (i + 5))))), (d2, .inl (cB, 16, .inl fb)), (d3, .inl (cB, 16, .inl fo)), (m0, .inr (1, [.ref m1, .ref m2, .ref m3])), (m1, .inl (cI, 32, .inl (wI4 gk o (xs (i + 2)) (xs (i + 3)) (xs (i + 4)) (xs (i + 5))))), (m2, .inl (cI, 16, .inl gb)), (m3, .inl (cI, 16, .inl go))]) (fun _ => rfl) (fun _ H locs hP hD hS => ?_)
        refine lv_goto (tgt := 260) hx hb dL_law_130 (by decide) ?_
        refine lv_iinc (v := nI (i + 6)) (lv' := [(3, .int (nI (i + 6))), (2, .ref m0), (1, .ref d0), (0, .ref b)]) hx hb dL_law_260 hl (k := 0) rfl (nI_add _ 6) (by decide) rfl (fun ls hl => ?_)
        refine lv_goto (tgt := 18) hx hb dL_law_263 (by decide) ?_
        refine W.widen (k := 8 + 9 * (k + 1)) (n := 134 + 68 * (k + 1)) (by omega) (by omega) ?_
        exact ih (k + 1) (i + 6) (by omega) (by omega) hlt (wB4 fk o (xs (i + 2)) (xs (i + 3)) (xs (i + 4)) (xs (i + 5))) fb fo (wI4 gk o (xs (i + 2)) (xs (i + 3)) (xs (i + 4)) (xs (i + 5))) gb go (h1.w4 o _ _ _ _) h2 h3 H locs ls hP hD hS (lv_sub hl [0, 1, 2, 3] rfl)
      · refine lv_tableIn (tgt := 133) (off := 100) hx hb dL_law_33 (by decide) (by decide) (by decide) (by decide) ?_
        refine lv_aload_n hx hb dL_law_133 rfl (lv_at hl 2 rfl) ?_
        refine lv_aload_n hx hb dL_law_134 rfl (lv_at hl 3 rfl) ?_
        refine lv_iload_n hx hb dL_law_135 rfl (lv_at hl 0 rfl) ?_
        refine lv_iconst (v := 1) hx hb dL_law_136 (by decide) ?_
        refine lv_iadd hx hb dL_law_137 ?_
        refine lv_asi (y := nI (i + 1)) (nI_add _ 1) ?_
        refine k_sld (v := xs (i + 1)) hx hb hX hbl hbA hS (i + 1) rfl (by omega) (by omega) rfl dL_law_138 ?_
        refine lv_aload_n hx hb dL_law_139 rfl (lv_at hl 3 rfl) ?_
        refine lv_iload_n hx hb dL_law_140 rfl (lv_at hl 0 rfl) ?_
        refine lv_iconst (v := 2) hx hb dL_law_141 (by decide) ?_
        refine lv_iadd hx hb dL_law_142 ?_
        refine lv_asi (y := nI (i + 2)) (nI_add _ 2) ?_
        refine k_sld (v := xs (i + 2)) hx hb hX hbl hbA hS (i + 2) rfl (by omega) (by omega) rfl dL_law_143 ?_
        refine lv_aload_n hx hb dL_law_144 rfl (lv_at hl 3 rfl) ?_
        refine lv_iload_n hx hb dL_law_145 rfl (lv_at hl 0 rfl) ?_
        refine lv_iconst (v := 3) hx hb dL_law_146 (by decide) ?_
        refine lv_iadd hx hb dL_law_147 ?_
        refine lv_asi (y := nI (i + 3)) (nI_add _ 3) ?_
        refine k_sld (v := xs (i + 3)) hx hb hX hbl hbA hS (i + 3) rfl (by omega) (by omega) rfl dL_law_148 ?_
        refine lv_aload_n hx hb dL_law_149 rfl (lv_at hl 3 rfl) ?_
        refine lv_iload_n hx hb dL_law_150 rfl (lv_at hl 0 rfl) ?_
        refine lv_iconst (v := 4) hx hb dL_law_151 (by decide) ?_
        refine lv_iadd hx hb dL_law_152 ?_
        refine lv_asi (y := nI (i + 4)) (nI_add _ 4) ?_
        refine k_sld (v := xs (i + 4)) hx hb hX hbl hbA hS (i + 4) rfl (by omega) (by omega) rfl dL_law_153 ?_
        refine k_v (D := D) (wc := [(d0, .inr (0, [.ref d1, .ref d2, .ref d3])), (d2, .inl (cB, 16, .inl fb))]) (wr := [(d1, .inl (cB, 32, .inl fk)), (d3, .inl (cB, 16, .inl fo)), (m0, .inr (1, [.ref m1, .ref m2, .ref m3])), (m1, .inl (cI, 32, .inl gk)), (m2, .inl (cI, 16, .inl gb)), (m3, .inl (cI, 16, .inl go))]) (va_runV (As := [.int (xs (i + 1)), .int (xs (i + 2)), .int (xs (i + 3)), .int (xs (i + 4))]) (rest := []) ⟨hx, hb, hml, hown, hts⟩ (metX0_block l D cB cI H.size d0 d1 d2 d3 fb (xs (i + 1)) (xs (i + 2)) (xs (i + 3)) (xs (i + 4))) (cwV 4 hts (lw_V q49 q50 q51 q7 q52) rfl rfl rfl (by decide +kernel) ⟨Nat.le_of_ble_eq_true rfl, Nat.le_of_ble_eq_true rfl⟩) ⟨PreE.blind, va_recv hK hP (ci := 0) (q0 := 0) rfl rfl, preE hE hP hD hS hA [0, 2] rfl rfl⟩ rfl rfl hl.1 rfl (lv_room (Nat.le_of_ble_eq_true rfl)) dL_law_154 ⟨by show 8 + 9 * k + 0 ≤ 600096; omega, by show 134 + 68 * k + 0 ≤ 7301386; omega⟩) hP hD hS hA [0, 2] [1, 3, 4, 5, 6, 7] rfl rfl rfl (by decide) [6, 0, 7, 1, 2, 3, 4, 5] rfl (fun _ : Unit => [(d0, .inr (0, [.ref d1, .ref d2, .ref d3])), (d1, .inl (cB, 32, .inl fk)), (d2, .inl (cB, 16, .inl (wB4 fb 0 (xs (i + 1)) (xs (i + 2)) (xs (i + 3)) (xs (i + 4))))), (d3, .inl (cB, 16, .inl fo)), (m0, .inr (1, [.ref m1, .ref m2, .ref m3])), (m1, .inl (cI, 32, .inl gk)), (m2, .inl (cI, 16, .inl gb)), (m3, .inl (cI, 16, .inl go))]) (fun _ => rfl) (fun _ H locs hP hD hS => ?_)
        refine lv_aload_n hx hb dL_law_157 rfl (lv_at hl 1 rfl) ?_
        refine lv_aload_n hx hb dL_law_158 rfl (lv_at hl 3 rfl) ?_
        refine lv_iload_n hx hb dL_law_159 rfl (lv_at hl 0 rfl) ?_
        refine lv_iconst (v := 1) hx hb dL_law_160 (by decide) ?_
        refine lv_iadd hx hb dL_law_161 ?_
        refine lv_asi (y := nI (i + 1)) (nI_add _ 1) ?_
        refine k_sld (v := xs (i + 1)) hx hb hX hbl hbA hS (i + 1) rfl (by omega) (by omega) rfl dL_law_162 ?_
        refine lv_aload_n hx hb dL_law_163 rfl (lv_at hl 3 rfl) ?_
        refine lv_iload_n hx hb dL_law_164 rfl (lv_at hl 0 rfl) ?_
        refine lv_iconst (v := 2) hx hb dL_law_165 (by decide) ?_
        refine lv_iadd hx hb dL_law_166 ?_
        refine lv_asi (y := nI (i + 2)) (nI_add _ 2) ?_
        refine k_sld (v := xs (i + 2)) hx hb hX hbl hbA hS (i + 2) rfl (by omega) (by omega) rfl dL_law_167 ?_
        refine lv_aload_n hx hb dL_law_168 rfl (lv_at hl 3 rfl) ?_
        refine lv_iload_n hx hb dL_law_169 rfl (lv_at hl 0 rfl) ?_
        refine lv_iconst (v := 3) hx hb dL_law_170 (by decide) ?_
        refine lv_iadd hx hb dL_law_171 ?_
        refine lv_asi (y := nI (i + 3)) (nI_add _ 3) ?_
        refine k_sld (v := xs (i + 3)) hx hb hX hbl hbA hS (i + 3) rfl (by omega) (by omega) rfl dL_law_172 ?_
        refine lv_aload_n hx hb dL_law_173 rfl (lv_at hl 3 rfl) ?_
        refine lv_iload_n hx hb dL_law_174 rfl (lv_at hl 0 rfl) ?_
        refine lv_iconst (v := 4) hx hb dL_law_175 (by decide) ?_
        refine lv_iadd hx hb dL_law_176 ?_
        refine lv_asi (y := nI (i + 4)) (nI_add _ 4) ?_
        refine k_sld (v := xs (i + 4)) hx hb hX hbl hbA hS (i + 4) rfl (by omega) (by omega) rfl dL_law_177 ?_
        refine k_v (D := D) (wc := [(m0, .inr (1, [.ref m1, .ref m2, .ref m3])), (m2, .inl (cI, 16, .inl gb))]) (wr := [(d0, .inr (0, [.ref d1, .ref d2, .ref d3])), (d1, .inl (cB, 32, .inl fk)), (d2, .inl (cB, 16, .inl (wB4 fb 0 (xs (i + 1)) (xs (i + 2)) (xs (i + 3)) (xs (i + 4))))), (d3, .inl (cB, 16, .inl fo)), (m1, .inl (cI, 32, .inl gk)), (m3, .inl (cI, 16, .inl go))]) (va_runV (As := [.int (xs (i + 1)), .int (xs (i + 2)), .int (xs (i + 3)), .int (xs (i + 4))]) (rest := []) ⟨hx, hb, hml, hown, hts⟩ (metX1_block l D cB cI H.size m0 m1 m2 m3 gb (xs (i + 1)) (xs (i + 2)) (xs (i + 3)) (xs (i + 4))) (cwV 4 hts (lw_V q306 q307 q308 q8 q309) rfl rfl rfl (by decide +kernel) ⟨Nat.le_of_ble_eq_true rfl, Nat.le_of_ble_eq_true rfl⟩) ⟨PreE.blind, va_recv hK hP (ci := 1) (q0 := 4) rfl rfl, preE hE hP hD hS hA [4, 6] rfl rfl⟩ rfl rfl hl.1 rfl (lv_room (Nat.le_of_ble_eq_true rfl)) dL_law_178 ⟨by show 8 + 9 * k + 0 + 0 ≤ 600096; omega, by show 134 + 68 * k + 0 + 0 ≤ 7301386; omega⟩) hP hD hS hA [4, 6] [0, 1, 2, 3, 5, 7] rfl rfl rfl (by decide) [0, 1, 2, 3, 6, 4, 7, 5] rfl (fun _ : Unit => [(d0, .inr (0, [.ref d1, .ref d2, .ref d3])), (d1, .inl (cB, 32, .inl fk)), (d2, .inl (cB, 16, .inl (wB4 fb 0 (xs (i + 1)) (xs (i + 2)) (xs (i + 3)) (xs (i + 4))))), (d3, .inl (cB, 16, .inl fo)), (m0, .inr (1, [.ref m1, .ref m2, .ref m3])), (m1, .inl (cI, 32, .inl gk)), (m2, .inl (cI, 16, .inl (wI4 gb 0 (xs (i + 1)) (xs (i + 2)) (xs (i + 3)) (xs (i + 4))))), (m3, .inl (cI, 16, .inl go))]) (fun _ => rfl) (fun _ H locs hP hD hS => ?_)
        refine lv_goto (tgt := 260) hx hb dL_law_181 (by decide) ?_
        refine lv_iinc (v := nI (i + 6)) (lv' := [(3, .int (nI (i + 6))), (2, .ref m0), (1, .ref d0), (0, .ref b)]) hx hb dL_law_260 hl (k := 0) rfl (nI_add _ 6) (by decide) rfl (fun ls hl => ?_)
        refine lv_goto (tgt := 18) hx hb dL_law_263 (by decide) ?_
        refine W.widen (k := 8 + 9 * (k + 1)) (n := 134 + 68 * (k + 1)) (by omega) (by omega) ?_
        exact ih (k + 1) (i + 6) (by omega) (by omega) hlt fk (wB4 fb 0 (xs (i + 1)) (xs (i + 2)) (xs (i + 3)) (xs (i + 4))) fo gk (wI4 gb 0 (xs (i + 1)) (xs (i + 2)) (xs (i + 3)) (xs (i + 4))) go h1 (h2.w4 0 _ _ _ _) h3 H locs ls hP hD hS (lv_sub hl [0, 1, 2, 3] rfl)
      · refine lv_tableIn (tgt := 184) (off := 151) hx hb dL_law_33 (by decide) (by decide) (by decide) (by decide) ?_
        refine lv_aload_n hx hb dL_law_184 rfl (lv_at hl 2 rfl) ?_
        refine lv_aload_n hx hb dL_law_185 rfl (lv_at hl 3 rfl) ?_
        refine lv_iload_n hx hb dL_law_186 rfl (lv_at hl 0 rfl) ?_
        refine lv_iconst (v := 1) hx hb dL_law_187 (by decide) ?_
        refine lv_iadd hx hb dL_law_188 ?_
        refine lv_asi (y := nI (i + 1)) (nI_add _ 1) ?_
        refine k_sld (v := xs (i + 1)) hx hb hX hbl hbA hS (i + 1) rfl (by omega) (by omega) rfl dL_law_189 ?_
        refine k_v (D := D) (wc := [(d0, .inr (0, [.ref d1, .ref d2, .ref d3])), (d1, .inl (cB, 32, .inl fk)), (d2, .inl (cB, 16, .inl fb)), (d3, .inl (cB, 16, .inl fo))]) (wr := [(m0, .inr (1, [.ref m1, .ref m2, .ref m3])), (m1, .inl (cI, 32, .inl gk)), (m2, .inl (cI, 16, .inl gb)), (m3, .inl (cI, 16, .inl go))]) (va_runV (As := [.int (xs (i + 1))]) (rest := []) ⟨hx, hb, hml, hown, hts⟩ (metX0_lock l D cB cI H.size d0 d1 d2 d3 fk fb fo (xs (i + 1))) (cwV 1 hts (lw_V q53 q54 q55 q7 q56) rfl rfl rfl (by decide +kernel) ⟨Nat.le_of_ble_eq_true rfl, Nat.le_of_ble_eq_true rfl⟩) ⟨PreE.blind, va_recv hK hP (ci := 0) (q0 := 0) rfl rfl, preE hE hP hD hS hA [0, 1, 2, 3] rfl rfl⟩ rfl rfl hl.1 rfl (lv_room (Nat.le_of_ble_eq_true rfl)) dL_law_190 ⟨by show 8 + 9 * k + 5 ≤ 600096; omega, by show 134 + 68 * k + 40 ≤ 7301386; omega⟩) hP hD hS hA [0, 1, 2, 3] [4, 5, 6, 7] rfl rfl rfl (by decide) [4, 5, 6, 7, 0, 1, 2, 3] rfl (fun _ : Unit => [(d0, .inr (0, [.ref d1, .ref d2, .ref d3])), (d1, .inl (cB, 32, .inl fk)), (d2, .inl (cB, 16, .inl fb)), (d3, .inl (cB, 16, .inl (itQ fo (enF (beQ (kcB fk)) (beQ fb))))), (m0, .inr (1, [.ref m1, .ref m2, .ref m3])), (m1, .inl (cI, 32, .inl gk)), (m2, .inl (cI, 16, .inl gb)), (m3, .inl (cI, 16, .inl go))]) (fun _ => rfl) (fun _ H locs hP hD hS => ?_)
        refine lv_aload_n hx hb dL_law_193 rfl (lv_at hl 1 rfl) ?_
        refine lv_aload_n hx hb dL_law_194 rfl (lv_at hl 3 rfl) ?_
        refine lv_iload_n hx hb dL_law_195 rfl (lv_at hl 0 rfl) ?_
        refine lv_iconst (v := 1) hx hb dL_law_196 (by decide) ?_
        refine lv_iadd hx hb dL_law_197 ?_
        refine lv_asi (y := nI (i + 1)) (nI_add _ 1) ?_
        refine k_sld (v := xs (i + 1)) hx hb hX hbl hbA hS (i + 1) rfl (by omega) (by omega) rfl dL_law_198 ?_
        refine k_v (D := D) (wc := [(m0, .inr (1, [.ref m1, .ref m2, .ref m3])), (m1, .inl (cI, 32, .inl gk)), (m2, .inl (cI, 16, .inl gb)), (m3, .inl (cI, 16, .inl go))]) (wr := [(d0, .inr (0, [.ref d1, .ref d2, .ref d3])), (d1, .inl (cB, 32, .inl fk)), (d2, .inl (cB, 16, .inl fb)), (d3, .inl (cB, 16, .inl (itQ fo (enF (beQ (kcB fk)) (beQ fb)))))]) (va_runV (As := [.int (xs (i + 1))]) (rest := []) ⟨hx, hb, hml, hown, hts⟩ (metX1_lock l D cB cI H.size m0 m1 m2 m3 gk gb go (xs (i + 1))) (cwV 1 hts (lw_V q310 q311 q312 q8 q313) rfl rfl rfl (by decide +kernel) ⟨Nat.le_of_ble_eq_true rfl, Nat.le_of_ble_eq_true rfl⟩) ⟨PreE.blind, va_recv hK hP (ci := 1) (q0 := 4) rfl rfl, preE hE hP hD hS hA [4, 5, 6, 7] rfl rfl⟩ rfl rfl hl.1 rfl (lv_room (Nat.le_of_ble_eq_true rfl)) dL_law_199 ⟨by show 8 + 9 * k + 5 + 3 ≤ 600096; omega, by show 134 + 68 * k + 40 + 24 ≤ 7301386; omega⟩) hP hD hS hA [4, 5, 6, 7] [0, 1, 2, 3] rfl rfl rfl (by decide) [0, 1, 2, 3, 4, 5, 6, 7] rfl (fun _ : Unit => [(d0, .inr (0, [.ref d1, .ref d2, .ref d3])), (d1, .inl (cB, 32, .inl fk)), (d2, .inl (cB, 16, .inl fb)), (d3, .inl (cB, 16, .inl (itQ fo (enF (beQ (kcB fk)) (beQ fb))))), (m0, .inr (1, [.ref m1, .ref m2, .ref m3])), (m1, .inl (cI, 32, .inl gk)), (m2, .inl (cI, 16, .inl gb)), (m3, .inl (cI, 16, .inl (laQ go (lkF (woQ (kcI gk)) (woQ gb)))))]) (fun _ => rfl) (fun _ H locs hP hD hS => ?_)
        refine lv_goto (tgt := 260) hx hb dL_law_202 (by decide) ?_
        refine lv_iinc (v := nI (i + 6)) (lv' := [(3, .int (nI (i + 6))), (2, .ref m0), (1, .ref d0), (0, .ref b)]) hx hb dL_law_260 hl (k := 0) rfl (nI_add _ 6) (by decide) rfl (fun ls hl => ?_)
        refine lv_goto (tgt := 18) hx hb dL_law_263 (by decide) ?_
        refine W.widen (k := 8 + 9 * (k + 1)) (n := 134 + 68 * (k + 1)) (by omega) (by omega) ?_
        exact ih (k + 1) (i + 6) (by omega) (by omega) hlt fk fb (itQ fo (enF (beQ (kcB fk)) (beQ fb))) gk gb (laQ go (lkF (woQ (kcI gk)) (woQ gb))) h1 h2 (Rel.lock h1 h2 h3) H locs ls hP hD hS (lv_sub hl [0, 1, 2, 3] rfl)
      · refine lv_tableIn (tgt := 205) (off := 172) hx hb dL_law_33 (by decide) (by decide) (by decide) (by decide) ?_
        refine lv_aload_n hx hb dL_law_205 rfl (lv_at hl 2 rfl) ?_
        refine lv_aload_n hx hb dL_law_206 rfl (lv_at hl 3 rfl) ?_
        refine lv_iload_n hx hb dL_law_207 rfl (lv_at hl 0 rfl) ?_
        refine lv_iconst (v := 1) hx hb dL_law_208 (by decide) ?_
        refine lv_iadd hx hb dL_law_209 ?_
        refine lv_asi (y := nI (i + 1)) (nI_add _ 1) ?_
        refine k_sld (v := xs (i + 1)) hx hb hX hbl hbA hS (i + 1) rfl (by omega) (by omega) rfl dL_law_210 ?_
        refine k_v (D := D) (wc := [(d0, .inr (0, [.ref d1, .ref d2, .ref d3])), (d1, .inl (cB, 32, .inl fk)), (d2, .inl (cB, 16, .inl fb)), (d3, .inl (cB, 16, .inl fo))]) (wr := [(m0, .inr (1, [.ref m1, .ref m2, .ref m3])), (m1, .inl (cI, 32, .inl gk)), (m2, .inl (cI, 16, .inl gb)), (m3, .inl (cI, 16, .inl go))]) (va_runV (As := [.int (xs (i + 1))]) (rest := []) ⟨hx, hb, hml, hown, hts⟩ (metX0_open l D cB cI H.size d0 d1 d2 d3 fk fb fo (xs (i + 1))) (cwV 1 hts (lw_V q271 q272 q273 q7 q274) rfl rfl rfl (by decide +kernel) ⟨Nat.le_of_ble_eq_true rfl, Nat.le_of_ble_eq_true rfl⟩) ⟨PreE.blind, va_recv hK hP (ci := 0) (q0 := 0) rfl rfl, preE hE hP hD hS hA [0, 1, 2, 3] rfl rfl⟩ rfl rfl hl.1 rfl (lv_room (Nat.le_of_ble_eq_true rfl)) dL_law_211 ⟨by show 8 + 9 * k + 5 ≤ 600096; omega, by show 134 + 68 * k + 40 ≤ 7301386; omega⟩) hP hD hS hA [0, 1, 2, 3] [4, 5, 6, 7] rfl rfl rfl (by decide) [4, 5, 6, 7, 0, 1, 2, 3] rfl (fun _ : Unit => [(d0, .inr (0, [.ref d1, .ref d2, .ref d3])), (d1, .inl (cB, 32, .inl fk)), (d2, .inl (cB, 16, .inl fb)), (d3, .inl (cB, 16, .inl (itQ fo (deF (thK (beQ (kcB fk))) (beQ fb))))), (m0, .inr (1, [.ref m1, .ref m2, .ref m3])), (m1, .inl (cI, 32, .inl gk)), (m2, .inl (cI, 16, .inl gb)), (m3, .inl (cI, 16, .inl go))]) (fun _ => rfl) (fun _ H locs hP hD hS => ?_)
        refine lv_aload_n hx hb dL_law_214 rfl (lv_at hl 1 rfl) ?_
        refine lv_aload_n hx hb dL_law_215 rfl (lv_at hl 3 rfl) ?_
        refine lv_iload_n hx hb dL_law_216 rfl (lv_at hl 0 rfl) ?_
        refine lv_iconst (v := 1) hx hb dL_law_217 (by decide) ?_
        refine lv_iadd hx hb dL_law_218 ?_
        refine lv_asi (y := nI (i + 1)) (nI_add _ 1) ?_
        refine k_sld (v := xs (i + 1)) hx hb hX hbl hbA hS (i + 1) rfl (by omega) (by omega) rfl dL_law_219 ?_
        refine k_v (D := D) (wc := [(m0, .inr (1, [.ref m1, .ref m2, .ref m3])), (m1, .inl (cI, 32, .inl gk)), (m2, .inl (cI, 16, .inl gb)), (m3, .inl (cI, 16, .inl go))]) (wr := [(d0, .inr (0, [.ref d1, .ref d2, .ref d3])), (d1, .inl (cB, 32, .inl fk)), (d2, .inl (cB, 16, .inl fb)), (d3, .inl (cB, 16, .inl (itQ fo (deF (thK (beQ (kcB fk))) (beQ fb)))))]) (va_runV (As := [.int (xs (i + 1))]) (rest := []) ⟨hx, hb, hml, hown, hts⟩ (metX1_open l D cB cI H.size m0 m1 m2 m3 gk gb go (xs (i + 1))) (cwV 1 hts (lw_V q346 q347 q348 q8 q349) rfl rfl rfl (by decide +kernel) ⟨Nat.le_of_ble_eq_true rfl, Nat.le_of_ble_eq_true rfl⟩) ⟨PreE.blind, va_recv hK hP (ci := 1) (q0 := 4) rfl rfl, preE hE hP hD hS hA [4, 5, 6, 7] rfl rfl⟩ rfl rfl hl.1 rfl (lv_room (Nat.le_of_ble_eq_true rfl)) dL_law_220 ⟨by show 8 + 9 * k + 5 + 4 ≤ 600096; omega, by show 134 + 68 * k + 40 + 28 ≤ 7301386; omega⟩) hP hD hS hA [4, 5, 6, 7] [0, 1, 2, 3] rfl rfl rfl (by decide) [0, 1, 2, 3, 4, 5, 6, 7] rfl (fun _ : Unit => [(d0, .inr (0, [.ref d1, .ref d2, .ref d3])), (d1, .inl (cB, 32, .inl fk)), (d2, .inl (cB, 16, .inl fb)), (d3, .inl (cB, 16, .inl (itQ fo (deF (thK (beQ (kcB fk))) (beQ fb))))), (m0, .inr (1, [.ref m1, .ref m2, .ref m3])), (m1, .inl (cI, 32, .inl gk)), (m2, .inl (cI, 16, .inl gb)), (m3, .inl (cI, 16, .inl (laQ go (opF (thM (0, 0, 0, 0) (woQ (kcI gk))) (woQ gb)))))]) (fun _ => rfl) (fun _ H locs hP hD hS => ?_)
        refine lv_goto (tgt := 260) hx hb dL_law_223 (by decide) ?_
        refine lv_iinc (v := nI (i + 6)) (lv' := [(3, .int (nI (i + 6))), (2, .ref m0), (1, .ref d0), (0, .ref b)]) hx hb dL_law_260 hl (k := 0) rfl (nI_add _ 6) (by decide) rfl (fun ls hl => ?_)
        refine lv_goto (tgt := 18) hx hb dL_law_263 (by decide) ?_
        refine W.widen (k := 8 + 9 * (k + 1)) (n := 134 + 68 * (k + 1)) (by omega) (by omega) ?_
        exact ih (k + 1) (i + 6) (by omega) (by omega) hlt fk fb (itQ fo (deF (thK (beQ (kcB fk))) (beQ fb))) gk gb (laQ go (opF (thM (0, 0, 0, 0) (woQ (kcI gk))) (woQ gb))) h1 h2 (Rel.open_ h1 h2 h3) H locs ls hP hD hS (lv_sub hl [0, 1, 2, 3] rfl)
      · refine lv_tableIn (tgt := 226) (off := 193) hx hb dL_law_33 (by decide) (by decide) (by decide) (by decide) ?_
        refine lv_aload_n hx hb dL_law_226 rfl (lv_at hl 2 rfl) ?_
        refine k_v (D := D) (wc := [(d0, .inr (0, [.ref d1, .ref d2, .ref d3])), (d2, .inl (cB, 16, .inl fb)), (d3, .inl (cB, 16, .inl fo))]) (wr := [(d1, .inl (cB, 32, .inl fk)), (m0, .inr (1, [.ref m1, .ref m2, .ref m3])), (m1, .inl (cI, 32, .inl gk)), (m2, .inl (cI, 16, .inl gb)), (m3, .inl (cI, 16, .inl go))]) (va_runV (As := []) (rest := []) ⟨hx, hb, hml, hown, hts⟩ (metX0_again l D cB cI H.size d0 d1 d2 d3 fb fo) (cwV 0 hts (lw_V q275 q276 q277 q7 q278) rfl rfl rfl (by decide +kernel) ⟨Nat.le_of_ble_eq_true rfl, Nat.le_of_ble_eq_true rfl⟩) ⟨PreE.blind, va_recv hK hP (ci := 0) (q0 := 0) rfl rfl, preE hE hP hD hS hA [0, 2, 3] rfl rfl⟩ rfl rfl hl.1 rfl (lv_room (Nat.le_of_ble_eq_true rfl)) dL_law_227 ⟨by show 8 + 9 * k + 0 ≤ 600096; omega, by show 134 + 68 * k + 0 ≤ 7301386; omega⟩) hP hD hS hA [0, 2, 3] [1, 4, 5, 6, 7] rfl rfl rfl (by decide) [5, 0, 6, 7, 1, 2, 3, 4] rfl (fun _ : Unit => [(d0, .inr (0, [.ref d1, .ref d2, .ref d3])), (d1, .inl (cB, 32, .inl fk)), (d2, .inl (cB, 16, .inl (cpB fo fb 16))), (d3, .inl (cB, 16, .inl fo)), (m0, .inr (1, [.ref m1, .ref m2, .ref m3])), (m1, .inl (cI, 32, .inl gk)), (m2, .inl (cI, 16, .inl gb)), (m3, .inl (cI, 16, .inl go))]) (fun _ => rfl) (fun _ H locs hP hD hS => ?_)
        refine lv_aload_n hx hb dL_law_230 rfl (lv_at hl 1 rfl) ?_
        refine k_v (D := D) (wc := [(m0, .inr (1, [.ref m1, .ref m2, .ref m3])), (m2, .inl (cI, 16, .inl gb)), (m3, .inl (cI, 16, .inl go))]) (wr := [(d0, .inr (0, [.ref d1, .ref d2, .ref d3])), (d1, .inl (cB, 32, .inl fk)), (d2, .inl (cB, 16, .inl (cpB fo fb 16))), (d3, .inl (cB, 16, .inl fo)), (m1, .inl (cI, 32, .inl gk))]) (va_runV (As := []) (rest := []) ⟨hx, hb, hml, hown, hts⟩ (metX1_again l D cB cI H.size m0 m1 m2 m3 gb go) (cwV 0 hts (lw_V q350 q351 q352 q8 q353) rfl rfl rfl (by decide +kernel) ⟨Nat.le_of_ble_eq_true rfl, Nat.le_of_ble_eq_true rfl⟩) ⟨PreE.blind, va_recv hK hP (ci := 1) (q0 := 4) rfl rfl, preE hE hP hD hS hA [4, 6, 7] rfl rfl⟩ rfl rfl hl.1 rfl (lv_room (Nat.le_of_ble_eq_true rfl)) dL_law_231 ⟨by show 8 + 9 * k + 0 + 0 ≤ 600096; omega, by show 134 + 68 * k + 0 + 0 ≤ 7301386; omega⟩) hP hD hS hA [4, 6, 7] [0, 1, 2, 3, 5] rfl rfl rfl (by decide) [0, 1, 2, 3, 5, 4, 6, 7] rfl (fun _ : Unit => [(d0, .inr (0, [.ref d1, .ref d2, .ref d3])), (d1, .inl (cB, 32, .inl fk)), (d2, .inl (cB, 16, .inl (cpB fo fb 16))), (d3, .inl (cB, 16, .inl fo)), (m0, .inr (1, [.ref m1, .ref m2, .ref m3])), (m1, .inl (cI, 32, .inl gk)), (m2, .inl (cI, 16, .inl (cpI go gb 16))), (m3, .inl (cI, 16, .inl go))]) (fun _ => rfl) (fun _ H locs hP hD hS => ?_)
        refine lv_goto (tgt := 260) hx hb dL_law_234 (by decide) ?_
        refine lv_iinc (v := nI (i + 6)) (lv' := [(3, .int (nI (i + 6))), (2, .ref m0), (1, .ref d0), (0, .ref b)]) hx hb dL_law_260 hl (k := 0) rfl (nI_add _ 6) (by decide) rfl (fun ls hl => ?_)
        refine lv_goto (tgt := 18) hx hb dL_law_263 (by decide) ?_
        refine W.widen (k := 8 + 9 * (k + 1)) (n := 134 + 68 * (k + 1)) (by omega) (by omega) ?_
        exact ih (k + 1) (i + 6) (by omega) (by omega) hlt fk (cpB fo fb 16) fo gk (cpI go gb 16) go h1 (h3.cp h2) h3 H locs ls hP hD hS (lv_sub hl [0, 1, 2, 3] rfl)
      · refine lv_tableIn (tgt := 237) (off := 204) hx hb dL_law_33 (by decide) (by decide) (by decide) (by decide) ?_
        obtain ⟨z, hz, ez⟩ := pk_andE (xs (i + 1)) (m := 15) 4 (by decide)
        have hz : z < 16 := hz
        refine lv_aload_n hx hb dL_law_237 rfl (lv_at hl 2 rfl) ?_
        refine lv_aload_n hx hb dL_law_238 rfl (lv_at hl 3 rfl) ?_
        refine lv_iload_n hx hb dL_law_239 rfl (lv_at hl 0 rfl) ?_
        refine lv_iconst (v := 1) hx hb dL_law_240 (by decide) ?_
        refine lv_iadd hx hb dL_law_241 ?_
        refine lv_asi (y := nI (i + 1)) (nI_add _ 1) ?_
        refine k_sld (v := xs (i + 1)) hx hb hX hbl hbA hS (i + 1) rfl (by omega) (by omega) rfl dL_law_242 ?_
        refine vp_callSi (va_Run.run (va_runV (As := [.int (xs (i + 1))]) (rest := []) ⟨hx, hb, hml, hown, hts⟩ (metX0_out l D cB cI H.size d0 d1 d2 d3 fo (xs (i + 1)) z hz ez) (cwV 1 hts (lw_V q279 q280 q281 q7 q282) rfl rfl rfl (by decide +kernel) ⟨Nat.le_of_ble_eq_true rfl, Nat.le_of_ble_eq_true rfl⟩) ⟨PreE.blind, va_recv hK hP (ci := 0) (q0 := 0) rfl rfl, preE hE hP hD hS hA [0, 3] rfl rfl⟩ rfl rfl hl.1 rfl (lv_room (Nat.le_of_ble_eq_true rfl)) dL_law_243 ⟨by show 8 + 9 * k + 0 ≤ 600096; omega, by show 134 + 68 * k + 0 ≤ 7301386; omega⟩)) (fun r9 (e9 : r9 = fo z &&& 255) => ?_)
        subst e9
        refine lv_aload_n hx hb dL_law_246 rfl (lv_at hl 1 rfl) ?_
        refine lv_aload_n hx hb dL_law_247 rfl (lv_at hl 3 rfl) ?_
        refine lv_iload_n hx hb dL_law_248 rfl (lv_at hl 0 rfl) ?_
        refine lv_iconst (v := 1) hx hb dL_law_249 (by decide) ?_
        refine lv_iadd hx hb dL_law_250 ?_
        refine lv_asi (y := nI (i + 1)) (nI_add _ 1) ?_
        refine k_sld (v := xs (i + 1)) hx hb hX hbl hbA hS (i + 1) rfl (by omega) (by omega) rfl dL_law_251 ?_
        refine vp_callSi (va_Run.run (va_runV (As := [.int (xs (i + 1))]) (rest := [.int (fo z &&& 255)]) ⟨hx, hb, hml, hown, hts⟩ (metX1_out l D cB cI H.size m0 m1 m2 m3 go (xs (i + 1)) z hz ez) (cwV 1 hts (lw_V q354 q355 q356 q8 q357) rfl rfl rfl (by decide +kernel) ⟨Nat.le_of_ble_eq_true rfl, Nat.le_of_ble_eq_true rfl⟩) ⟨PreE.blind, va_recv hK hP (ci := 1) (q0 := 4) rfl rfl, preE hE hP hD hS hA [4, 7] rfl rfl⟩ rfl rfl hl.1 rfl (lv_room (Nat.le_of_ble_eq_true rfl)) dL_law_252 ⟨by show 8 + 9 * k + 0 ≤ 600096; omega, by show 134 + 68 * k + 0 ≤ 7301386; omega⟩)) (fun r9 (e9 : r9 = go z) => ?_)
        subst e9
        refine lv_icmp_eq (tgt := 260) hx hb dL_law_255 (by decide) (fun _ => ?_) (fun c9 => absurd (h3 z hz) c9)
        refine lv_iinc (v := nI (i + 6)) (lv' := [(3, .int (nI (i + 6))), (2, .ref m0), (1, .ref d0), (0, .ref b)]) hx hb dL_law_260 hl (k := 0) rfl (nI_add _ 6) (by decide) rfl (fun ls hl => ?_)
        refine lv_goto (tgt := 18) hx hb dL_law_263 (by decide) ?_
        refine W.widen (k := 8 + 9 * (k + 1)) (n := 134 + 68 * (k + 1)) (by omega) (by omega) ?_
        exact ih (k + 1) (i + 6) (by omega) (by omega) hlt fk fb fo gk gb go h1 h2 h3 H locs ls hP hD hS (lv_sub hl [0, 1, 2, 3] rfl)
      · refine lv_tableOut (tgt := 260) hx hb dL_law_33 (by decide) (by decide) ?_
        refine lv_iinc (v := nI (i + 6)) (lv' := [(3, .int (nI (i + 6))), (2, .ref m0), (1, .ref d0), (0, .ref b)]) hx hb dL_law_260 hl (k := 0) rfl (nI_add _ 6) (by decide) rfl (fun ls hl => ?_)
        refine lv_goto (tgt := 18) hx hb dL_law_263 (by decide) ?_
        refine W.widen (k := 8 + 9 * (k + 1)) (n := 134 + 68 * (k + 1)) (by omega) (by omega) ?_
        exact ih (k + 1) (i + 6) (by omega) (by omega) hlt fk fb fo gk gb go h1 h2 h3 H locs ls hP hD hS (lv_sub hl [0, 1, 2, 3] rfl)
      · refine lv_tableOut (tgt := 260) hx hb dL_law_33 (by decide) (by decide) ?_
        refine lv_iinc (v := nI (i + 6)) (lv' := [(3, .int (nI (i + 6))), (2, .ref m0), (1, .ref d0), (0, .ref b)]) hx hb dL_law_260 hl (k := 0) rfl (nI_add _ 6) (by decide) rfl (fun ls hl => ?_)
        refine lv_goto (tgt := 18) hx hb dL_law_263 (by decide) ?_
        refine W.widen (k := 8 + 9 * (k + 1)) (n := 134 + 68 * (k + 1)) (by omega) (by omega) ?_
        exact ih (k + 1) (i + 6) (by omega) (by omega) hlt fk fb fo gk gb go h1 h2 h3 H locs ls hP hD hS (lv_sub hl [0, 1, 2, 3] rfl)
end
section
set_option maxHeartbeats 4000000 in
set_option maxRecDepth 100000 in
theorem whole_start {p : Program} {e : Env} {s : State} {m : MethodId} {below : List Frame} {meth : Method} {c : Code} (l : Launch) (hflags : l.flags = flags0) {b L : Nat} {xs : Nat → Int32} (hL : L ≤ 288) (C0 : lw_At p s m meth c b L xs) : W p l e room_1 s m #[Value.ref b] below meth c s.heap [] 0 0 (lw_Z below #[Value.ref b] s) (entryFrame m ([Value.ref b] : List Value).toArray 4) := by
  obtain ⟨hx, hb, hr, hml, hown, hts0, hX, hbl, hlocks, hgv⟩ := id C0
  have hts : ∀ w ∈ lw_all, w.before #[Value.ref b] s = true := fun w h => hts0 w (lw_all_tbl h)
  obtain ⟨A, hA, hA2⟩ : ∃ A : Nat → Prop, (∀ q, s.heap.size ≤ q → A q) ∧ (∀ q, A q → s.heap.size ≤ q) := ⟨fun q => s.heap.size ≤ q, fun _ h => h, fun _ h => h⟩
  obtain ⟨D, cB, cI, hE⟩ := ev_start hA2 hts0 hgv
  have hK := hE.1
  have hS : va_S A s.heap s.heap [] := va_S.rf
  have hP : va_P D vwCl [] s.heap := fun k q h => by simp at h
  have hD : va_D A [] := ⟨fun i j p q h => by simp at h, fun k q h => by simp at h⟩
  have hl := lv_entry ([.ref b]) (n := 4) (Nat.le_of_ble_eq_true rfl)
  rw [lg_entry_eq]
  generalize (lg_sl ([.ref b]) ++ List.replicate (4 - (lg_sl ([.ref b])).length) Slot.unset).toArray = ls at hl ⊢
  have hl : lv_has ls 4 [(0, .ref b)] := hl
  refine va_new (D := D) (ci := 0) (fs := [.null, .null, .null]) (C := RX0) (T := TX0) (N := 3) hx hb hts in_X0 tyX0 tyX0_ok hown (hts _ q23) (hts _ q24) (hts _ q7) hK hP hD hS hA rfl (fun j hj => by rcases (show j = 0 ∨ j = 1 ∨ j = 2 by omega) with rfl | rfl | rfl <;> rfl) (Nat.le_of_ble_eq_true rfl) (Nat.le_of_ble_eq_true rfl) dL_law_0 (fun n1 H hP hD hS => ?_)
  have hP : va_P D vwCl [(n1, .inr (0, [.null, .null, .null]))] H := hP
  have hD : va_D A [(n1, .inr (0, [.null, .null, .null]))] := hD
  refine W.widen (k := 1) (n := 3) (Nat.le_refl _) (Nat.le_refl _) ?_
  refine lv_dup hx hb dL_law_3 rfl ?_
  refine k_v (D := D) (wc := [(n1, .inr (0, [.null, .null, .null]))]) (wr := []) (va_runI (As := []) (rest := [.ref n1]) ⟨hx, hb, hml, hown, hts⟩ (metX0_init l D cB cI H.size n1) (cwI 0 hts (lw_meth q27) rfl rfl rfl (hts _ q7) (hts _ q25) (hts _ q26) rfl (by decide +kernel) ⟨Nat.le_of_ble_eq_true rfl, Nat.le_of_ble_eq_true rfl⟩) ⟨PreE.blind, preE hE hP hD hS hA [0] rfl rfl⟩ rfl rfl hl.1 rfl (lv_room (Nat.le_of_ble_eq_true rfl)) dL_law_4 ⟨Nat.le_of_ble_eq_true rfl, Nat.le_of_ble_eq_true rfl⟩) hP hD hS hA [0] [] rfl rfl rfl (by decide) [0, 1, 2, 3] rfl (fun u : (Nat × Nat × Nat) => [(n1, .inr (0, [.ref u.1, .ref u.2.1, .ref u.2.2])), (u.1, .inl (cB, 32, .inl (fun _ => 0))), (u.2.1, .inl (cB, 16, .inl (fun _ => 0))), (u.2.2, .inl (cB, 16, .inl (fun _ => 0)))]) (fun _ => rfl) (fun u H locs hP hD hS => ?_)
  refine W.widen (k := 4) (n := 67) (Nat.le_refl _) (Nat.le_refl _) ?_
  obtain ⟨d1, d2, d3⟩ := u
  have hP : va_P D vwCl [(n1, .inr (0, [.ref d1, .ref d2, .ref d3])), (d1, .inl (cB, 32, .inl (fun _ => 0))), (d2, .inl (cB, 16, .inl (fun _ => 0))), (d3, .inl (cB, 16, .inl (fun _ => 0)))] H := hP
  have hD : va_D A [(n1, .inr (0, [.ref d1, .ref d2, .ref d3])), (d1, .inl (cB, 32, .inl (fun _ => 0))), (d2, .inl (cB, 16, .inl (fun _ => 0))), (d3, .inl (cB, 16, .inl (fun _ => 0)))] := hD
  refine lv_astore_n (lv' := [(1, .ref n1), (0, .ref b)]) hx hb dL_law_7 rfl hl (by decide) rfl (fun ls hl => ?_)
  refine va_new (D := D) (ci := 1) (fs := [.null, .null, .null]) (C := RX1) (T := TX1) (N := 3) hx hb hts in_X1 tyX1 tyX1_ok hown (hts _ q283) (hts _ q284) (hts _ q8) hK hP hD hS hA rfl (fun j hj => by rcases (show j = 0 ∨ j = 1 ∨ j = 2 by omega) with rfl | rfl | rfl <;> rfl) (Nat.le_of_ble_eq_true rfl) (Nat.le_of_ble_eq_true rfl) dL_law_8 (fun n2 H hP hD hS => ?_)
  have hP : va_P D vwCl [(n1, .inr (0, [.ref d1, .ref d2, .ref d3])), (d1, .inl (cB, 32, .inl (fun _ => 0))), (d2, .inl (cB, 16, .inl (fun _ => 0))), (d3, .inl (cB, 16, .inl (fun _ => 0))), (n2, .inr (1, [.null, .null, .null]))] H := hP
  have hD : va_D A [(n1, .inr (0, [.ref d1, .ref d2, .ref d3])), (d1, .inl (cB, 32, .inl (fun _ => 0))), (d2, .inl (cB, 16, .inl (fun _ => 0))), (d3, .inl (cB, 16, .inl (fun _ => 0))), (n2, .inr (1, [.null, .null, .null]))] := hD
  refine W.widen (k := 5) (n := 70) (Nat.le_refl _) (Nat.le_refl _) ?_
  refine lv_dup hx hb dL_law_11 rfl ?_
  refine k_v (D := D) (wc := [(n2, .inr (1, [.null, .null, .null]))]) (wr := [(n1, .inr (0, [.ref d1, .ref d2, .ref d3])), (d1, .inl (cB, 32, .inl (fun _ => 0))), (d2, .inl (cB, 16, .inl (fun _ => 0))), (d3, .inl (cB, 16, .inl (fun _ => 0)))]) (va_runI (As := []) (rest := [.ref n2]) ⟨hx, hb, hml, hown, hts⟩ (metX1_init l D cB cI H.size n2) (cwI 0 hts (lw_meth q287) rfl rfl rfl (hts _ q8) (hts _ q285) (hts _ q286) rfl (by decide +kernel) ⟨Nat.le_of_ble_eq_true rfl, Nat.le_of_ble_eq_true rfl⟩) ⟨PreE.blind, preE hE hP hD hS hA [4] rfl rfl⟩ rfl rfl hl.1 rfl (lv_room (Nat.le_of_ble_eq_true rfl)) dL_law_12 ⟨Nat.le_of_ble_eq_true rfl, Nat.le_of_ble_eq_true rfl⟩) hP hD hS hA [4] [0, 1, 2, 3] rfl rfl rfl (by decide) [0, 1, 2, 3, 4, 5, 6, 7] rfl (fun u : (Nat × Nat × Nat) => [(n1, .inr (0, [.ref d1, .ref d2, .ref d3])), (d1, .inl (cB, 32, .inl (fun _ => 0))), (d2, .inl (cB, 16, .inl (fun _ => 0))), (d3, .inl (cB, 16, .inl (fun _ => 0))), (n2, .inr (1, [.ref u.1, .ref u.2.1, .ref u.2.2])), (u.1, .inl (cI, 32, .inl (fun _ => 0))), (u.2.1, .inl (cI, 16, .inl (fun _ => 0))), (u.2.2, .inl (cI, 16, .inl (fun _ => 0)))]) (fun _ => rfl) (fun u H locs hP hD hS => ?_)
  refine W.widen (k := 8) (n := 134) (Nat.le_refl _) (Nat.le_refl _) ?_
  obtain ⟨m1, m2, m3⟩ := u
  have hP : va_P D vwCl [(n1, .inr (0, [.ref d1, .ref d2, .ref d3])), (d1, .inl (cB, 32, .inl (fun _ => 0))), (d2, .inl (cB, 16, .inl (fun _ => 0))), (d3, .inl (cB, 16, .inl (fun _ => 0))), (n2, .inr (1, [.ref m1, .ref m2, .ref m3])), (m1, .inl (cI, 32, .inl (fun _ => 0))), (m2, .inl (cI, 16, .inl (fun _ => 0))), (m3, .inl (cI, 16, .inl (fun _ => 0)))] H := hP
  have hD : va_D A [(n1, .inr (0, [.ref d1, .ref d2, .ref d3])), (d1, .inl (cB, 32, .inl (fun _ => 0))), (d2, .inl (cB, 16, .inl (fun _ => 0))), (d3, .inl (cB, 16, .inl (fun _ => 0))), (n2, .inr (1, [.ref m1, .ref m2, .ref m3])), (m1, .inl (cI, 32, .inl (fun _ => 0))), (m2, .inl (cI, 16, .inl (fun _ => 0))), (m3, .inl (cI, 16, .inl (fun _ => 0)))] := hD
  refine lv_astore_n (lv' := [(2, .ref n2), (1, .ref n1), (0, .ref b)]) hx hb dL_law_15 rfl hl (by decide) rfl (fun ls hl => ?_)
  refine lv_iconst (v := 0) hx hb dL_law_16 (by decide) ?_
  refine lv_istore_n (lv' := [(3, .int 0), (2, .ref n2), (1, .ref n1), (0, .ref b)]) hx hb dL_law_17 rfl hl (by decide) rfl (fun ls hl => ?_)
  exact law_loop hL C0 hE hA hA2 _ _ _ _ _ _ _ _ 49 0 0 (by omega) (by omega) (by omega) (fun _ => 0) (fun _ => 0) (fun _ => 0) (fun _ => 0) (fun _ => 0) (fun _ => 0) (Rel.zero 32) (Rel.zero 16) (Rel.zero 16) H locs ls hP hD hS (lv_sub hl [0, 1, 2, 3] rfl)
set_option maxHeartbeats 4000000 in
theorem lw_walk (l : Launch) (hflags : l.flags = flags0) (b : Addr) (xs : List Int32) : MetFree l x (headSpec (Jvm.Cond.code x code maxLocals ret :: tables_1) room_1) (lw_P b xs) (fun _ _ _ _ _ => True) lw_Q := by
  refine MetFree.of_bodyS (code := code) (maxLocals := maxLocals) (ret := ret) (by decide) ?_ ?_
  · intro args s m h hn
    obtain ⟨meth, c, h1, h2, h3, h4, h5, h6, -, -⟩ := Cond.code_spec hn (atoms_spec (ws := Jvm.Cond.code x code maxLocals ret :: tables_1) h _ List.mem_cons_self)
    exact ⟨meth, c, h1, h2, h3, h4, h5, h6⟩
  · intro p e s m args below meth c s₁ B hml0 hP _
    obtain ⟨rfl, hx, hbd, hgv⟩ := hP
    obtain ⟨scr, harrAt, hlist, hof, hsmall⟩ := hx
    obtain ⟨hcb, hkn, -, -⟩ := State.arrayAt?_spec harrAt
    have hown : s.vm.findClass R_law = some m.cls := findClass_of_methodNamed B.named
    have hts0 : ∀ c ∈ (Jvm.Cond.code x code maxLocals ret :: tables_1), c.before #[Value.ref b] s = true := atoms_spec (ws := Jvm.Cond.code x code maxLocals ret :: tables_1) B.pre
    have hts : ∀ w ∈ lw_tbl, w.before #[Value.ref b] s = true := k2_hts_sels lw_privs (fun w hw => hts0 w (List.mem_cons_of_mem _ hw)) lw_privs_ok
    have hml : c.maxLocals = 4 := B.maxLocals_eq (hts0 _ List.mem_cons_self)
    have X₀ : Stand p l e room_1 s m #[Value.ref b] below meth c s₁ [] 0 0 := Stand.of_body B
    have hh0 : s₁.heap = s.heap := by rw [B.state]; rfl
    have hsz : scr.slots.size = xs.length := by rw [← Array.length_toList, hlist, List.length_map]
    have hval : ∀ j : Nat, j < xs.length → scr.slots[j]? = some (.int (xs.getD j 0)) := fun j hj => by
      rw [← Array.getElem?_toList, hlist]
      simp [hj]
    have hbl : b < s.heap.size := (Array.getElem?_eq_some_iff.mp hcb).1
    have hX : va_X b xs.length (fun j => xs.getD j 0) s s.heap := ⟨scr, hcb, hof, hkn, hsz, hval⟩
    have K : W p l e room_1 s m #[Value.ref b] below meth c s₁.heap [] 0 0 (lw_Z below #[Value.ref b] s) (entryFrame m ([Value.ref b] : List Value).toArray 4) := by
      rw [hh0]
      exact whole_start l hflags hbd ⟨B.exec, B.bytes, B.returns, hml, hown, hts, hX, hbl, B.notSynchronized, hgv⟩
    obtain ⟨t, a1, o, b1, b2, b3⟩ := K s₁ rfl X₀
    exact ⟨t, o, a1, b1, b2, b3⟩
theorem lw_pre_spec {args : Array Value} {s : State} (h : (Jvm.Cond.and given_1 narrow_1).before args s = true) (hr : rest_1_c.before args s = true) : ∃ (b : Addr) (xs : List Int32), lw_P b xs args s := by
  have hs := flat_of_before _ h
  have hq := flat_of_before _ hr
  have hc : (Cond.count 1).before args s = true := hs _ (by decide +kernel)
  have harr : (Cond.arrayOf (.arg 0) .int).before args s = true := hs _ (by decide +kernel)
  have hle : (Cond.le (.length (.arg 0)) (.int 288)).before args s = true := hs _ (by decide +kernel)
  have hlen : (Cond.isInt (.length (.arg 0))).before args s = true := hq _ (by decide +kernel)
  have hall : (Cond.all (.arg 0) (.isInt (.elem (.arg 0) (.index 0)))).before args s = true := hq _ (by decide +kernel)
  obtain ⟨b, xs, hb, hx⟩ := State.ints_of_pre rfl harr hlen hall
  have hsm : xs.length < 2 ^ 31 := hx.choose_spec.2.2.2
  have hev : (Term.length (.arg 0)).eval args s none [] s = some (.int xs.length.toInt32) := hx.length_eval hb
  have hv := Cond.le_ints hev (show (Term.int 288).eval args s none [] s = some (.int 288) from rfl)
  have hd : xs.length.toInt32 ≤ 288 := by
    simpa [Cond.before, Cond.holds, hv] using hle
  have hN : xs.length ≤ 288 := (Int32.ofNat_le_ofNat hsm (by decide)).mp (show Int32.ofNat xs.length ≤ Int32.ofNat 288 from hd)
  exact ⟨b, xs, Cond.one_arg hc (show args[0]? = some (.ref b) from hb), hx, hN, h⟩
theorem lw_comes (l : Launch) (hflags : l.flags = flags0) : Comes l x (Jvm.Cond.code x code maxLocals ret :: tables_1) room_1 (fun tb e args s => Calls_1 tb e args s ∧ rest_1 tb e args s ∧ Pre_1 tb e args s)
    (fun _ _ args s o t => lw_Q args s o t) := by
  intro p e ha hc hk s m args below hf hfit hheap happ hpre
  obtain ⟨b, xs, hP⟩ := lw_pre_spec hpre.2.2 hpre.2.1
  obtain ⟨k, o, h1, h2, h3, hQ⟩ := lw_walk l hflags b xs p e ha hc hk s m args below hf ((Spec.applies_iff_loose hf).mp happ).1 hP trivial
  exact ⟨k, o, h1, h2, h3, hQ⟩
theorem lw_frame {s t : State} {o : Outcome} {args : Array Value} (h : Framed s o t [] 600096 7301386) :
    Framed s o t (fieldLocs frame_1_writes args s ++ arrayLocs frame_1_arrays args s ++ staticLocs frame_1_statics s) 600096 7301386 := h
theorem lw_limb (L : Cond) (hL : ∀ (args : Array Value) (s t : State), L.after args s (.returned (some (.int 1))) t = true) :
    ArmFor flags0 classFile x code maxLocals ret World_1 tables_1 room_1 Calls_1 rest_1 Pre_1
      (fun tb e a s o t => postC L tb e a s o t ∧ Framed s o t (fieldLocs frame_1_writes a s ++ arrayLocs frame_1_arrays a s ++ staticLocs frame_1_statics s) 600096 7301386) := by
  intro l hflags _ _ p e ha hc hk s m args below hf hfit hheap happ hpre
  obtain ⟨k, o, h1, h2, h3, rfl, hF⟩ := lw_comes l hflags p e ha hc hk s m args below hf hfit hheap happ hpre
  exact ⟨k, _, h1, h2, h3, hL args s _, lw_frame hF⟩
theorem i_vc : Claimed_1_1 ∧ Claimed_1_2 := ⟨lw_limb limb_1_1 (fun args s t => by simp [limb_1_1, Cond.after, Cond.holds, Cond.value]), lw_limb limb_1_2 (fun args s t => Cond.after_iff.mpr (by
  first | (rw [show limb_1_2 = Cond.eq .result (.int 1) from rfl, Cond.eq_ints (x := 1) (y := 1) rfl rfl]; simp; done) | (simp [limb_1_2, Cond.value, Term.eval]; done)))⟩
end
